import JvmDerived
import JvmDerived.Pilot.@@N@@Statement
import JvmDerived.Pilot.@@N@@Code
set_option linter.unusedVariables false
set_option linter.unusedSimpArgs false
namespace Jvm.Pilot.@@N@@
open Jvm Jvm.ClassFile Sem Op Lib Jvm.Free Jvm.Stand Jvm.Pilot.@@N@@.Jvm.D
/-! MADE BY PROGRAM (witnessworld.py) out of the Statement's table words and the real class files: 29 classes; the members and pool entries that the words name. The judged class is class 1, her method 1. -/
namespace start1
open Jvm.ClassFile
def u (s : String) : CpInfo := .utf8 (stringToUtf16 s)
/-- a pool by its gaps: so many unusable entries, then the entry; so many at the end -/
def gap : Nat → List CpInfo → List CpInfo
  | 0, r => r
  | n + 1, r => .unusable :: gap n r
def poolList (es : List (Nat × CpInfo)) (last : Nat) : List CpInfo := es.foldr (fun e r => gap e.1 (e.2 :: r)) (gap last [])
def pool (es : List (Nat × CpInfo)) (last : Nat) : Array CpInfo := ⟨poolList es last⟩
def fileOf (pool : Array CpInfo) (this : Nat) (attrs : Array Attribute := #[]) (ms : Array MethodInfo := #[]) (fl : Nat := 33) (sup : Nat := 0) (ifs : Array Nat := #[]) (fds : Array FieldInfo := #[]) : ClassFile where
  minorVersion := 0
  majorVersion := 65
  constantPool := pool
  accessFlags := fl
  thisClass := this
  superClass := sup
  interfaces := ifs
  fields := fds
  methods := ms
  attributes := attrs
def plain (name : String) (sup : Option ClassId) : Class where
  name := name
  kind := .ordinary
  loader := none
  accessFlags := 33
  super := sup
  interfaces := #[]
  cf := none
  fields := #[]
  methods := #[]
  instanceTypes := #[]
  staticTypes := #[]
  resolved := #[]
  callSites := []
  init := .initialized
  statics := none
  mirror := none

def pool0 : Array CpInfo := pool [(5, u "<init>"), (0, u "()V"), (1, .class_ 10), (1, u "java/lang/Object"), (85, u "clone"), (0, u "()Ljava/lang/Object;")] 26

def k0c0 : Code := { maxStack := 0, maxLocals := 1, code := object_method_1_code, exceptionTable := #[], attributes := #[] }
def k0m0 : Method := { name := "<init>", desc := "()V", sig := { parameters := [], returnType := none }, accessFlags := 1, code := some k0c0 }
def k0m1 : Method := { name := "clone", desc := "()Ljava/lang/Object;", sig := { parameters := [], returnType := some (.object "java/lang/Object") }, accessFlags := 260, code := none }
/-- java/lang/Object -/
def k0 : Class := { plain "java/lang/Object" none with
  accessFlags := 33
  interfaces := #[]
  cf := some (fileOf pool0 8 #[] #[{ accessFlags := 1, nameIndex := 5, descriptorIndex := 6, attributes := #[] }, { accessFlags := 260, nameIndex := 96, descriptorIndex := 97, attributes := #[] }] 33 0 #[] #[])
  fields := #[]
  methods := #[k0m0, k0m1]
  instanceTypes := #[]
  staticTypes := #[]
  resolved := Array.replicate 124 none
  statics := none }

def pool1 : Array CpInfo := pool [(2, .class_ 4), (1, u "java/lang/Object"), (0, u "<init>"), (0, u "()V"), (0, .integer 2147483647), (0, .integer 65533), (0, .methodref 10 11), (0, .class_ 12), (0, .nameAndType 13 14), (0, u "com/example/claimward/claimward/keys/KeyLocation"), (0, u "text"), (0, u "([B)Ljava/lang/String;"), (0, .methodref 16 17), (0, .class_ 18), (0, .nameAndType 19 20), (0, u "com/example/claimward/claimward/keys/KeyLocationTextPinLaw"), (0, u "two"), (0, u "(Ljava/lang/String;CC)Z"), (0, .integer 61440), (0, .integer 55296), (0, .integer 1048576), (0, .integer 65536), (0, .methodref 26 27), (0, .class_ 28), (0, .nameAndType 29 30), (0, u "java/lang/String"), (0, u "length"), (0, u "()I"), (0, .methodref 26 32), (0, .nameAndType 33 34), (0, u "charAt"), (0, u "(I)C"), (0, .integer 56320), (0, .methodref 26 37), (0, .nameAndType 38 39), (0, u "isEmpty"), (0, u "()Z"), (2, u "law"), (0, u "(III)Z")] 8

def k1m0 : Method := { name := "<init>", desc := "()V", sig := { parameters := [], returnType := none }, accessFlags := 2, code := none }
def k1c1 : Code := { maxStack := 6, maxLocals := 11, code := code, exceptionTable := #[], attributes := #[] }
def k1m1 : Method := { name := "law", desc := "(III)Z", sig := { parameters := [.int, .int, .int], returnType := some .boolean }, accessFlags := 9, code := some k1c1 }
def k1c2 : Code := { maxStack := 2, maxLocals := 3, code := method_3_code, exceptionTable := #[], attributes := #[] }
def k1m2 : Method := { name := "two", desc := "(Ljava/lang/String;CC)Z", sig := { parameters := [(.object "java/lang/String"), .char, .char], returnType := some .boolean }, accessFlags := 10, code := some k1c2 }
/-- com/example/claimward/claimward/keys/KeyLocationTextPinLaw -/
def k1 : Class := { plain "com/example/claimward/claimward/keys/KeyLocationTextPinLaw" (some 0) with
  accessFlags := 49
  interfaces := #[]
  cf := some (fileOf pool1 16 #[] #[{ accessFlags := 2, nameIndex := 5, descriptorIndex := 6, attributes := #[] }, { accessFlags := 9, nameIndex := 42, descriptorIndex := 43, attributes := #[] }, { accessFlags := 10, nameIndex := 19, descriptorIndex := 20, attributes := #[] }] 49 2 #[] #[])
  fields := #[]
  methods := #[k1m0, k1m1, k1m2]
  instanceTypes := #[]
  staticTypes := #[]
  resolved := Array.replicate 52 none
  statics := none }

def pool2 : Array CpInfo := pool [(2, .class_ 4), (1, u "java/lang/Object"), (0, u "<init>"), (0, u "()V"), (1, .class_ 10), (1, u "java/lang/String"), (24, .class_ 37), (1, u "com/example/claimward/claimward/keys/KeyLocation"), (158, u "text"), (0, u "([B)Ljava/lang/String;"), (0, .integer 1048576), (2, .fieldref 202 203), (0, .class_ 204), (0, .nameAndType 205 206), (0, u "java/nio/charset/StandardCharsets"), (0, u "UTF_8"), (0, u "Ljava/nio/charset/Charset;"), (0, .methodref 8 208), (0, .nameAndType 5 209), (0, u "([BLjava/nio/charset/Charset;)V"), (8, u "MAX_BYTES"), (0, u "I")] 39

def k2m0 : Method := { name := "<init>", desc := "()V", sig := { parameters := [], returnType := none }, accessFlags := 2, code := none }
def k2c1 : Code := { maxStack := 4, maxLocals := 1, code := prog_6_method_12_code, exceptionTable := #[], attributes := #[] }
def k2m1 : Method := { name := "text", desc := "([B)Ljava/lang/String;", sig := { parameters := [(.array .byte)], returnType := some (.object "java/lang/String") }, accessFlags := 8, code := some k2c1 }
/-- com/example/claimward/claimward/keys/KeyLocation -/
def k2 : Class := { plain "com/example/claimward/claimward/keys/KeyLocation" (some 0) with
  accessFlags := 49
  interfaces := #[]
  cf := some (fileOf pool2 35 #[] #[{ accessFlags := 2, nameIndex := 5, descriptorIndex := 6, attributes := #[] }, { accessFlags := 8, nameIndex := 196, descriptorIndex := 197, attributes := #[] }] 49 2 #[] #[{ accessFlags := 25, nameIndex := 218, descriptorIndex := 219, attributes := #[] }])
  fields := #[{ name := "MAX_BYTES", type := .int, accessFlags := 25, slot := 0, constantValue := 0 }]
  methods := #[k2m0, k2m1]
  instanceTypes := #[]
  staticTypes := #[.int]
  resolved := Array.replicate 259 none
  statics := none }

def pool3 : Array CpInfo := pool [(1, .class_ 2), (0, u "java/io/Serializable"), (0, .class_ 4), (0, u "java/lang/Object")] 2

/-- java/io/Serializable -/
def k3 : Class := { plain "java/io/Serializable" (some 0) with
  accessFlags := 1537
  interfaces := #[]
  cf := some (fileOf pool3 1 #[] #[] 1537 3 #[] #[])
  fields := #[]
  methods := #[]
  instanceTypes := #[]
  staticTypes := #[]
  resolved := Array.replicate 7 none
  statics := none }

def pool4 : Array CpInfo := pool [(1, .class_ 2), (0, u "java/lang/Comparable"), (0, .class_ 4), (0, u "java/lang/Object")] 7

/-- java/lang/Comparable -/
def k4 : Class := { plain "java/lang/Comparable" (some 0) with
  accessFlags := 1537
  interfaces := #[]
  cf := some (fileOf pool4 1 #[] #[] 1537 3 #[] #[])
  fields := #[]
  methods := #[]
  instanceTypes := #[]
  staticTypes := #[]
  resolved := Array.replicate 12 none
  statics := none }

def pool5 : Array CpInfo := pool [(2, .class_ 4), (1, u "java/lang/CharSequence"), (42, .class_ 48), (0, u "java/lang/CharSequence$1CodePointIterator"), (10, .class_ 60), (0, u "java/lang/CharSequence$1CharIterator"), (5, .class_ 67), (0, u "java/lang/Object")] 63

/-- java/lang/CharSequence -/
def k5 : Class := { plain "java/lang/CharSequence" (some 0) with
  accessFlags := 1537
  interfaces := #[]
  cf := some (fileOf pool5 2 #[.nestMembers #[47, 59]] #[] 1537 66 #[] #[])
  fields := #[]
  methods := #[]
  instanceTypes := #[]
  staticTypes := #[]
  resolved := Array.replicate 131 none
  statics := none }

def pool6 : Array CpInfo := pool [(1, .class_ 2), (0, u "java/lang/constant/Constable"), (0, .class_ 4), (0, u "java/lang/Object")] 6

/-- java/lang/constant/Constable -/
def k6 : Class := { plain "java/lang/constant/Constable" (some 0) with
  accessFlags := 1537
  interfaces := #[]
  cf := some (fileOf pool6 1 #[] #[] 1537 3 #[] #[])
  fields := #[]
  methods := #[]
  instanceTypes := #[]
  staticTypes := #[]
  resolved := Array.replicate 11 none
  statics := none }

def pool7 : Array CpInfo := pool [(1, .class_ 2), (0, u "java/lang/constant/ConstantDesc"), (0, .class_ 4), (0, u "java/lang/Object")] 32

/-- java/lang/constant/ConstantDesc -/
def k7 : Class := { plain "java/lang/constant/ConstantDesc" (some 0) with
  accessFlags := 1537
  interfaces := #[]
  cf := some (fileOf pool7 1 #[] #[] 1537 3 #[] #[])
  fields := #[]
  methods := #[]
  instanceTypes := #[]
  staticTypes := #[]
  resolved := Array.replicate 37 none
  statics := none }

def pool8 : Array CpInfo := pool [(1, .methodref 2 3), (0, .class_ 4), (0, .nameAndType 5 6), (0, u "java/lang/Object"), (0, u "<init>"), (0, u "()V"), (0, .string 8), (0, u ""), (0, .fieldref 10 11), (0, .class_ 12), (0, .nameAndType 13 14), (0, u "java/lang/String"), (0, u "value"), (0, u "[B"), (0, .fieldref 10 16), (0, .nameAndType 17 18), (0, u "coder"), (0, u "B"), (2, u "hash"), (0, u "I"), (2, u "hashIsZero"), (0, u "Z"), (9, u "checkBoundsOffCount"), (0, u "(III)I"), (0, .fieldref 10 39), (0, .nameAndType 40 26), (0, u "COMPACT_STRINGS"), (1, .class_ 44), (1, u "java/lang/StringUTF16"), (9, .methodref 55 56), (0, .class_ 57), (0, .nameAndType 58 59), (0, u "java/util/Arrays"), (0, u "copyOfRange"), (0, u "([BII)[B"), (0, .methodref 42 61), (0, .nameAndType 62 63), (0, u "newBytesFor"), (0, u "(I)[B"), (0, .methodref 42 65), (0, .nameAndType 66 67), (0, u "putChar"), (0, u "([BII)V"), (7, .methodref 10 76), (0, .nameAndType 5 77), (0, u "(Ljava/nio/charset/Charset;[BII)V"), (0, .methodref 79 80), (0, .class_ 81), (0, .nameAndType 82 83), (0, u "java/util/Objects"), (0, u "requireNonNull"), (0, u "(Ljava/lang/Object;)Ljava/lang/Object;"), (0, .class_ 85), (0, u "java/nio/charset/Charset"), (0, .fieldref 87 88), (0, .class_ 89), (0, .nameAndType 90 91), (0, u "sun/nio/cs/UTF_8"), (0, u "INSTANCE"), (0, u "Lsun/nio/cs/UTF_8;"), (0, .methodref 93 94), (0, .class_ 95), (0, .nameAndType 96 97), (0, u "java/lang/StringCoding"), (0, u "countPositives"), (0, u "([BII)I"), (0, .methodref 10 99), (0, .nameAndType 100 101), (0, u "decode2"), (0, u "(II)C"), (0, .methodref 55 103), (0, .nameAndType 104 105), (0, u "copyOf"), (0, u "([BI)[B"), (0, .methodref 107 108), (0, .class_ 109), (0, .nameAndType 110 111), (0, u "java/lang/StringLatin1"), (0, u "inflate"), (0, u "([BI[BII)V"), (0, .methodref 10 113), (0, .nameAndType 114 115), (0, u "decodeUTF8_UTF16"), (0, u "([BII[BIZ)I"), (16, .integer 65533), (9, u "()Z"), (191, u "()I"), (0, .methodref 10 336), (0, .nameAndType 17 337), (0, u "()B"), (25, u "([BI)C"), (1, .class_ 367), (1, u "java/lang/Character"), (1, u "(C)Z"), (13, .integer 4294844288), (0, .integer 3678080), (0, .methodref 10 386), (0, .nameAndType 387 388), (0, u "isNotContinuation"), (0, u "(I)Z"), (2, u "(II)V"), (0, .methodref 10 393), (0, .nameAndType 394 395), (0, u "isMalformed3"), (0, u "(III)Z"), (4, .methodref 10 401), (0, .nameAndType 402 403), (0, u "decode3"), (0, u "(III)C"), (0, .methodref 365 405), (0, .nameAndType 406 369), (0, u "isSurrogate"), (0, .methodref 10 408), (0, .nameAndType 409 410), (0, u "isMalformed3_2"), (0, u "(II)Z"), (0, .methodref 10 412), (0, .nameAndType 413 414), (0, u "decode4"), (0, u "(IIII)I"), (0, .methodref 10 416), (0, .nameAndType 417 395), (0, u "isMalformed4"), (0, .methodref 365 419), (0, .nameAndType 420 388), (0, u "isSupplementaryCodePoint"), (3, .methodref 365 425), (0, .nameAndType 426 427), (0, u "highSurrogate"), (0, u "(I)C"), (0, .methodref 365 429), (0, .nameAndType 430 427), (0, u "lowSurrogate"), (0, .methodref 10 432), (0, .nameAndType 433 410), (0, u "isMalformed4_2"), (58, .methodref 10 493), (0, .nameAndType 494 142), (0, u "isLatin1"), (0, .methodref 107 496), (0, .nameAndType 497 363), (0, u "charAt"), (0, .methodref 42 496), (2, u "checkIndex"), (5, u "length"), (67, .class_ 576), (0, u "java/lang/CharSequence"), (22, u "CASE_INSENSITIVE_ORDER"), (0, u "Ljava/util/Comparator;"), (91, u "isEmpty"), (360, .fieldref 1054 1055), (0, .class_ 1056), (0, .nameAndType 1057 1058), (0, u "jdk/internal/util/Preconditions"), (0, u "SIOOBE_FORMATTER"), (0, u "Ljava/util/function/BiFunction;"), (0, .methodref 1054 1060), (0, .nameAndType 501 1061), (0, u "(IILjava/util/function/BiFunction;)I"), (2, u "(IIILjava/util/function/BiFunction;)I"), (0, .methodref 1054 1066), (0, .nameAndType 1067 1064), (0, u "checkFromIndexSize"), (33, u "serialPersistentFields"), (0, u "[Ljava/io/ObjectStreamField;"), (0, .class_ 1104), (0, u "java/lang/String$CaseInsensitiveComparator"), (1, .class_ 1107), (0, u "java/io/Serializable"), (0, .class_ 1109), (0, u "java/lang/Comparable"), (0, .class_ 1111), (0, u "java/lang/constant/Constable"), (0, .class_ 1113), (0, u "java/lang/constant/ConstantDesc"), (2, u "serialVersionUID"), (0, u "J"), (3, u "REPL"), (0, u "C"), (2, u "LATIN1"), (1, u "UTF16"), (101, u "([BLjava/nio/charset/Charset;)V")] 221

def k8m0 : Method := { name := "<init>", desc := "()V", sig := { parameters := [], returnType := none }, accessFlags := 1, code := none }
def k8c1 : Code := { maxStack := 6, maxLocals := 11, code := jdk_42_method_11_code, exceptionTable := #[{ startPc := 800, endPc := 813, handlerPc := 816, catchType := 202 }], attributes := #[] }
def k8m1 : Method := { name := "<init>", desc := "(Ljava/nio/charset/Charset;[BII)V", sig := { parameters := [(.object "java/nio/charset/Charset"), (.array .byte), .int, .int], returnType := none }, accessFlags := 2, code := some k8c1 }
def k8c2 : Code := { maxStack := 2, maxLocals := 1, code := jdk_42_method_29_code, exceptionTable := #[], attributes := #[] }
def k8m2 : Method := { name := "isNotContinuation", desc := "(I)Z", sig := { parameters := [.int], returnType := some .boolean }, accessFlags := 10, code := some k8c2 }
def k8c3 : Code := { maxStack := 2, maxLocals := 3, code := jdk_42_method_30_code, exceptionTable := #[], attributes := #[] }
def k8m3 : Method := { name := "isMalformed3", desc := "(III)Z", sig := { parameters := [.int, .int, .int], returnType := some .boolean }, accessFlags := 10, code := some k8c3 }
def k8c4 : Code := { maxStack := 2, maxLocals := 2, code := jdk_42_method_31_code, exceptionTable := #[], attributes := #[] }
def k8m4 : Method := { name := "isMalformed3_2", desc := "(II)Z", sig := { parameters := [.int, .int], returnType := some .boolean }, accessFlags := 10, code := some k8c4 }
def k8c5 : Code := { maxStack := 2, maxLocals := 3, code := jdk_42_method_32_code, exceptionTable := #[], attributes := #[] }
def k8m5 : Method := { name := "isMalformed4", desc := "(III)Z", sig := { parameters := [.int, .int, .int], returnType := some .boolean }, accessFlags := 10, code := some k8c5 }
def k8c6 : Code := { maxStack := 2, maxLocals := 2, code := jdk_42_method_33_code, exceptionTable := #[], attributes := #[] }
def k8m6 : Method := { name := "isMalformed4_2", desc := "(II)Z", sig := { parameters := [.int, .int], returnType := some .boolean }, accessFlags := 10, code := some k8c6 }
def k8c7 : Code := { maxStack := 2, maxLocals := 2, code := jdk_42_method_35_code, exceptionTable := #[], attributes := #[] }
def k8m7 : Method := { name := "decode2", desc := "(II)C", sig := { parameters := [.int, .int], returnType := some .char }, accessFlags := 10, code := some k8c7 }
def k8c8 : Code := { maxStack := 3, maxLocals := 3, code := jdk_42_method_36_code, exceptionTable := #[], attributes := #[] }
def k8m8 : Method := { name := "decode3", desc := "(III)C", sig := { parameters := [.int, .int, .int], returnType := some .char }, accessFlags := 10, code := some k8c8 }
def k8c9 : Code := { maxStack := 3, maxLocals := 4, code := jdk_42_method_37_code, exceptionTable := #[], attributes := #[] }
def k8m9 : Method := { name := "decode4", desc := "(IIII)I", sig := { parameters := [.int, .int, .int, .int], returnType := some .int }, accessFlags := 10, code := some k8c9 }
def k8c10 : Code := { maxStack := 4, maxLocals := 11, code := jdk_42_method_38_code, exceptionTable := #[], attributes := #[] }
def k8m10 : Method := { name := "decodeUTF8_UTF16", desc := "([BII[BIZ)I", sig := { parameters := [(.array .byte), .int, .int, (.array .byte), .int, .boolean], returnType := some .int }, accessFlags := 10, code := some k8c10 }
def k8c11 : Code := { maxStack := 5, maxLocals := 3, code := jdk_42_method_49_code, exceptionTable := #[], attributes := #[] }
def k8m11 : Method := { name := "<init>", desc := "([BLjava/nio/charset/Charset;)V", sig := { parameters := [(.array .byte), (.object "java/nio/charset/Charset")], returnType := none }, accessFlags := 1, code := some k8c11 }
def k8c12 : Code := { maxStack := 2, maxLocals := 1, code := jdk_42_method_54_code, exceptionTable := #[], attributes := #[] }
def k8m12 : Method := { name := "length", desc := "()I", sig := { parameters := [], returnType := some .int }, accessFlags := 1, code := some k8c12 }
def k8c13 : Code := { maxStack := 1, maxLocals := 1, code := jdk_42_method_55_code, exceptionTable := #[], attributes := #[] }
def k8m13 : Method := { name := "isEmpty", desc := "()Z", sig := { parameters := [], returnType := some .boolean }, accessFlags := 1, code := some k8c13 }
def k8c14 : Code := { maxStack := 2, maxLocals := 2, code := jdk_42_method_56_code, exceptionTable := #[], attributes := #[] }
def k8m14 : Method := { name := "charAt", desc := "(I)C", sig := { parameters := [.int], returnType := some .char }, accessFlags := 1, code := some k8c14 }
def k8c15 : Code := { maxStack := 1, maxLocals := 1, code := jdk_42_method_152_code, exceptionTable := #[], attributes := #[] }
def k8m15 : Method := { name := "coder", desc := "()B", sig := { parameters := [], returnType := some .byte }, accessFlags := 0, code := some k8c15 }
def k8c16 : Code := { maxStack := 1, maxLocals := 1, code := jdk_42_method_154_code, exceptionTable := #[], attributes := #[] }
def k8m16 : Method := { name := "isLatin1", desc := "()Z", sig := { parameters := [], returnType := some .boolean }, accessFlags := 0, code := some k8c16 }
def k8c17 : Code := { maxStack := 3, maxLocals := 2, code := jdk_42_method_155_code, exceptionTable := #[], attributes := #[] }
def k8m17 : Method := { name := "checkIndex", desc := "(II)V", sig := { parameters := [.int, .int], returnType := none }, accessFlags := 8, code := some k8c17 }
def k8c18 : Code := { maxStack := 4, maxLocals := 3, code := jdk_42_method_157_code, exceptionTable := #[], attributes := #[] }
def k8m18 : Method := { name := "checkBoundsOffCount", desc := "(III)I", sig := { parameters := [.int, .int, .int], returnType := some .int }, accessFlags := 8, code := some k8c18 }
/-- java/lang/String -/
def k8 : Class := { plain "java/lang/String" (some 0) with
  accessFlags := 49
  interfaces := #[3, 4, 5, 6, 7]
  cf := some (fileOf pool8 10 #[.nestMembers #[1103]] #[{ accessFlags := 1, nameIndex := 5, descriptorIndex := 6, attributes := #[] }, { accessFlags := 2, nameIndex := 5, descriptorIndex := 77, attributes := #[] }, { accessFlags := 10, nameIndex := 387, descriptorIndex := 388, attributes := #[] }, { accessFlags := 10, nameIndex := 394, descriptorIndex := 395, attributes := #[] }, { accessFlags := 10, nameIndex := 409, descriptorIndex := 410, attributes := #[] }, { accessFlags := 10, nameIndex := 417, descriptorIndex := 395, attributes := #[] }, { accessFlags := 10, nameIndex := 433, descriptorIndex := 410, attributes := #[] }, { accessFlags := 10, nameIndex := 100, descriptorIndex := 101, attributes := #[] }, { accessFlags := 10, nameIndex := 402, descriptorIndex := 403, attributes := #[] }, { accessFlags := 10, nameIndex := 413, descriptorIndex := 414, attributes := #[] }, { accessFlags := 10, nameIndex := 114, descriptorIndex := 115, attributes := #[] }, { accessFlags := 1, nameIndex := 5, descriptorIndex := 1229, attributes := #[] }, { accessFlags := 1, nameIndex := 507, descriptorIndex := 334, attributes := #[] }, { accessFlags := 1, nameIndex := 692, descriptorIndex := 142, attributes := #[] }, { accessFlags := 1, nameIndex := 497, descriptorIndex := 427, attributes := #[] }, { accessFlags := 0, nameIndex := 17, descriptorIndex := 337, attributes := #[] }, { accessFlags := 0, nameIndex := 494, descriptorIndex := 142, attributes := #[] }, { accessFlags := 8, nameIndex := 501, descriptorIndex := 391, attributes := #[] }, { accessFlags := 8, nameIndex := 36, descriptorIndex := 37, attributes := #[] }] 49 2 #[1106, 1108, 575, 1110, 1112] #[{ accessFlags := 18, nameIndex := 13, descriptorIndex := 14, attributes := #[] }, { accessFlags := 18, nameIndex := 17, descriptorIndex := 18, attributes := #[] }, { accessFlags := 2, nameIndex := 21, descriptorIndex := 22, attributes := #[] }, { accessFlags := 2, nameIndex := 25, descriptorIndex := 26, attributes := #[] }, { accessFlags := 26, nameIndex := 1116, descriptorIndex := 1117, attributes := #[] }, { accessFlags := 24, nameIndex := 40, descriptorIndex := 26, attributes := #[] }, { accessFlags := 26, nameIndex := 1101, descriptorIndex := 1102, attributes := #[] }, { accessFlags := 26, nameIndex := 1121, descriptorIndex := 1122, attributes := #[] }, { accessFlags := 25, nameIndex := 599, descriptorIndex := 600, attributes := #[] }, { accessFlags := 24, nameIndex := 1125, descriptorIndex := 18, attributes := #[] }, { accessFlags := 24, nameIndex := 1127, descriptorIndex := 18, attributes := #[] }])
  fields := #[{ name := "value", type := (.array .byte), accessFlags := 18, slot := 0, constantValue := 0 }, { name := "coder", type := .byte, accessFlags := 18, slot := 1, constantValue := 0 }, { name := "hash", type := .int, accessFlags := 2, slot := 2, constantValue := 0 }, { name := "hashIsZero", type := .boolean, accessFlags := 2, slot := 3, constantValue := 0 }, { name := "serialVersionUID", type := .long, accessFlags := 26, slot := 0, constantValue := 0 }, { name := "COMPACT_STRINGS", type := .boolean, accessFlags := 24, slot := 1, constantValue := 0 }, { name := "serialPersistentFields", type := (.array (.object "java/io/ObjectStreamField")), accessFlags := 26, slot := 2, constantValue := 0 }, { name := "REPL", type := .char, accessFlags := 26, slot := 3, constantValue := 0 }, { name := "CASE_INSENSITIVE_ORDER", type := (.object "java/util/Comparator"), accessFlags := 25, slot := 4, constantValue := 0 }, { name := "LATIN1", type := .byte, accessFlags := 24, slot := 5, constantValue := 0 }, { name := "UTF16", type := .byte, accessFlags := 24, slot := 6, constantValue := 0 }]
  methods := #[k8m0, k8m1, k8m2, k8m3, k8m4, k8m5, k8m6, k8m7, k8m8, k8m9, k8m10, k8m11, k8m12, k8m13, k8m14, k8m15, k8m16, k8m17, k8m18]
  instanceTypes := #[(.array .byte), .byte, .int, .boolean]
  staticTypes := #[.long, .boolean, (.array (.object "java/io/ObjectStreamField")), .char, (.object "java/util/Comparator"), .byte, .byte]
  resolved := Array.replicate 1451 none
  statics := some 0 }

def pool9 : Array CpInfo := pool [(2, .class_ 4), (1, u "java/lang/Object"), (0, u "<init>"), (0, u "()V"), (14, .class_ 23), (1, u "java/nio/charset/StandardCharsets"), (0, u "US_ASCII"), (0, u "Ljava/nio/charset/Charset;"), (7, u "ISO_8859_1"), (7, u "UTF_8"), (5, u "UTF_16BE"), (5, u "UTF_16LE"), (5, u "UTF_16")] 8

def k9m0 : Method := { name := "<init>", desc := "()V", sig := { parameters := [], returnType := none }, accessFlags := 2, code := none }
/-- java/nio/charset/StandardCharsets -/
def k9 : Class := { plain "java/nio/charset/StandardCharsets" (some 0) with
  accessFlags := 49
  interfaces := #[]
  cf := some (fileOf pool9 21 #[] #[{ accessFlags := 2, nameIndex := 5, descriptorIndex := 6, attributes := #[] }] 49 2 #[] #[{ accessFlags := 25, nameIndex := 24, descriptorIndex := 25, attributes := #[] }, { accessFlags := 25, nameIndex := 33, descriptorIndex := 25, attributes := #[] }, { accessFlags := 25, nameIndex := 41, descriptorIndex := 25, attributes := #[] }, { accessFlags := 25, nameIndex := 47, descriptorIndex := 25, attributes := #[] }, { accessFlags := 25, nameIndex := 53, descriptorIndex := 25, attributes := #[] }, { accessFlags := 25, nameIndex := 59, descriptorIndex := 25, attributes := #[] }])
  fields := #[{ name := "US_ASCII", type := (.object "java/nio/charset/Charset"), accessFlags := 25, slot := 0, constantValue := 0 }, { name := "ISO_8859_1", type := (.object "java/nio/charset/Charset"), accessFlags := 25, slot := 1, constantValue := 0 }, { name := "UTF_8", type := (.object "java/nio/charset/Charset"), accessFlags := 25, slot := 2, constantValue := 0 }, { name := "UTF_16BE", type := (.object "java/nio/charset/Charset"), accessFlags := 25, slot := 3, constantValue := 0 }, { name := "UTF_16LE", type := (.object "java/nio/charset/Charset"), accessFlags := 25, slot := 4, constantValue := 0 }, { name := "UTF_16", type := (.object "java/nio/charset/Charset"), accessFlags := 25, slot := 5, constantValue := 0 }]
  methods := #[k9m0]
  instanceTypes := #[]
  staticTypes := #[(.object "java/nio/charset/Charset"), (.object "java/nio/charset/Charset"), (.object "java/nio/charset/Charset"), (.object "java/nio/charset/Charset"), (.object "java/nio/charset/Charset"), (.object "java/nio/charset/Charset")]
  resolved := Array.replicate 68 none
  statics := some 1 }

def pool10 : Array CpInfo := pool [(2, .class_ 4), (1, u "java/lang/Object"), (0, u "<init>"), (0, u "()V"), (35, .class_ 44), (1, u "java/util/Objects"), (0, u "requireNonNull"), (0, u "(Ljava/lang/Object;)Ljava/lang/Object;")] 137

def k10m0 : Method := { name := "<init>", desc := "()V", sig := { parameters := [], returnType := none }, accessFlags := 2, code := none }
def k10c1 : Code := { maxStack := 2, maxLocals := 1, code := jdk_31_method_10_code, exceptionTable := #[], attributes := #[] }
def k10m1 : Method := { name := "requireNonNull", desc := "(Ljava/lang/Object;)Ljava/lang/Object;", sig := { parameters := [(.object "java/lang/Object")], returnType := some (.object "java/lang/Object") }, accessFlags := 9, code := some k10c1 }
/-- java/util/Objects -/
def k10 : Class := { plain "java/util/Objects" (some 0) with
  accessFlags := 49
  interfaces := #[]
  cf := some (fileOf pool10 42 #[] #[{ accessFlags := 2, nameIndex := 5, descriptorIndex := 6, attributes := #[] }, { accessFlags := 9, nameIndex := 45, descriptorIndex := 46, attributes := #[] }] 49 2 #[] #[])
  fields := #[]
  methods := #[k10m0, k10m1]
  instanceTypes := #[]
  staticTypes := #[]
  resolved := Array.replicate 184 none
  statics := none }

def pool11 : Array CpInfo := pool [(18, .class_ 20), (1, u "java/nio/charset/Charset"), (0, u "cache1"), (0, u "[Ljava/lang/Object;"), (2, u "cache2"), (0, .class_ 27), (0, u "java/lang/Object"), (0, .class_ 29), (0, u "java/nio/charset/Charset$1"), (4, .class_ 36), (1, u "java/nio/charset/Charset$ThreadTrackHolder"), (21, .class_ 59), (0, u "java/nio/charset/Charset$2"), (11, .class_ 73), (1, u "java/nio/charset/Charset$ExtendedProviderHolder"), (22, u "standardProvider"), (0, u "Ljava/nio/charset/spi/CharsetProvider;"), (29, u "name"), (7, .class_ 136), (0, u "java/nio/charset/Charset$3"), (5, u "defaultCharset"), (0, u "Ljava/nio/charset/Charset;"), (14, u "zeroAliases"), (0, u "[Ljava/lang/String;"), (29, u "Ljava/lang/String;"), (2, u "aliases"), (2, u "aliasSet"), (0, u "Ljava/util/Set;"), (82, .class_ 280), (0, u "java/lang/Comparable"), (84, .class_ 366), (0, u "java/nio/charset/Charset$ExtendedProviderHolder$1")] 3

/-- java/nio/charset/Charset -/
def k11 : Class := { plain "java/nio/charset/Charset" (some 0) with
  accessFlags := 1057
  interfaces := #[4]
  cf := some (fileOf pool11 18 #[.nestMembers #[71, 365, 34, 135, 58, 28]] #[] 1057 26 #[279] #[{ accessFlags := 26, nameIndex := 96, descriptorIndex := 97, attributes := #[] }, { accessFlags := 26, nameIndex := 158, descriptorIndex := 159, attributes := #[] }, { accessFlags := 74, nameIndex := 21, descriptorIndex := 22, attributes := #[] }, { accessFlags := 74, nameIndex := 25, descriptorIndex := 22, attributes := #[] }, { accessFlags := 10, nameIndex := 142, descriptorIndex := 143, attributes := #[] }, { accessFlags := 18, nameIndex := 127, descriptorIndex := 189, attributes := #[] }, { accessFlags := 18, nameIndex := 192, descriptorIndex := 159, attributes := #[] }, { accessFlags := 2, nameIndex := 195, descriptorIndex := 196, attributes := #[] }])
  fields := #[{ name := "standardProvider", type := (.object "java/nio/charset/spi/CharsetProvider"), accessFlags := 26, slot := 0, constantValue := 0 }, { name := "zeroAliases", type := (.array (.object "java/lang/String")), accessFlags := 26, slot := 1, constantValue := 0 }, { name := "cache1", type := (.array (.object "java/lang/Object")), accessFlags := 74, slot := 2, constantValue := 0 }, { name := "cache2", type := (.array (.object "java/lang/Object")), accessFlags := 74, slot := 3, constantValue := 0 }, { name := "defaultCharset", type := (.object "java/nio/charset/Charset"), accessFlags := 10, slot := 4, constantValue := 0 }, { name := "name", type := (.object "java/lang/String"), accessFlags := 18, slot := 0, constantValue := 0 }, { name := "aliases", type := (.array (.object "java/lang/String")), accessFlags := 18, slot := 1, constantValue := 0 }, { name := "aliasSet", type := (.object "java/util/Set"), accessFlags := 2, slot := 2, constantValue := 0 }]
  methods := #[]
  instanceTypes := #[(.object "java/lang/String"), (.array (.object "java/lang/String")), (.object "java/util/Set")]
  staticTypes := #[(.object "java/nio/charset/spi/CharsetProvider"), (.array (.object "java/lang/String")), (.array (.object "java/lang/Object")), (.array (.object "java/lang/Object")), (.object "java/nio/charset/Charset")]
  resolved := Array.replicate 370 none
  statics := none }

def pool12 : Array CpInfo := pool [(1, .class_ 2), (0, u "sun/nio/cs/HistoricallyNamedCharset"), (0, .class_ 4), (0, u "java/lang/Object")] 4

/-- sun/nio/cs/HistoricallyNamedCharset -/
def k12 : Class := { plain "sun/nio/cs/HistoricallyNamedCharset" (some 0) with
  accessFlags := 1537
  interfaces := #[]
  cf := some (fileOf pool12 1 #[] #[] 1537 3 #[] #[])
  fields := #[]
  methods := #[]
  instanceTypes := #[]
  staticTypes := #[]
  resolved := Array.replicate 9 none
  statics := none }

def pool13 : Array CpInfo := pool [(2, .class_ 4), (1, u "java/nio/charset/Charset"), (130, .class_ 136), (0, u "sun/nio/cs/Unicode"), (0, .class_ 138), (0, u "sun/nio/cs/HistoricallyNamedCharset")] 15

/-- sun/nio/cs/Unicode -/
def k13 : Class := { plain "sun/nio/cs/Unicode" (some 11) with
  accessFlags := 1056
  interfaces := #[12]
  cf := some (fileOf pool13 135 #[] #[] 1056 2 #[137] #[])
  fields := #[]
  methods := #[]
  instanceTypes := #[(.object "java/lang/String"), (.array (.object "java/lang/String")), (.object "java/util/Set")]
  staticTypes := #[]
  resolved := Array.replicate 154 none
  statics := none }

def pool14 : Array CpInfo := pool [(10, .class_ 12), (1, u "sun/nio/cs/Unicode"), (0, u "<init>"), (3, .class_ 18), (0, u "sun/nio/cs/UTF_8$Decoder"), (3, .class_ 23), (0, u "sun/nio/cs/UTF_8$Encoder"), (15, .class_ 40), (0, u "sun/nio/cs/UTF_8"), (2, u "()V"), (2, u "INSTANCE"), (0, u "Lsun/nio/cs/UTF_8;"), (8, u "JLA"), (0, u "Ljdk/internal/access/JavaLangAccess;")] 26

def k14m0 : Method := { name := "<init>", desc := "()V", sig := { parameters := [], returnType := none }, accessFlags := 1, code := none }
/-- sun/nio/cs/UTF_8 -/
def k14 : Class := { plain "sun/nio/cs/UTF_8" (some 13) with
  accessFlags := 49
  interfaces := #[]
  cf := some (fileOf pool14 39 #[.nestMembers #[22, 17]] #[{ accessFlags := 1, nameIndex := 13, descriptorIndex := 43, attributes := #[] }] 49 10 #[] #[{ accessFlags := 25, nameIndex := 46, descriptorIndex := 47, attributes := #[] }, { accessFlags := 26, nameIndex := 56, descriptorIndex := 57, attributes := #[] }])
  fields := #[{ name := "INSTANCE", type := (.object "sun/nio/cs/UTF_8"), accessFlags := 25, slot := 0, constantValue := 0 }, { name := "JLA", type := (.object "jdk/internal/access/JavaLangAccess"), accessFlags := 26, slot := 1, constantValue := 0 }]
  methods := #[k14m0]
  instanceTypes := #[(.object "java/lang/String"), (.array (.object "java/lang/String")), (.object "java/util/Set")]
  staticTypes := #[(.object "sun/nio/cs/UTF_8"), (.object "jdk/internal/access/JavaLangAccess")]
  resolved := Array.replicate 84 none
  statics := some 2 }

def pool15 : Array CpInfo := pool [(2, .class_ 4), (1, u "java/lang/Object"), (0, u "<init>"), (0, u "()V"), (1, .class_ 10), (1, u "java/lang/StringCoding"), (0, u "countPositives"), (0, u "([BII)I")] 36

def k15m0 : Method := { name := "<init>", desc := "()V", sig := { parameters := [], returnType := none }, accessFlags := 2, code := none }
def k15c1 : Code := { maxStack := 2, maxLocals := 5, code := jdk_123_method_3_code, exceptionTable := #[], attributes := #[] }
def k15m1 : Method := { name := "countPositives", desc := "([BII)I", sig := { parameters := [(.array .byte), .int, .int], returnType := some .int }, accessFlags := 9, code := some k15c1 }
/-- java/lang/StringCoding -/
def k15 : Class := { plain "java/lang/StringCoding" (some 0) with
  accessFlags := 32
  interfaces := #[]
  cf := some (fileOf pool15 8 #[] #[{ accessFlags := 2, nameIndex := 5, descriptorIndex := 6, attributes := #[] }, { accessFlags := 9, nameIndex := 11, descriptorIndex := 12, attributes := #[] }] 32 2 #[] #[])
  fields := #[]
  methods := #[k15m0, k15m1]
  instanceTypes := #[]
  staticTypes := #[]
  resolved := Array.replicate 49 none
  statics := none }

def pool16 : Array CpInfo := pool [(2, .class_ 4), (1, u "java/lang/Object"), (0, u "<init>"), (0, u "()V"), (7, .class_ 16), (1, u "java/util/Arrays"), (57, .class_ 76), (1, u "java/util/Arrays$NaturalOrder"), (32, u "()Ljava/lang/Object;"), (3, .class_ 115), (1, u "java/util/Arrays$LegacyMergeSort"), (1, u "Z"), (10, .nameAndType 129 109), (0, u "clone"), (9, u "copyOfRange"), (10, .methodref 151 152), (0, .class_ 153), (0, .nameAndType 154 155), (0, u "java/lang/System"), (0, u "arraycopy"), (0, u "(Ljava/lang/Object;ILjava/lang/Object;II)V"), (146, u "copyOf"), (1, .methodref 305 306), (0, .class_ 307), (0, .nameAndType 308 309), (0, u "java/lang/Math"), (0, u "min"), (0, u "(II)I"), (0, .methodref 311 128), (0, .class_ 312), (0, u "[B"), (29, u "([BII)[B"), (32, .class_ 376), (0, u "java/util/Arrays$ArrayList"), (68, u "$assertionsDisabled"), (269, u "MIN_ARRAY_SORT_GRAN"), (0, u "I"), (2, u "INSERTIONSORT_THRESHOLD"), (149, u "([BI)[B"), (105, .class_ 976), (0, u "java/util/Arrays$ArrayItr")] 52

def k16m0 : Method := { name := "<init>", desc := "()V", sig := { parameters := [], returnType := none }, accessFlags := 2, code := none }
def k16c1 : Code := { maxStack := 6, maxLocals := 3, code := jdk_65_method_121_code, exceptionTable := #[], attributes := #[] }
def k16m1 : Method := { name := "copyOf", desc := "([BI)[B", sig := { parameters := [(.array .byte), .int], returnType := some (.array .byte) }, accessFlags := 9, code := some k16c1 }
def k16c2 : Code := { maxStack := 3, maxLocals := 3, code := jdk_65_method_132_code, exceptionTable := #[], attributes := #[] }
def k16m2 : Method := { name := "copyOfRange", desc := "([BII)[B", sig := { parameters := [(.array .byte), .int, .int], returnType := some (.array .byte) }, accessFlags := 9, code := some k16c2 }
/-- java/util/Arrays -/
def k16 : Class := { plain "java/util/Arrays" (some 0) with
  accessFlags := 49
  interfaces := #[]
  cf := some (fileOf pool16 14 #[.nestMembers #[975, 375, 113, 74]] #[{ accessFlags := 2, nameIndex := 5, descriptorIndex := 6, attributes := #[] }, { accessFlags := 9, nameIndex := 302, descriptorIndex := 869, attributes := #[] }, { accessFlags := 9, nameIndex := 139, descriptorIndex := 342, attributes := #[] }] 49 2 #[] #[{ accessFlags := 26, nameIndex := 715, descriptorIndex := 716, attributes := #[] }, { accessFlags := 26, nameIndex := 719, descriptorIndex := 716, attributes := #[] }, { accessFlags := 4120, nameIndex := 445, descriptorIndex := 117, attributes := #[] }])
  fields := #[{ name := "MIN_ARRAY_SORT_GRAN", type := .int, accessFlags := 26, slot := 0, constantValue := 0 }, { name := "INSERTIONSORT_THRESHOLD", type := .int, accessFlags := 26, slot := 1, constantValue := 0 }, { name := "$assertionsDisabled", type := .boolean, accessFlags := 4120, slot := 2, constantValue := 0 }]
  methods := #[k16m0, k16m1, k16m2]
  instanceTypes := #[]
  staticTypes := #[.int, .int, .boolean]
  resolved := Array.replicate 1029 none
  statics := none }

def pool17 : Array CpInfo := pool [(1, .class_ 2), (0, u "java/lang/Cloneable"), (0, .class_ 4), (0, u "java/lang/Object")] 2

/-- java/lang/Cloneable -/
def k17 : Class := { plain "java/lang/Cloneable" (some 0) with
  accessFlags := 1537
  interfaces := #[]
  cf := some (fileOf pool17 1 #[] #[] 1537 3 #[] #[])
  fields := #[]
  methods := #[]
  instanceTypes := #[]
  staticTypes := #[]
  resolved := Array.replicate 7 none
  statics := none }

def pool18 : Array CpInfo := pool [(1, .class_ 2), (0, u "java/lang/String"), (1, .class_ 6), (1, u "java/lang/Object"), (0, u "<init>"), (0, u "()V"), (0, .methodref 1 10), (0, .nameAndType 11 12), (0, u "checkIndex"), (0, u "(II)V"), (1, .class_ 16), (1, u "java/lang/StringLatin1"), (0, u "inflate"), (2, .class_ 22), (1, u "java/lang/StringUTF16"), (3, .nameAndType 17 27), (0, u "([BI[BII)V"), (25, u "([BI)C"), (67, u "$assertionsDisabled"), (0, u "Z"), (98, .class_ 223), (1, u "java/lang/StringLatin1$LinesSpliterator"), (16, .methodref 20 26), (11, u "charAt"), (137, .class_ 391), (0, u "java/lang/StringLatin1$CharsSpliterator")] 3

def k18m0 : Method := { name := "<init>", desc := "()V", sig := { parameters := [], returnType := none }, accessFlags := 0, code := none }
def k18c1 : Code := { maxStack := 2, maxLocals := 2, code := jdk_43_method_2_code, exceptionTable := #[], attributes := #[] }
def k18m1 : Method := { name := "charAt", desc := "([BI)C", sig := { parameters := [(.array .byte), .int], returnType := some .char }, accessFlags := 9, code := some k18c1 }
def k18c2 : Code := { maxStack := 5, maxLocals := 5, code := jdk_43_method_50_code, exceptionTable := #[], attributes := #[] }
def k18m2 : Method := { name := "inflate", desc := "([BI[BII)V", sig := { parameters := [(.array .byte), .int, (.array .byte), .int, .int], returnType := none }, accessFlags := 9, code := some k18c2 }
/-- java/lang/StringLatin1 -/
def k18 : Class := { plain "java/lang/StringLatin1" (some 0) with
  accessFlags := 48
  interfaces := #[]
  cf := some (fileOf pool18 14 #[.nestMembers #[390, 221]] #[{ accessFlags := 0, nameIndex := 7, descriptorIndex := 8, attributes := #[] }, { accessFlags := 9, nameIndex := 252, descriptorIndex := 53, attributes := #[] }, { accessFlags := 9, nameIndex := 17, descriptorIndex := 27, attributes := #[] }] 48 4 #[] #[{ accessFlags := 4120, nameIndex := 121, descriptorIndex := 122, attributes := #[] }])
  fields := #[{ name := "$assertionsDisabled", type := .boolean, accessFlags := 4120, slot := 0, constantValue := 0 }]
  methods := #[k18m0, k18m1, k18m2]
  instanceTypes := #[]
  staticTypes := #[.boolean]
  resolved := Array.replicate 395 none
  statics := none }

def pool19 : Array CpInfo := pool [(2, .class_ 4), (1, u "java/lang/Object"), (0, u "<init>"), (0, u "()V"), (17, .class_ 26), (1, u "jdk/internal/util/Preconditions"), (6, u "checkIndex"), (15, u "checkFromIndexSize"), (5, .class_ 56), (0, u "jdk/internal/util/Preconditions$4"), (57, .class_ 115), (0, u "jdk/internal/util/Preconditions$1"), (7, u "SIOOBE_FORMATTER"), (0, u "Ljava/util/function/BiFunction;"), (0, .class_ 126), (0, u "jdk/internal/util/Preconditions$2"), (3, u "AIOOBE_FORMATTER"), (0, .class_ 132), (0, u "jdk/internal/util/Preconditions$3"), (3, u "IOOBE_FORMATTER"), (41, u "(IILjava/util/function/BiFunction;)I"), (4, u "(IIILjava/util/function/BiFunction;)I")] 10

def k19m0 : Method := { name := "<init>", desc := "()V", sig := { parameters := [], returnType := none }, accessFlags := 1, code := none }
def k19c1 : Code := { maxStack := 3, maxLocals := 3, code := jdk_41_method_11_code, exceptionTable := #[], attributes := #[] }
def k19m1 : Method := { name := "checkIndex", desc := "(IILjava/util/function/BiFunction;)I", sig := { parameters := [.int, .int, (.object "java/util/function/BiFunction")], returnType := some .int }, accessFlags := 9, code := some k19c1 }
def k19c2 : Code := { maxStack := 4, maxLocals := 4, code := jdk_41_method_13_code, exceptionTable := #[], attributes := #[] }
def k19m2 : Method := { name := "checkFromIndexSize", desc := "(IIILjava/util/function/BiFunction;)I", sig := { parameters := [.int, .int, .int, (.object "java/util/function/BiFunction")], returnType := some .int }, accessFlags := 9, code := some k19c2 }
/-- jdk/internal/util/Preconditions -/
def k19 : Class := { plain "jdk/internal/util/Preconditions" (some 0) with
  accessFlags := 33
  interfaces := #[]
  cf := some (fileOf pool19 24 #[.nestMembers #[55, 131, 125, 114]] #[{ accessFlags := 1, nameIndex := 5, descriptorIndex := 6, attributes := #[] }, { accessFlags := 9, nameIndex := 33, descriptorIndex := 178, attributes := #[] }, { accessFlags := 9, nameIndex := 49, descriptorIndex := 183, attributes := #[] }] 33 2 #[] #[{ accessFlags := 25, nameIndex := 123, descriptorIndex := 124, attributes := #[] }, { accessFlags := 25, nameIndex := 130, descriptorIndex := 124, attributes := #[] }, { accessFlags := 25, nameIndex := 136, descriptorIndex := 124, attributes := #[] }])
  fields := #[{ name := "SIOOBE_FORMATTER", type := (.object "java/util/function/BiFunction"), accessFlags := 25, slot := 0, constantValue := 0 }, { name := "AIOOBE_FORMATTER", type := (.object "java/util/function/BiFunction"), accessFlags := 25, slot := 1, constantValue := 0 }, { name := "IOOBE_FORMATTER", type := (.object "java/util/function/BiFunction"), accessFlags := 25, slot := 2, constantValue := 0 }]
  methods := #[k19m0, k19m1, k19m2]
  instanceTypes := #[]
  staticTypes := #[(.object "java/util/function/BiFunction"), (.object "java/util/function/BiFunction"), (.object "java/util/function/BiFunction")]
  resolved := Array.replicate 194 none
  statics := some 3 }

def pool20 : Array CpInfo := pool [(1, .class_ 2), (0, u "java/lang/Math"), (1, .class_ 6), (1, u "java/lang/Object"), (0, u "<init>"), (0, u "()V"), (89, .class_ 100), (1, u "java/lang/Math$RandomNumberGeneratorHolder"), (71, u "negativeZeroFloatBits"), (0, u "J"), (2, u "negativeZeroDoubleBits"), (24, u "min"), (43, u "$assertionsDisabled"), (0, u "Z"), (88, u "(II)I"), (2, u "twoToTheDoubleScaleDown"), (0, u "D"), (4, u "twoToTheDoubleScaleUp"), (9, u "E"), (3, u "PI"), (2, u "TAU"), (2, u "DEGREES_TO_RADIANS"), (0, u "RADIANS_TO_DEGREES")] 94

def k20m0 : Method := { name := "<init>", desc := "()V", sig := { parameters := [], returnType := none }, accessFlags := 2, code := none }
def k20c1 : Code := { maxStack := 2, maxLocals := 2, code := jdk_29_method_69_code, exceptionTable := #[], attributes := #[] }
def k20m1 : Method := { name := "min", desc := "(II)I", sig := { parameters := [.int, .int], returnType := some .int }, accessFlags := 9, code := some k20c1 }
/-- java/lang/Math -/
def k20 : Class := { plain "java/lang/Math" (some 0) with
  accessFlags := 49
  interfaces := #[]
  cf := some (fileOf pool20 1 #[.nestMembers #[98]] #[{ accessFlags := 2, nameIndex := 7, descriptorIndex := 8, attributes := #[] }, { accessFlags := 9, nameIndex := 201, descriptorIndex := 335, attributes := #[] }] 49 4 #[] #[{ accessFlags := 25, nameIndex := 354, descriptorIndex := 339, attributes := #[] }, { accessFlags := 25, nameIndex := 358, descriptorIndex := 339, attributes := #[] }, { accessFlags := 25, nameIndex := 361, descriptorIndex := 339, attributes := #[] }, { accessFlags := 26, nameIndex := 364, descriptorIndex := 339, attributes := #[] }, { accessFlags := 26, nameIndex := 365, descriptorIndex := 339, attributes := #[] }, { accessFlags := 26, nameIndex := 172, descriptorIndex := 173, attributes := #[] }, { accessFlags := 26, nameIndex := 176, descriptorIndex := 173, attributes := #[] }, { accessFlags := 8, nameIndex := 344, descriptorIndex := 339, attributes := #[] }, { accessFlags := 8, nameIndex := 338, descriptorIndex := 339, attributes := #[] }, { accessFlags := 4120, nameIndex := 245, descriptorIndex := 246, attributes := #[] }])
  fields := #[{ name := "E", type := .double, accessFlags := 25, slot := 0, constantValue := 0 }, { name := "PI", type := .double, accessFlags := 25, slot := 1, constantValue := 0 }, { name := "TAU", type := .double, accessFlags := 25, slot := 2, constantValue := 0 }, { name := "DEGREES_TO_RADIANS", type := .double, accessFlags := 26, slot := 3, constantValue := 0 }, { name := "RADIANS_TO_DEGREES", type := .double, accessFlags := 26, slot := 4, constantValue := 0 }, { name := "negativeZeroFloatBits", type := .long, accessFlags := 26, slot := 5, constantValue := 0 }, { name := "negativeZeroDoubleBits", type := .long, accessFlags := 26, slot := 6, constantValue := 0 }, { name := "twoToTheDoubleScaleUp", type := .double, accessFlags := 8, slot := 7, constantValue := 0 }, { name := "twoToTheDoubleScaleDown", type := .double, accessFlags := 8, slot := 8, constantValue := 0 }, { name := "$assertionsDisabled", type := .boolean, accessFlags := 4120, slot := 9, constantValue := 0 }]
  methods := #[k20m0, k20m1]
  instanceTypes := #[]
  staticTypes := #[.double, .double, .double, .double, .double, .long, .long, .double, .double, .boolean]
  resolved := Array.replicate 460 none
  statics := none }

def pool21 : Array CpInfo := pool [(2, .class_ 4), (1, u "java/lang/Object"), (0, u "<init>"), (0, u "()V"), (1, .class_ 10), (1, u "java/lang/System"), (0, u "allowSecurityManager"), (0, u "I"), (16, u "cons"), (0, u "Ljava/io/Console;"), (77, .class_ 110), (1, u "java/lang/System$CallersHolder"), (43, u "initialErrStream"), (0, u "Ljava/io/PrintStream;"), (19, u "security"), (0, u "Ljava/lang/SecurityManager;"), (31, .class_ 209), (0, u "java/lang/System$1"), (7, u "props"), (0, u "Ljava/util/Properties;"), (2, u "lineSeparator"), (0, u "Ljava/lang/String;"), (96, .class_ 321), (1, u "java/lang/System$LoggerFinder"), (5, .class_ 328), (0, u "java/lang/System$Logger"), (67, u "err"), (2, u "out"), (91, u "notSupportedJnuEncoding"), (15, u "in"), (17, u "initialIn"), (0, u "Ljava/io/InputStream;"), (35, u "bootLayer"), (0, u "Ljava/lang/ModuleLayer;"), (99, .class_ 664), (0, u "java/lang/System$2"), (9, u "NEVER"), (2, u "MAYBE"), (49, u "arraycopy"), (0, u "(Ljava/lang/Object;ILjava/lang/Object;II)V"), (72, .class_ 802), (0, u "java/lang/System$Logger$Level")] 31

def k21m0 : Method := { name := "<init>", desc := "()V", sig := { parameters := [], returnType := none }, accessFlags := 2, code := none }
def k21m1 : Method := { name := "arraycopy", desc := "(Ljava/lang/Object;ILjava/lang/Object;II)V", sig := { parameters := [(.object "java/lang/Object"), .int, (.object "java/lang/Object"), .int, .int], returnType := none }, accessFlags := 265, code := none }
/-- java/lang/System -/
def k21 : Class := { plain "java/lang/System" (some 0) with
  accessFlags := 49
  interfaces := #[]
  cf := some (fileOf pool21 8 #[.nestMembers #[319, 327, 801, 108, 663, 208]] #[{ accessFlags := 2, nameIndex := 5, descriptorIndex := 6, attributes := #[] }, { accessFlags := 265, nameIndex := 727, descriptorIndex := 728, attributes := #[] }] 49 2 #[] #[{ accessFlags := 25, nameIndex := 507, descriptorIndex := 526, attributes := #[] }, { accessFlags := 25, nameIndex := 399, descriptorIndex := 155, attributes := #[] }, { accessFlags := 25, nameIndex := 396, descriptorIndex := 155, attributes := #[] }, { accessFlags := 10, nameIndex := 525, descriptorIndex := 526, attributes := #[] }, { accessFlags := 26, nameIndex := 674, descriptorIndex := 12, attributes := #[] }, { accessFlags := 26, nameIndex := 677, descriptorIndex := 12, attributes := #[] }, { accessFlags := 10, nameIndex := 11, descriptorIndex := 12, attributes := #[] }, { accessFlags := 74, nameIndex := 175, descriptorIndex := 176, attributes := #[] }, { accessFlags := 10, nameIndex := 491, descriptorIndex := 222, attributes := #[] }, { accessFlags := 74, nameIndex := 29, descriptorIndex := 30, attributes := #[] }, { accessFlags := 74, nameIndex := 154, descriptorIndex := 155, attributes := #[] }, { accessFlags := 10, nameIndex := 217, descriptorIndex := 218, attributes := #[] }, { accessFlags := 10, nameIndex := 221, descriptorIndex := 222, attributes := #[] }, { accessFlags := 8, nameIndex := 562, descriptorIndex := 563, attributes := #[] }])
  fields := #[{ name := "in", type := (.object "java/io/InputStream"), accessFlags := 25, slot := 0, constantValue := 0 }, { name := "out", type := (.object "java/io/PrintStream"), accessFlags := 25, slot := 1, constantValue := 0 }, { name := "err", type := (.object "java/io/PrintStream"), accessFlags := 25, slot := 2, constantValue := 0 }, { name := "initialIn", type := (.object "java/io/InputStream"), accessFlags := 10, slot := 3, constantValue := 0 }, { name := "NEVER", type := .int, accessFlags := 26, slot := 4, constantValue := 0 }, { name := "MAYBE", type := .int, accessFlags := 26, slot := 5, constantValue := 0 }, { name := "allowSecurityManager", type := .int, accessFlags := 10, slot := 6, constantValue := 0 }, { name := "security", type := (.object "java/lang/SecurityManager"), accessFlags := 74, slot := 7, constantValue := 0 }, { name := "notSupportedJnuEncoding", type := (.object "java/lang/String"), accessFlags := 10, slot := 8, constantValue := 0 }, { name := "cons", type := (.object "java/io/Console"), accessFlags := 74, slot := 9, constantValue := 0 }, { name := "initialErrStream", type := (.object "java/io/PrintStream"), accessFlags := 74, slot := 10, constantValue := 0 }, { name := "props", type := (.object "java/util/Properties"), accessFlags := 10, slot := 11, constantValue := 0 }, { name := "lineSeparator", type := (.object "java/lang/String"), accessFlags := 10, slot := 12, constantValue := 0 }, { name := "bootLayer", type := (.object "java/lang/ModuleLayer"), accessFlags := 8, slot := 13, constantValue := 0 }]
  methods := #[k21m0, k21m1]
  instanceTypes := #[]
  staticTypes := #[(.object "java/io/InputStream"), (.object "java/io/PrintStream"), (.object "java/io/PrintStream"), (.object "java/io/InputStream"), .int, .int, .int, (.object "java/lang/SecurityManager"), (.object "java/lang/String"), (.object "java/io/Console"), (.object "java/io/PrintStream"), (.object "java/util/Properties"), (.object "java/lang/String"), (.object "java/lang/ModuleLayer")]
  resolved := Array.replicate 834 none
  statics := none }

def pool22 : Array CpInfo := pool [(3, .class_ 4), (0, u "java/lang/String"), (1, .class_ 8), (1, u "java/lang/Object"), (0, u "<init>"), (0, u "()V"), (0, .methodref 12 13), (0, .class_ 14), (0, .nameAndType 15 16), (0, u "java/lang/StringUTF16"), (0, u "newBytesLength"), (0, u "(I)I"), (3, .integer 1073741823), (23, .fieldref 12 45), (0, .nameAndType 46 47), (0, u "$assertionsDisabled"), (0, u "Z"), (0, .methodref 12 49), (0, .nameAndType 50 51), (0, u "length"), (0, u "([B)I"), (7, .fieldref 12 60), (0, .nameAndType 61 62), (0, u "HI_BYTE_SHIFT"), (0, u "I"), (0, .fieldref 12 64), (0, .nameAndType 65 62), (0, u "LO_BYTE_SHIFT"), (1, .methodref 12 68), (0, .nameAndType 69 70), (0, u "checkIndex"), (0, u "(I[B)V"), (0, .methodref 12 72), (0, .nameAndType 73 74), (0, u "getChar"), (0, u "([BI)C"), (24, u "(II[B)V"), (9, u "newBytesFor"), (0, u "(I)[B"), (2, u "putChar"), (0, u "([BII)V"), (25, u "inflate"), (0, u "([BI[BII)V"), (31, .methodref 12 174), (0, .nameAndType 175 99), (0, u "checkBoundsOffCount"), (105, u "(III)I"), (87, .class_ 371), (1, u "java/lang/StringUTF16$LinesSpliterator"), (20, u "charAt"), (21, .methodref 3 415), (0, .nameAndType 69 416), (0, u "(II)V"), (2, .methodref 3 420), (0, .nameAndType 175 281), (9, u "MAX_LENGTH"), (196, .class_ 628), (0, u "java/lang/StringUTF16$CodePointsSpliterator"), (0, .class_ 630), (0, u "java/lang/StringUTF16$CharsSpliterator")] 4

def k22m0 : Method := { name := "<init>", desc := "()V", sig := { parameters := [], returnType := none }, accessFlags := 0, code := none }
def k22c1 : Code := { maxStack := 1, maxLocals := 1, code := jdk_52_method_2_code, exceptionTable := #[], attributes := #[] }
def k22m1 : Method := { name := "newBytesFor", desc := "(I)[B", sig := { parameters := [.int], returnType := some (.array .byte) }, accessFlags := 9, code := some k22c1 }
def k22c2 : Code := { maxStack := 4, maxLocals := 1, code := jdk_52_method_3_code, exceptionTable := #[], attributes := #[] }
def k22m2 : Method := { name := "newBytesLength", desc := "(I)I", sig := { parameters := [.int], returnType := some .int }, accessFlags := 9, code := some k22c2 }
def k22c3 : Code := { maxStack := 4, maxLocals := 3, code := jdk_52_method_4_code, exceptionTable := #[], attributes := #[] }
def k22m3 : Method := { name := "putChar", desc := "([BII)V", sig := { parameters := [(.array .byte), .int, .int], returnType := none }, accessFlags := 8, code := some k22c3 }
def k22c4 : Code := { maxStack := 3, maxLocals := 2, code := jdk_52_method_5_code, exceptionTable := #[], attributes := #[] }
def k22m4 : Method := { name := "getChar", desc := "([BI)C", sig := { parameters := [(.array .byte), .int], returnType := some .char }, accessFlags := 8, code := some k22c4 }
def k22c5 : Code := { maxStack := 2, maxLocals := 1, code := jdk_52_method_6_code, exceptionTable := #[], attributes := #[] }
def k22m5 : Method := { name := "length", desc := "([B)I", sig := { parameters := [(.array .byte)], returnType := some .int }, accessFlags := 9, code := some k22c5 }
def k22c6 : Code := { maxStack := 2, maxLocals := 2, code := jdk_52_method_83_code, exceptionTable := #[], attributes := #[] }
def k22m6 : Method := { name := "charAt", desc := "([BI)C", sig := { parameters := [(.array .byte), .int], returnType := some .char }, accessFlags := 9, code := some k22c6 }
def k22c7 : Code := { maxStack := 4, maxLocals := 6, code := jdk_52_method_86_code, exceptionTable := #[], attributes := #[] }
def k22m7 : Method := { name := "inflate", desc := "([BI[BII)V", sig := { parameters := [(.array .byte), .int, (.array .byte), .int, .int], returnType := none }, accessFlags := 9, code := some k22c7 }
def k22c8 : Code := { maxStack := 2, maxLocals := 2, code := jdk_52_method_91_code, exceptionTable := #[], attributes := #[] }
def k22m8 : Method := { name := "checkIndex", desc := "(I[B)V", sig := { parameters := [.int, (.array .byte)], returnType := none }, accessFlags := 9, code := some k22c8 }
def k22c9 : Code := { maxStack := 3, maxLocals := 3, code := jdk_52_method_94_code, exceptionTable := #[], attributes := #[] }
def k22m9 : Method := { name := "checkBoundsOffCount", desc := "(II[B)V", sig := { parameters := [.int, .int, (.array .byte)], returnType := none }, accessFlags := 9, code := some k22c9 }
/-- java/lang/StringUTF16 -/
def k22 : Class := { plain "java/lang/StringUTF16" (some 0) with
  accessFlags := 48
  interfaces := #[]
  cf := some (fileOf pool22 12 #[.nestMembers #[627, 629, 369]] #[{ accessFlags := 0, nameIndex := 9, descriptorIndex := 10, attributes := #[] }, { accessFlags := 9, nameIndex := 109, descriptorIndex := 110, attributes := #[] }, { accessFlags := 9, nameIndex := 15, descriptorIndex := 16, attributes := #[] }, { accessFlags := 8, nameIndex := 113, descriptorIndex := 114, attributes := #[] }, { accessFlags := 8, nameIndex := 73, descriptorIndex := 74, attributes := #[] }, { accessFlags := 9, nameIndex := 50, descriptorIndex := 51, attributes := #[] }, { accessFlags := 9, nameIndex := 392, descriptorIndex := 74, attributes := #[] }, { accessFlags := 9, nameIndex := 140, descriptorIndex := 141, attributes := #[] }, { accessFlags := 9, nameIndex := 69, descriptorIndex := 70, attributes := #[] }, { accessFlags := 9, nameIndex := 175, descriptorIndex := 99, attributes := #[] }] 48 6 #[] #[{ accessFlags := 26, nameIndex := 61, descriptorIndex := 62, attributes := #[] }, { accessFlags := 26, nameIndex := 65, descriptorIndex := 62, attributes := #[] }, { accessFlags := 24, nameIndex := 430, descriptorIndex := 62, attributes := #[] }, { accessFlags := 4120, nameIndex := 46, descriptorIndex := 47, attributes := #[] }])
  fields := #[{ name := "HI_BYTE_SHIFT", type := .int, accessFlags := 26, slot := 0, constantValue := 0 }, { name := "LO_BYTE_SHIFT", type := .int, accessFlags := 26, slot := 1, constantValue := 0 }, { name := "MAX_LENGTH", type := .int, accessFlags := 24, slot := 2, constantValue := 0 }, { name := "$assertionsDisabled", type := .boolean, accessFlags := 4120, slot := 3, constantValue := 0 }]
  methods := #[k22m0, k22m1, k22m2, k22m3, k22m4, k22m5, k22m6, k22m7, k22m8, k22m9]
  instanceTypes := #[]
  staticTypes := #[.int, .int, .int, .boolean]
  resolved := Array.replicate 635 none
  statics := some 4 }

def pool23 : Array CpInfo := pool [(1, .class_ 2), (0, u "java/lang/Character"), (18, u "value"), (0, u "C"), (19, .class_ 44), (1, u "java/lang/Object"), (3, .class_ 50), (1, u "java/lang/Character$CharacterCache"), (22, .integer 65536), (0, .integer 1114112), (0, .integer 55296), (0, .integer 56320), (0, .integer 57344), (3, u "(C)Z"), (9, u "(I)C"), (18, .integer 55232), (3, u "(I)Z"), (20, u "lowSurrogate"), (2, u "highSurrogate"), (145, u "$assertionsDisabled"), (0, u "Z"), (21, .class_ 309), (1, u "java/lang/Character$UnicodeBlock"), (73, u "TYPE"), (0, u "Ljava/lang/Class;"), (0, .class_ 386), (0, u "java/io/Serializable"), (0, .class_ 388), (0, u "java/lang/Comparable"), (0, .class_ 390), (0, u "java/lang/constant/Constable"), (0, u "MIN_RADIX"), (0, u "I"), (2, u "MAX_RADIX"), (1, u "MIN_VALUE"), (1, u "MAX_VALUE"), (3, u "UNASSIGNED"), (0, u "B"), (0, u "UPPERCASE_LETTER"), (1, u "LOWERCASE_LETTER"), (0, u "TITLECASE_LETTER"), (1, u "MODIFIER_LETTER"), (1, u "OTHER_LETTER"), (1, u "NON_SPACING_MARK"), (1, u "ENCLOSING_MARK"), (1, u "COMBINING_SPACING_MARK"), (1, u "DECIMAL_DIGIT_NUMBER"), (1, u "LETTER_NUMBER"), (1, u "OTHER_NUMBER"), (1, u "SPACE_SEPARATOR"), (1, u "LINE_SEPARATOR"), (1, u "PARAGRAPH_SEPARATOR"), (1, u "CONTROL"), (1, u "FORMAT"), (1, u "PRIVATE_USE"), (1, u "SURROGATE"), (1, u "DASH_PUNCTUATION"), (1, u "START_PUNCTUATION"), (1, u "END_PUNCTUATION"), (1, u "CONNECTOR_PUNCTUATION"), (1, u "OTHER_PUNCTUATION"), (1, u "MATH_SYMBOL"), (1, u "CURRENCY_SYMBOL"), (1, u "MODIFIER_SYMBOL"), (1, u "OTHER_SYMBOL"), (1, u "INITIAL_QUOTE_PUNCTUATION"), (1, u "FINAL_QUOTE_PUNCTUATION"), (1, u "ERROR"), (1, u "DIRECTIONALITY_UNDEFINED"), (0, u "DIRECTIONALITY_LEFT_TO_RIGHT"), (0, u "DIRECTIONALITY_RIGHT_TO_LEFT"), (0, u "DIRECTIONALITY_RIGHT_TO_LEFT_ARABIC"), (0, u "DIRECTIONALITY_EUROPEAN_NUMBER"), (0, u "DIRECTIONALITY_EUROPEAN_NUMBER_SEPARATOR"), (0, u "DIRECTIONALITY_EUROPEAN_NUMBER_TERMINATOR"), (0, u "DIRECTIONALITY_ARABIC_NUMBER"), (0, u "DIRECTIONALITY_COMMON_NUMBER_SEPARATOR"), (0, u "DIRECTIONALITY_NONSPACING_MARK"), (0, u "DIRECTIONALITY_BOUNDARY_NEUTRAL"), (0, u "DIRECTIONALITY_PARAGRAPH_SEPARATOR"), (0, u "DIRECTIONALITY_SEGMENT_SEPARATOR"), (0, u "DIRECTIONALITY_WHITESPACE"), (0, u "DIRECTIONALITY_OTHER_NEUTRALS"), (0, u "DIRECTIONALITY_LEFT_TO_RIGHT_EMBEDDING"), (0, u "DIRECTIONALITY_LEFT_TO_RIGHT_OVERRIDE"), (0, u "DIRECTIONALITY_RIGHT_TO_LEFT_EMBEDDING"), (0, u "DIRECTIONALITY_RIGHT_TO_LEFT_OVERRIDE"), (1, u "DIRECTIONALITY_POP_DIRECTIONAL_FORMAT"), (0, u "DIRECTIONALITY_LEFT_TO_RIGHT_ISOLATE"), (0, u "DIRECTIONALITY_RIGHT_TO_LEFT_ISOLATE"), (0, u "DIRECTIONALITY_FIRST_STRONG_ISOLATE"), (0, u "DIRECTIONALITY_POP_DIRECTIONAL_ISOLATE"), (0, u "MIN_HIGH_SURROGATE"), (0, u "MAX_HIGH_SURROGATE"), (1, u "MIN_LOW_SURROGATE"), (0, u "MAX_LOW_SURROGATE"), (1, u "MIN_SURROGATE"), (0, u "MAX_SURROGATE"), (0, u "MIN_SUPPLEMENTARY_CODE_POINT"), (0, u "MIN_CODE_POINT"), (0, u "MAX_CODE_POINT"), (1, u "serialVersionUID"), (0, u "J"), (2, u "SIZE"), (0, u "BYTES"), (22, u "isSupplementaryCodePoint"), (1, u "isSurrogate"), (63, .class_ 596), (0, u "java/lang/Character$UnicodeScript"), (0, .class_ 598), (0, u "java/lang/Character$Subset")] 5

def k23c0 : Code := { maxStack := 2, maxLocals := 1, code := jdk_89_method_13_code, exceptionTable := #[], attributes := #[] }
def k23m0 : Method := { name := "isSupplementaryCodePoint", desc := "(I)Z", sig := { parameters := [.int], returnType := some .boolean }, accessFlags := 9, code := some k23c0 }
def k23c1 : Code := { maxStack := 2, maxLocals := 1, code := jdk_89_method_16_code, exceptionTable := #[], attributes := #[] }
def k23m1 : Method := { name := "isSurrogate", desc := "(C)Z", sig := { parameters := [.char], returnType := some .boolean }, accessFlags := 9, code := some k23c1 }
def k23c2 : Code := { maxStack := 2, maxLocals := 1, code := jdk_89_method_28_code, exceptionTable := #[], attributes := #[] }
def k23m2 : Method := { name := "highSurrogate", desc := "(I)C", sig := { parameters := [.int], returnType := some .char }, accessFlags := 9, code := some k23c2 }
def k23c3 : Code := { maxStack := 2, maxLocals := 1, code := jdk_89_method_29_code, exceptionTable := #[], attributes := #[] }
def k23m3 : Method := { name := "lowSurrogate", desc := "(I)C", sig := { parameters := [.int], returnType := some .char }, accessFlags := 9, code := some k23c3 }
/-- java/lang/Character -/
def k23 : Class := { plain "java/lang/Character" (some 0) with
  accessFlags := 49
  interfaces := #[3, 4, 6]
  cf := some (fileOf pool23 1 #[.nestMembers #[48, 595, 307, 597]] #[{ accessFlags := 9, nameIndex := 529, descriptorIndex := 114, attributes := #[] }, { accessFlags := 9, nameIndex := 531, descriptorIndex := 81, attributes := #[] }, { accessFlags := 9, nameIndex := 138, descriptorIndex := 91, attributes := #[] }, { accessFlags := 9, nameIndex := 135, descriptorIndex := 91, attributes := #[] }] 49 42 #[385, 387, 389] #[{ accessFlags := 25, nameIndex := 391, descriptorIndex := 392, attributes := #[] }, { accessFlags := 25, nameIndex := 395, descriptorIndex := 392, attributes := #[] }, { accessFlags := 25, nameIndex := 397, descriptorIndex := 22, attributes := #[] }, { accessFlags := 25, nameIndex := 399, descriptorIndex := 22, attributes := #[] }, { accessFlags := 25, nameIndex := 383, descriptorIndex := 384, attributes := #[] }, { accessFlags := 25, nameIndex := 403, descriptorIndex := 404, attributes := #[] }, { accessFlags := 25, nameIndex := 405, descriptorIndex := 404, attributes := #[] }, { accessFlags := 25, nameIndex := 407, descriptorIndex := 404, attributes := #[] }, { accessFlags := 25, nameIndex := 408, descriptorIndex := 404, attributes := #[] }, { accessFlags := 25, nameIndex := 410, descriptorIndex := 404, attributes := #[] }, { accessFlags := 25, nameIndex := 412, descriptorIndex := 404, attributes := #[] }, { accessFlags := 25, nameIndex := 414, descriptorIndex := 404, attributes := #[] }, { accessFlags := 25, nameIndex := 416, descriptorIndex := 404, attributes := #[] }, { accessFlags := 25, nameIndex := 418, descriptorIndex := 404, attributes := #[] }, { accessFlags := 25, nameIndex := 420, descriptorIndex := 404, attributes := #[] }, { accessFlags := 25, nameIndex := 422, descriptorIndex := 404, attributes := #[] }, { accessFlags := 25, nameIndex := 424, descriptorIndex := 404, attributes := #[] }, { accessFlags := 25, nameIndex := 426, descriptorIndex := 404, attributes := #[] }, { accessFlags := 25, nameIndex := 428, descriptorIndex := 404, attributes := #[] }, { accessFlags := 25, nameIndex := 430, descriptorIndex := 404, attributes := #[] }, { accessFlags := 25, nameIndex := 432, descriptorIndex := 404, attributes := #[] }, { accessFlags := 25, nameIndex := 434, descriptorIndex := 404, attributes := #[] }, { accessFlags := 25, nameIndex := 436, descriptorIndex := 404, attributes := #[] }, { accessFlags := 25, nameIndex := 438, descriptorIndex := 404, attributes := #[] }, { accessFlags := 25, nameIndex := 440, descriptorIndex := 404, attributes := #[] }, { accessFlags := 25, nameIndex := 442, descriptorIndex := 404, attributes := #[] }, { accessFlags := 25, nameIndex := 444, descriptorIndex := 404, attributes := #[] }, { accessFlags := 25, nameIndex := 446, descriptorIndex := 404, attributes := #[] }, { accessFlags := 25, nameIndex := 448, descriptorIndex := 404, attributes := #[] }, { accessFlags := 25, nameIndex := 450, descriptorIndex := 404, attributes := #[] }, { accessFlags := 25, nameIndex := 452, descriptorIndex := 404, attributes := #[] }, { accessFlags := 25, nameIndex := 454, descriptorIndex := 404, attributes := #[] }, { accessFlags := 25, nameIndex := 456, descriptorIndex := 404, attributes := #[] }, { accessFlags := 25, nameIndex := 458, descriptorIndex := 404, attributes := #[] }, { accessFlags := 25, nameIndex := 460, descriptorIndex := 404, attributes := #[] }, { accessFlags := 24, nameIndex := 462, descriptorIndex := 392, attributes := #[] }, { accessFlags := 25, nameIndex := 464, descriptorIndex := 404, attributes := #[] }, { accessFlags := 25, nameIndex := 465, descriptorIndex := 404, attributes := #[] }, { accessFlags := 25, nameIndex := 466, descriptorIndex := 404, attributes := #[] }, { accessFlags := 25, nameIndex := 467, descriptorIndex := 404, attributes := #[] }, { accessFlags := 25, nameIndex := 468, descriptorIndex := 404, attributes := #[] }, { accessFlags := 25, nameIndex := 469, descriptorIndex := 404, attributes := #[] }, { accessFlags := 25, nameIndex := 470, descriptorIndex := 404, attributes := #[] }, { accessFlags := 25, nameIndex := 471, descriptorIndex := 404, attributes := #[] }, { accessFlags := 25, nameIndex := 472, descriptorIndex := 404, attributes := #[] }, { accessFlags := 25, nameIndex := 473, descriptorIndex := 404, attributes := #[] }, { accessFlags := 25, nameIndex := 474, descriptorIndex := 404, attributes := #[] }, { accessFlags := 25, nameIndex := 475, descriptorIndex := 404, attributes := #[] }, { accessFlags := 25, nameIndex := 476, descriptorIndex := 404, attributes := #[] }, { accessFlags := 25, nameIndex := 477, descriptorIndex := 404, attributes := #[] }, { accessFlags := 25, nameIndex := 478, descriptorIndex := 404, attributes := #[] }, { accessFlags := 25, nameIndex := 479, descriptorIndex := 404, attributes := #[] }, { accessFlags := 25, nameIndex := 480, descriptorIndex := 404, attributes := #[] }, { accessFlags := 25, nameIndex := 481, descriptorIndex := 404, attributes := #[] }, { accessFlags := 25, nameIndex := 482, descriptorIndex := 404, attributes := #[] }, { accessFlags := 25, nameIndex := 484, descriptorIndex := 404, attributes := #[] }, { accessFlags := 25, nameIndex := 485, descriptorIndex := 404, attributes := #[] }, { accessFlags := 25, nameIndex := 486, descriptorIndex := 404, attributes := #[] }, { accessFlags := 25, nameIndex := 487, descriptorIndex := 404, attributes := #[] }, { accessFlags := 25, nameIndex := 488, descriptorIndex := 404, attributes := #[] }, { accessFlags := 25, nameIndex := 489, descriptorIndex := 22, attributes := #[] }, { accessFlags := 25, nameIndex := 490, descriptorIndex := 22, attributes := #[] }, { accessFlags := 25, nameIndex := 492, descriptorIndex := 22, attributes := #[] }, { accessFlags := 25, nameIndex := 493, descriptorIndex := 22, attributes := #[] }, { accessFlags := 25, nameIndex := 495, descriptorIndex := 22, attributes := #[] }, { accessFlags := 25, nameIndex := 496, descriptorIndex := 22, attributes := #[] }, { accessFlags := 25, nameIndex := 497, descriptorIndex := 392, attributes := #[] }, { accessFlags := 25, nameIndex := 498, descriptorIndex := 392, attributes := #[] }, { accessFlags := 25, nameIndex := 499, descriptorIndex := 392, attributes := #[] }, { accessFlags := 18, nameIndex := 21, descriptorIndex := 22, attributes := #[] }, { accessFlags := 26, nameIndex := 501, descriptorIndex := 502, attributes := #[] }, { accessFlags := 25, nameIndex := 505, descriptorIndex := 392, attributes := #[] }, { accessFlags := 25, nameIndex := 506, descriptorIndex := 392, attributes := #[] }, { accessFlags := 4120, nameIndex := 284, descriptorIndex := 285, attributes := #[] }])
  fields := #[{ name := "MIN_RADIX", type := .int, accessFlags := 25, slot := 0, constantValue := 0 }, { name := "MAX_RADIX", type := .int, accessFlags := 25, slot := 1, constantValue := 0 }, { name := "MIN_VALUE", type := .char, accessFlags := 25, slot := 2, constantValue := 0 }, { name := "MAX_VALUE", type := .char, accessFlags := 25, slot := 3, constantValue := 0 }, { name := "TYPE", type := (.object "java/lang/Class"), accessFlags := 25, slot := 4, constantValue := 0 }, { name := "UNASSIGNED", type := .byte, accessFlags := 25, slot := 5, constantValue := 0 }, { name := "UPPERCASE_LETTER", type := .byte, accessFlags := 25, slot := 6, constantValue := 0 }, { name := "LOWERCASE_LETTER", type := .byte, accessFlags := 25, slot := 7, constantValue := 0 }, { name := "TITLECASE_LETTER", type := .byte, accessFlags := 25, slot := 8, constantValue := 0 }, { name := "MODIFIER_LETTER", type := .byte, accessFlags := 25, slot := 9, constantValue := 0 }, { name := "OTHER_LETTER", type := .byte, accessFlags := 25, slot := 10, constantValue := 0 }, { name := "NON_SPACING_MARK", type := .byte, accessFlags := 25, slot := 11, constantValue := 0 }, { name := "ENCLOSING_MARK", type := .byte, accessFlags := 25, slot := 12, constantValue := 0 }, { name := "COMBINING_SPACING_MARK", type := .byte, accessFlags := 25, slot := 13, constantValue := 0 }, { name := "DECIMAL_DIGIT_NUMBER", type := .byte, accessFlags := 25, slot := 14, constantValue := 0 }, { name := "LETTER_NUMBER", type := .byte, accessFlags := 25, slot := 15, constantValue := 0 }, { name := "OTHER_NUMBER", type := .byte, accessFlags := 25, slot := 16, constantValue := 0 }, { name := "SPACE_SEPARATOR", type := .byte, accessFlags := 25, slot := 17, constantValue := 0 }, { name := "LINE_SEPARATOR", type := .byte, accessFlags := 25, slot := 18, constantValue := 0 }, { name := "PARAGRAPH_SEPARATOR", type := .byte, accessFlags := 25, slot := 19, constantValue := 0 }, { name := "CONTROL", type := .byte, accessFlags := 25, slot := 20, constantValue := 0 }, { name := "FORMAT", type := .byte, accessFlags := 25, slot := 21, constantValue := 0 }, { name := "PRIVATE_USE", type := .byte, accessFlags := 25, slot := 22, constantValue := 0 }, { name := "SURROGATE", type := .byte, accessFlags := 25, slot := 23, constantValue := 0 }, { name := "DASH_PUNCTUATION", type := .byte, accessFlags := 25, slot := 24, constantValue := 0 }, { name := "START_PUNCTUATION", type := .byte, accessFlags := 25, slot := 25, constantValue := 0 }, { name := "END_PUNCTUATION", type := .byte, accessFlags := 25, slot := 26, constantValue := 0 }, { name := "CONNECTOR_PUNCTUATION", type := .byte, accessFlags := 25, slot := 27, constantValue := 0 }, { name := "OTHER_PUNCTUATION", type := .byte, accessFlags := 25, slot := 28, constantValue := 0 }, { name := "MATH_SYMBOL", type := .byte, accessFlags := 25, slot := 29, constantValue := 0 }, { name := "CURRENCY_SYMBOL", type := .byte, accessFlags := 25, slot := 30, constantValue := 0 }, { name := "MODIFIER_SYMBOL", type := .byte, accessFlags := 25, slot := 31, constantValue := 0 }, { name := "OTHER_SYMBOL", type := .byte, accessFlags := 25, slot := 32, constantValue := 0 }, { name := "INITIAL_QUOTE_PUNCTUATION", type := .byte, accessFlags := 25, slot := 33, constantValue := 0 }, { name := "FINAL_QUOTE_PUNCTUATION", type := .byte, accessFlags := 25, slot := 34, constantValue := 0 }, { name := "ERROR", type := .int, accessFlags := 24, slot := 35, constantValue := 0 }, { name := "DIRECTIONALITY_UNDEFINED", type := .byte, accessFlags := 25, slot := 36, constantValue := 0 }, { name := "DIRECTIONALITY_LEFT_TO_RIGHT", type := .byte, accessFlags := 25, slot := 37, constantValue := 0 }, { name := "DIRECTIONALITY_RIGHT_TO_LEFT", type := .byte, accessFlags := 25, slot := 38, constantValue := 0 }, { name := "DIRECTIONALITY_RIGHT_TO_LEFT_ARABIC", type := .byte, accessFlags := 25, slot := 39, constantValue := 0 }, { name := "DIRECTIONALITY_EUROPEAN_NUMBER", type := .byte, accessFlags := 25, slot := 40, constantValue := 0 }, { name := "DIRECTIONALITY_EUROPEAN_NUMBER_SEPARATOR", type := .byte, accessFlags := 25, slot := 41, constantValue := 0 }, { name := "DIRECTIONALITY_EUROPEAN_NUMBER_TERMINATOR", type := .byte, accessFlags := 25, slot := 42, constantValue := 0 }, { name := "DIRECTIONALITY_ARABIC_NUMBER", type := .byte, accessFlags := 25, slot := 43, constantValue := 0 }, { name := "DIRECTIONALITY_COMMON_NUMBER_SEPARATOR", type := .byte, accessFlags := 25, slot := 44, constantValue := 0 }, { name := "DIRECTIONALITY_NONSPACING_MARK", type := .byte, accessFlags := 25, slot := 45, constantValue := 0 }, { name := "DIRECTIONALITY_BOUNDARY_NEUTRAL", type := .byte, accessFlags := 25, slot := 46, constantValue := 0 }, { name := "DIRECTIONALITY_PARAGRAPH_SEPARATOR", type := .byte, accessFlags := 25, slot := 47, constantValue := 0 }, { name := "DIRECTIONALITY_SEGMENT_SEPARATOR", type := .byte, accessFlags := 25, slot := 48, constantValue := 0 }, { name := "DIRECTIONALITY_WHITESPACE", type := .byte, accessFlags := 25, slot := 49, constantValue := 0 }, { name := "DIRECTIONALITY_OTHER_NEUTRALS", type := .byte, accessFlags := 25, slot := 50, constantValue := 0 }, { name := "DIRECTIONALITY_LEFT_TO_RIGHT_EMBEDDING", type := .byte, accessFlags := 25, slot := 51, constantValue := 0 }, { name := "DIRECTIONALITY_LEFT_TO_RIGHT_OVERRIDE", type := .byte, accessFlags := 25, slot := 52, constantValue := 0 }, { name := "DIRECTIONALITY_RIGHT_TO_LEFT_EMBEDDING", type := .byte, accessFlags := 25, slot := 53, constantValue := 0 }, { name := "DIRECTIONALITY_RIGHT_TO_LEFT_OVERRIDE", type := .byte, accessFlags := 25, slot := 54, constantValue := 0 }, { name := "DIRECTIONALITY_POP_DIRECTIONAL_FORMAT", type := .byte, accessFlags := 25, slot := 55, constantValue := 0 }, { name := "DIRECTIONALITY_LEFT_TO_RIGHT_ISOLATE", type := .byte, accessFlags := 25, slot := 56, constantValue := 0 }, { name := "DIRECTIONALITY_RIGHT_TO_LEFT_ISOLATE", type := .byte, accessFlags := 25, slot := 57, constantValue := 0 }, { name := "DIRECTIONALITY_FIRST_STRONG_ISOLATE", type := .byte, accessFlags := 25, slot := 58, constantValue := 0 }, { name := "DIRECTIONALITY_POP_DIRECTIONAL_ISOLATE", type := .byte, accessFlags := 25, slot := 59, constantValue := 0 }, { name := "MIN_HIGH_SURROGATE", type := .char, accessFlags := 25, slot := 60, constantValue := 0 }, { name := "MAX_HIGH_SURROGATE", type := .char, accessFlags := 25, slot := 61, constantValue := 0 }, { name := "MIN_LOW_SURROGATE", type := .char, accessFlags := 25, slot := 62, constantValue := 0 }, { name := "MAX_LOW_SURROGATE", type := .char, accessFlags := 25, slot := 63, constantValue := 0 }, { name := "MIN_SURROGATE", type := .char, accessFlags := 25, slot := 64, constantValue := 0 }, { name := "MAX_SURROGATE", type := .char, accessFlags := 25, slot := 65, constantValue := 0 }, { name := "MIN_SUPPLEMENTARY_CODE_POINT", type := .int, accessFlags := 25, slot := 66, constantValue := 0 }, { name := "MIN_CODE_POINT", type := .int, accessFlags := 25, slot := 67, constantValue := 0 }, { name := "MAX_CODE_POINT", type := .int, accessFlags := 25, slot := 68, constantValue := 0 }, { name := "value", type := .char, accessFlags := 18, slot := 0, constantValue := 0 }, { name := "serialVersionUID", type := .long, accessFlags := 26, slot := 69, constantValue := 0 }, { name := "SIZE", type := .int, accessFlags := 25, slot := 70, constantValue := 0 }, { name := "BYTES", type := .int, accessFlags := 25, slot := 71, constantValue := 0 }, { name := "$assertionsDisabled", type := .boolean, accessFlags := 4120, slot := 72, constantValue := 0 }]
  methods := #[k23m0, k23m1, k23m2, k23m3]
  instanceTypes := #[.char]
  staticTypes := #[.int, .int, .char, .char, (.object "java/lang/Class"), .byte, .byte, .byte, .byte, .byte, .byte, .byte, .byte, .byte, .byte, .byte, .byte, .byte, .byte, .byte, .byte, .byte, .byte, .byte, .byte, .byte, .byte, .byte, .byte, .byte, .byte, .byte, .byte, .byte, .byte, .int, .byte, .byte, .byte, .byte, .byte, .byte, .byte, .byte, .byte, .byte, .byte, .byte, .byte, .byte, .byte, .byte, .byte, .byte, .byte, .byte, .byte, .byte, .byte, .byte, .char, .char, .char, .char, .char, .char, .int, .int, .int, .long, .int, .int, .boolean]
  resolved := Array.replicate 604 none
  statics := none }

def pool24 : Array CpInfo := pool [(9, u "<init>"), (6, .class_ 18), (1, u "java/lang/Object"), (0, u "()V"), (1, .class_ 23), (1, u "jdk/internal/util/ArraysSupport"), (0, u "LOG2_ARRAY_LONG_INDEX_SCALE"), (0, u "I"), (2, u "U"), (0, u "Ljdk/internal/misc/Unsafe;"), (8, u "BIG_ENDIAN"), (0, u "Z"), (8, u "LOG2_BYTE_BIT_SIZE"), (4, u "LOG2_ARRAY_INT_INDEX_SCALE"), (54, u "JLA"), (0, u "Ljdk/internal/access/JavaLangAccess;"), (11, u "LOG2_ARRAY_BOOLEAN_INDEX_SCALE"), (9, u "LOG2_ARRAY_BYTE_INDEX_SCALE"), (5, u "LOG2_ARRAY_CHAR_INDEX_SCALE"), (5, u "LOG2_ARRAY_SHORT_INDEX_SCALE"), (18, u "LOG2_ARRAY_FLOAT_INDEX_SCALE"), (24, u "LOG2_ARRAY_DOUBLE_INDEX_SCALE"), (89, u "T_BOOLEAN"), (2, u "T_CHAR"), (1, u "T_FLOAT"), (1, u "T_DOUBLE"), (1, u "T_BYTE"), (1, u "T_SHORT"), (1, u "T_INT"), (1, u "T_LONG"), (1, u "SOFT_MAX_ARRAY_LENGTH")] 83

def k24m0 : Method := { name := "<init>", desc := "()V", sig := { parameters := [], returnType := none }, accessFlags := 2, code := none }
/-- jdk/internal/util/ArraysSupport -/
def k24 : Class := { plain "jdk/internal/util/ArraysSupport" (some 0) with
  accessFlags := 33
  interfaces := #[]
  cf := some (fileOf pool24 21 #[] #[{ accessFlags := 2, nameIndex := 9, descriptorIndex := 19, attributes := #[] }] 33 16 #[] #[{ accessFlags := 24, nameIndex := 28, descriptorIndex := 29, attributes := #[] }, { accessFlags := 26, nameIndex := 38, descriptorIndex := 39, attributes := #[] }, { accessFlags := 25, nameIndex := 121, descriptorIndex := 25, attributes := #[] }, { accessFlags := 25, nameIndex := 131, descriptorIndex := 25, attributes := #[] }, { accessFlags := 25, nameIndex := 137, descriptorIndex := 25, attributes := #[] }, { accessFlags := 25, nameIndex := 143, descriptorIndex := 25, attributes := #[] }, { accessFlags := 25, nameIndex := 53, descriptorIndex := 25, attributes := #[] }, { accessFlags := 25, nameIndex := 24, descriptorIndex := 25, attributes := #[] }, { accessFlags := 25, nameIndex := 162, descriptorIndex := 25, attributes := #[] }, { accessFlags := 25, nameIndex := 187, descriptorIndex := 25, attributes := #[] }, { accessFlags := 26, nameIndex := 48, descriptorIndex := 25, attributes := #[] }, { accessFlags := 25, nameIndex := 277, descriptorIndex := 25, attributes := #[] }, { accessFlags := 25, nameIndex := 280, descriptorIndex := 25, attributes := #[] }, { accessFlags := 25, nameIndex := 282, descriptorIndex := 25, attributes := #[] }, { accessFlags := 25, nameIndex := 284, descriptorIndex := 25, attributes := #[] }, { accessFlags := 25, nameIndex := 286, descriptorIndex := 25, attributes := #[] }, { accessFlags := 25, nameIndex := 288, descriptorIndex := 25, attributes := #[] }, { accessFlags := 25, nameIndex := 290, descriptorIndex := 25, attributes := #[] }, { accessFlags := 25, nameIndex := 292, descriptorIndex := 25, attributes := #[] }, { accessFlags := 26, nameIndex := 108, descriptorIndex := 109, attributes := #[] }, { accessFlags := 25, nameIndex := 294, descriptorIndex := 25, attributes := #[] }])
  fields := #[{ name := "U", type := (.object "jdk/internal/misc/Unsafe"), accessFlags := 24, slot := 0, constantValue := 0 }, { name := "BIG_ENDIAN", type := .boolean, accessFlags := 26, slot := 1, constantValue := 0 }, { name := "LOG2_ARRAY_BOOLEAN_INDEX_SCALE", type := .int, accessFlags := 25, slot := 2, constantValue := 0 }, { name := "LOG2_ARRAY_BYTE_INDEX_SCALE", type := .int, accessFlags := 25, slot := 3, constantValue := 0 }, { name := "LOG2_ARRAY_CHAR_INDEX_SCALE", type := .int, accessFlags := 25, slot := 4, constantValue := 0 }, { name := "LOG2_ARRAY_SHORT_INDEX_SCALE", type := .int, accessFlags := 25, slot := 5, constantValue := 0 }, { name := "LOG2_ARRAY_INT_INDEX_SCALE", type := .int, accessFlags := 25, slot := 6, constantValue := 0 }, { name := "LOG2_ARRAY_LONG_INDEX_SCALE", type := .int, accessFlags := 25, slot := 7, constantValue := 0 }, { name := "LOG2_ARRAY_FLOAT_INDEX_SCALE", type := .int, accessFlags := 25, slot := 8, constantValue := 0 }, { name := "LOG2_ARRAY_DOUBLE_INDEX_SCALE", type := .int, accessFlags := 25, slot := 9, constantValue := 0 }, { name := "LOG2_BYTE_BIT_SIZE", type := .int, accessFlags := 26, slot := 10, constantValue := 0 }, { name := "T_BOOLEAN", type := .int, accessFlags := 25, slot := 11, constantValue := 0 }, { name := "T_CHAR", type := .int, accessFlags := 25, slot := 12, constantValue := 0 }, { name := "T_FLOAT", type := .int, accessFlags := 25, slot := 13, constantValue := 0 }, { name := "T_DOUBLE", type := .int, accessFlags := 25, slot := 14, constantValue := 0 }, { name := "T_BYTE", type := .int, accessFlags := 25, slot := 15, constantValue := 0 }, { name := "T_SHORT", type := .int, accessFlags := 25, slot := 16, constantValue := 0 }, { name := "T_INT", type := .int, accessFlags := 25, slot := 17, constantValue := 0 }, { name := "T_LONG", type := .int, accessFlags := 25, slot := 18, constantValue := 0 }, { name := "JLA", type := (.object "jdk/internal/access/JavaLangAccess"), accessFlags := 26, slot := 19, constantValue := 0 }, { name := "SOFT_MAX_ARRAY_LENGTH", type := .int, accessFlags := 25, slot := 20, constantValue := 0 }]
  methods := #[k24m0]
  instanceTypes := #[]
  staticTypes := #[(.object "jdk/internal/misc/Unsafe"), .boolean, .int, .int, .int, .int, .int, .int, .int, .int, .int, .int, .int, .int, .int, .int, .int, .int, .int, (.object "jdk/internal/access/JavaLangAccess"), .int]
  resolved := Array.replicate 378 none
  statics := none }

/-- the primitive byte -/
def k25 : Class := { plain "byte" none with kind := .primitive 'B', accessFlags := 0x411 }
/-- [B -/
def k26 : Class := { plain "[B" (some 0) with kind := .array 25 .byte, interfaces := #[17, 3], accessFlags := 1041 }

/-- the primitive int -/
def k27 : Class := { plain "int" none with kind := .primitive 'I', accessFlags := 0x411 }
/-- [I -/
def k28 : Class := { plain "[I" (some 0) with kind := .array 27 .int, interfaces := #[17, 3], accessFlags := 1041 }

def heap : Heap := #[{ cls := 8, slots := #[.long 0, .int 1, .null, .int 0, .null, .int 0, .int 0], vm := .statics 8 },
  { cls := 9, slots := #[.null, .null, .ref 5, .null, .null, .null], vm := .statics 9 },
  { cls := 14, slots := #[.ref 5, .null], vm := .statics 14 },
  { cls := 19, slots := #[.null, .null, .null], vm := .statics 19 },
  { cls := 22, slots := #[.int 0, .int 8, .int 0, .int 1], vm := .statics 22 },
  { cls := 14, slots := #[.null, .null, .null], vm := .none }]
def classes : Array Class := #[k0, k1, k2, k3, k4, k5, k6, k7, k8, k9, k10, k11, k12, k13, k14, k15, k16, k17, k18, k19, k20, k21, k22, k23, k24, k25, k26, k27, k28]
def interned : List (Array UInt16 × Addr) := []
def slotsUsed : Nat := 25
def theMethod : MethodId := ⟨1, 1⟩
def args0 : Array Value := #[.int 0, .int 65, .int 66]
def aboutOver (below : List Frame) : State where
  vm := { classes := classes, interned := interned.toArray }
  heap := heap
  slotsUsed := slotsUsed
  threads := #[{ frames := .invoking theMethod args0 :: below }]
def below0 : List Frame := [.native { method := ⟨0, 0⟩, args := #[] }]
def about1 : State := aboutOver below0
def p0 : Program := .bare "" "" ""
def e0 : Env := launch0.env 0 0 0
theorem w_frames : about1.frames = Frame.invoking theMethod args0 :: below0 := rfl
set_option maxRecDepth 65536 in
theorem w_args : argsFit about1.vm theMethod args0 = true := by decide +kernel
set_option maxRecDepth 65536 in
theorem w_heap : heapFits about1 = true := by decide +kernel
set_option maxRecDepth 65536 in
theorem w_runnable : about1.curStatus? = some .runnable := by decide +kernel
set_option maxRecDepth 65536 in
theorem w_alone : about1.alone = true := by decide +kernel
set_option maxRecDepth 65536 in
theorem w_named : about1.methodNamed? x = some theMethod := by decide +kernel
set_option maxRecDepth 65536 in
theorem w_hears : about1.hears theMethod below0 = true := by decide +kernel
set_option maxRecDepth 65536 in
theorem w_ripe : about1.ripe theMethod args0 below0 = true := by decide +kernel
theorem w_running : about1.status = .running := rfl
set_option maxRecDepth 65536 in
theorem w_room : about1.hasRoom e0.platform room_1 = true :=
  launch0.hasRoom_least _ room_1 (by decide +kernel) (by decide +kernel) (by decide +kernel) (by decide +kernel) (by decide +kernel) (by decide +kernel)
theorem allAtoms_all (ts : List Jvm.Cond) (a : Array Jvm.Value) (st : Jvm.State) : (allAtoms ts).before a st = ts.all (fun c => c.before a st) := by
  induction ts with
  | nil => rfl
  | cons c t ih =>
    show (Jvm.Cond.and c (allAtoms t)).before a st = _
    rw [Jvm.Cond.before_and, ih, List.all_cons]
def words1 : List Jvm.Cond := Jvm.Cond.code x code maxLocals ret :: tables_1
/-- a 'code' word, met by the world's own term for the bytes: nothing is compared byte by byte -/
theorem code_word {y : MethodName} {bytes : ByteArray} {mx : Nat} {rt : Option FieldType} {a : Array Value} {s : State} {m : MethodId} {meth : Method} {c : Code} (h1 : s.methodNamed? y = some m) (h2 : s.vm.method? m = some meth) (h3 : meth.code = some c) (h4 : c.code = bytes)
    (h5 : (c.maxLocals == mx && c.exceptionTable.isEmpty && decide (c.maxStack ≤ mostOperands) && decide (meth.sig.returnType = rt) && !meth.locks && decide (parseMethodDescriptor y.desc = some meth.sig)) = true) : (Jvm.Cond.code y bytes mx rt).before a s = true := by
  simp only [Bool.and_eq_true, beq_iff_eq, Bool.not_eq_true', decide_eq_true_eq] at h5
  obtain ⟨⟨⟨⟨⟨g1, g2⟩, g3⟩, g4⟩, g5⟩, g6⟩ := h5
  simp [Cond.before, Cond.holds, Cond.value, h1, h2, h3, h4, g1, g2, g3, g4, g5, g6]
def isCode : Jvm.Cond → Bool
  | .code _ _ _ _ => true
  | _ => false
theorem all_split {L : List Jvm.Cond} {P : Jvm.Cond → Bool} (h1 : L.all (fun c => isCode c || P c) = true) (h2 : ∀ c ∈ L.filter isCode, P c = true) : L.all P = true := by
  refine List.all_eq_true.mpr fun c hc => ?_
  have h := List.all_eq_true.mp h1 c hc
  rcases Bool.eq_false_or_eq_true (isCode c) with hi | hi
  · exact h2 c (List.mem_filter.mpr ⟨hc, hi⟩)
  · simpa [hi] using h
set_option maxRecDepth 65536 in
theorem w_c0 : (Jvm.Cond.code x code maxLocals ret).before args0 about1 = true := code_word (m := ⟨1, 1⟩) (meth := k1m1) (c := k1c1) (by decide +kernel) rfl rfl rfl (by decide +kernel)
set_option maxRecDepth 65536 in
theorem w_c1 : (Jvm.Cond.code ({ cls := "com/example/claimward/claimward/keys/KeyLocation", name := "text", desc := "([B)Ljava/lang/String;" } : Jvm.MethodName) prog_6_method_12_code (1 : Nat) (Option.some (Jvm.ClassFile.FieldType.object "java/lang/String"))).before args0 about1 = true := code_word (m := ⟨2, 1⟩) (meth := k2m1) (c := k2c1) (by decide +kernel) rfl rfl rfl (by decide +kernel)
set_option maxRecDepth 65536 in
theorem w_c2 : (Jvm.Cond.code ({ cls := "java/lang/String", name := "<init>", desc := "([BLjava/nio/charset/Charset;)V" } : Jvm.MethodName) jdk_42_method_49_code (3 : Nat) (Option.none : Option Jvm.ClassFile.FieldType)).before args0 about1 = true := code_word (m := ⟨8, 11⟩) (meth := k8m11) (c := k8c11) (by decide +kernel) rfl rfl rfl (by decide +kernel)
set_option maxRecDepth 65536 in
theorem w_c3 : (Jvm.Cond.code ({ cls := "java/util/Objects", name := "requireNonNull", desc := "(Ljava/lang/Object;)Ljava/lang/Object;" } : Jvm.MethodName) jdk_31_method_10_code (1 : Nat) (Option.some (Jvm.ClassFile.FieldType.object "java/lang/Object"))).before args0 about1 = true := code_word (m := ⟨10, 1⟩) (meth := k10m1) (c := k10c1) (by decide +kernel) rfl rfl rfl (by decide +kernel)
set_option maxRecDepth 65536 in
theorem w_c4 : (Jvm.Cond.code ({ cls := "java/lang/Object", name := "<init>", desc := "()V" } : Jvm.MethodName) object_method_1_code (1 : Nat) (Option.none : Option Jvm.ClassFile.FieldType)).before args0 about1 = true := code_word (m := ⟨0, 0⟩) (meth := k0m0) (c := k0c0) (by decide +kernel) rfl rfl rfl (by decide +kernel)
set_option maxRecDepth 65536 in
theorem w_c5 : (Jvm.Cond.code ({ cls := "java/lang/StringCoding", name := "countPositives", desc := "([BII)I" } : Jvm.MethodName) jdk_123_method_3_code (5 : Nat) (Option.some Jvm.ClassFile.FieldType.int)).before args0 about1 = true := code_word (m := ⟨15, 1⟩) (meth := k15m1) (c := k15c1) (by decide +kernel) rfl rfl rfl (by decide +kernel)
set_option maxRecDepth 65536 in
theorem w_c6 : (Jvm.Cond.code ({ cls := "java/util/Arrays", name := "copyOfRange", desc := "([BII)[B" } : Jvm.MethodName) jdk_65_method_132_code (3 : Nat) (Option.some (Jvm.ClassFile.FieldType.array Jvm.ClassFile.FieldType.byte))).before args0 about1 = true := code_word (m := ⟨16, 2⟩) (meth := k16m2) (c := k16c2) (by decide +kernel) rfl rfl rfl (by decide +kernel)
set_option maxRecDepth 65536 in
theorem w_c7 : (Jvm.Cond.code ({ cls := "com/example/claimward/claimward/keys/KeyLocationTextPinLaw", name := "two", desc := "(Ljava/lang/String;CC)Z" } : Jvm.MethodName) method_3_code (3 : Nat) (Option.some Jvm.ClassFile.FieldType.boolean)).before args0 about1 = true := code_word (m := ⟨1, 2⟩) (meth := k1m2) (c := k1c2) (by decide +kernel) rfl rfl rfl (by decide +kernel)
set_option maxRecDepth 65536 in
theorem w_c8 : (Jvm.Cond.code ({ cls := "java/lang/String", name := "length", desc := "()I" } : Jvm.MethodName) jdk_42_method_54_code (1 : Nat) (Option.some Jvm.ClassFile.FieldType.int)).before args0 about1 = true := code_word (m := ⟨8, 12⟩) (meth := k8m12) (c := k8c12) (by decide +kernel) rfl rfl rfl (by decide +kernel)
set_option maxRecDepth 65536 in
theorem w_c9 : (Jvm.Cond.code ({ cls := "java/lang/String", name := "coder", desc := "()B" } : Jvm.MethodName) jdk_42_method_152_code (1 : Nat) (Option.some Jvm.ClassFile.FieldType.byte)).before args0 about1 = true := code_word (m := ⟨8, 15⟩) (meth := k8m15) (c := k8c15) (by decide +kernel) rfl rfl rfl (by decide +kernel)
set_option maxRecDepth 65536 in
theorem w_c10 : (Jvm.Cond.code ({ cls := "java/lang/String", name := "charAt", desc := "(I)C" } : Jvm.MethodName) jdk_42_method_56_code (2 : Nat) (Option.some Jvm.ClassFile.FieldType.char)).before args0 about1 = true := code_word (m := ⟨8, 14⟩) (meth := k8m14) (c := k8c14) (by decide +kernel) rfl rfl rfl (by decide +kernel)
set_option maxRecDepth 65536 in
theorem w_c11 : (Jvm.Cond.code ({ cls := "java/lang/String", name := "isLatin1", desc := "()Z" } : Jvm.MethodName) jdk_42_method_154_code (1 : Nat) (Option.some Jvm.ClassFile.FieldType.boolean)).before args0 about1 = true := code_word (m := ⟨8, 16⟩) (meth := k8m16) (c := k8c16) (by decide +kernel) rfl rfl rfl (by decide +kernel)
set_option maxRecDepth 65536 in
theorem w_c12 : (Jvm.Cond.code ({ cls := "java/lang/StringLatin1", name := "charAt", desc := "([BI)C" } : Jvm.MethodName) jdk_43_method_2_code (2 : Nat) (Option.some Jvm.ClassFile.FieldType.char)).before args0 about1 = true := code_word (m := ⟨18, 1⟩) (meth := k18m1) (c := k18c1) (by decide +kernel) rfl rfl rfl (by decide +kernel)
set_option maxRecDepth 65536 in
theorem w_c13 : (Jvm.Cond.code ({ cls := "java/lang/String", name := "checkIndex", desc := "(II)V" } : Jvm.MethodName) jdk_42_method_155_code (2 : Nat) (Option.none : Option Jvm.ClassFile.FieldType)).before args0 about1 = true := code_word (m := ⟨8, 17⟩) (meth := k8m17) (c := k8c17) (by decide +kernel) rfl rfl rfl (by decide +kernel)
set_option maxRecDepth 65536 in
theorem w_c14 : (Jvm.Cond.code ({ cls := "jdk/internal/util/Preconditions", name := "checkIndex", desc := "(IILjava/util/function/BiFunction;)I" } : Jvm.MethodName) jdk_41_method_11_code (3 : Nat) (Option.some Jvm.ClassFile.FieldType.int)).before args0 about1 = true := code_word (m := ⟨19, 1⟩) (meth := k19m1) (c := k19c1) (by decide +kernel) rfl rfl rfl (by decide +kernel)
set_option maxRecDepth 65536 in
theorem w_c15 : (Jvm.Cond.code ({ cls := "java/lang/String", name := "decode2", desc := "(II)C" } : Jvm.MethodName) jdk_42_method_35_code (2 : Nat) (Option.some Jvm.ClassFile.FieldType.char)).before args0 about1 = true := code_word (m := ⟨8, 7⟩) (meth := k8m7) (c := k8c7) (by decide +kernel) rfl rfl rfl (by decide +kernel)
set_option maxRecDepth 65536 in
theorem w_c16 : (Jvm.Cond.code ({ cls := "java/util/Arrays", name := "copyOf", desc := "([BI)[B" } : Jvm.MethodName) jdk_65_method_121_code (3 : Nat) (Option.some (Jvm.ClassFile.FieldType.array Jvm.ClassFile.FieldType.byte))).before args0 about1 = true := code_word (m := ⟨16, 1⟩) (meth := k16m1) (c := k16c1) (by decide +kernel) rfl rfl rfl (by decide +kernel)
set_option maxRecDepth 65536 in
theorem w_c17 : (Jvm.Cond.code ({ cls := "java/lang/Math", name := "min", desc := "(II)I" } : Jvm.MethodName) jdk_29_method_69_code (2 : Nat) (Option.some Jvm.ClassFile.FieldType.int)).before args0 about1 = true := code_word (m := ⟨20, 1⟩) (meth := k20m1) (c := k20c1) (by decide +kernel) rfl rfl rfl (by decide +kernel)
set_option maxRecDepth 65536 in
theorem w_c18 : (Jvm.Cond.code ({ cls := "java/lang/StringUTF16", name := "newBytesFor", desc := "(I)[B" } : Jvm.MethodName) jdk_52_method_2_code (1 : Nat) (Option.some (Jvm.ClassFile.FieldType.array Jvm.ClassFile.FieldType.byte))).before args0 about1 = true := code_word (m := ⟨22, 1⟩) (meth := k22m1) (c := k22c1) (by decide +kernel) rfl rfl rfl (by decide +kernel)
set_option maxRecDepth 65536 in
theorem w_c19 : (Jvm.Cond.code ({ cls := "java/lang/StringUTF16", name := "newBytesLength", desc := "(I)I" } : Jvm.MethodName) jdk_52_method_3_code (1 : Nat) (Option.some Jvm.ClassFile.FieldType.int)).before args0 about1 = true := code_word (m := ⟨22, 2⟩) (meth := k22m2) (c := k22c2) (by decide +kernel) rfl rfl rfl (by decide +kernel)
set_option maxRecDepth 65536 in
theorem w_c20 : (Jvm.Cond.code ({ cls := "java/lang/StringLatin1", name := "inflate", desc := "([BI[BII)V" } : Jvm.MethodName) jdk_43_method_50_code (5 : Nat) (Option.none : Option Jvm.ClassFile.FieldType)).before args0 about1 = true := code_word (m := ⟨18, 2⟩) (meth := k18m2) (c := k18c2) (by decide +kernel) rfl rfl rfl (by decide +kernel)
set_option maxRecDepth 65536 in
theorem w_c21 : (Jvm.Cond.code ({ cls := "java/lang/StringUTF16", name := "inflate", desc := "([BI[BII)V" } : Jvm.MethodName) jdk_52_method_86_code (6 : Nat) (Option.none : Option Jvm.ClassFile.FieldType)).before args0 about1 = true := code_word (m := ⟨22, 7⟩) (meth := k22m7) (c := k22c7) (by decide +kernel) rfl rfl rfl (by decide +kernel)
set_option maxRecDepth 65536 in
theorem w_c22 : (Jvm.Cond.code ({ cls := "java/lang/StringUTF16", name := "checkBoundsOffCount", desc := "(II[B)V" } : Jvm.MethodName) jdk_52_method_94_code (3 : Nat) (Option.none : Option Jvm.ClassFile.FieldType)).before args0 about1 = true := code_word (m := ⟨22, 9⟩) (meth := k22m9) (c := k22c9) (by decide +kernel) rfl rfl rfl (by decide +kernel)
set_option maxRecDepth 65536 in
theorem w_c23 : (Jvm.Cond.code ({ cls := "java/lang/StringUTF16", name := "length", desc := "([B)I" } : Jvm.MethodName) jdk_52_method_6_code (1 : Nat) (Option.some Jvm.ClassFile.FieldType.int)).before args0 about1 = true := code_word (m := ⟨22, 5⟩) (meth := k22m5) (c := k22c5) (by decide +kernel) rfl rfl rfl (by decide +kernel)
set_option maxRecDepth 65536 in
theorem w_c24 : (Jvm.Cond.code ({ cls := "java/lang/String", name := "checkBoundsOffCount", desc := "(III)I" } : Jvm.MethodName) jdk_42_method_157_code (3 : Nat) (Option.some Jvm.ClassFile.FieldType.int)).before args0 about1 = true := code_word (m := ⟨8, 18⟩) (meth := k8m18) (c := k8c18) (by decide +kernel) rfl rfl rfl (by decide +kernel)
set_option maxRecDepth 65536 in
theorem w_c25 : (Jvm.Cond.code ({ cls := "jdk/internal/util/Preconditions", name := "checkFromIndexSize", desc := "(IIILjava/util/function/BiFunction;)I" } : Jvm.MethodName) jdk_41_method_13_code (4 : Nat) (Option.some Jvm.ClassFile.FieldType.int)).before args0 about1 = true := code_word (m := ⟨19, 2⟩) (meth := k19m2) (c := k19c2) (by decide +kernel) rfl rfl rfl (by decide +kernel)
set_option maxRecDepth 65536 in
theorem w_c26 : (Jvm.Cond.code ({ cls := "java/lang/String", name := "decodeUTF8_UTF16", desc := "([BII[BIZ)I" } : Jvm.MethodName) jdk_42_method_38_code (11 : Nat) (Option.some Jvm.ClassFile.FieldType.int)).before args0 about1 = true := code_word (m := ⟨8, 10⟩) (meth := k8m10) (c := k8c10) (by decide +kernel) rfl rfl rfl (by decide +kernel)
set_option maxRecDepth 65536 in
theorem w_c27 : (Jvm.Cond.code ({ cls := "java/lang/String", name := "isMalformed3", desc := "(III)Z" } : Jvm.MethodName) jdk_42_method_30_code (3 : Nat) (Option.some Jvm.ClassFile.FieldType.boolean)).before args0 about1 = true := code_word (m := ⟨8, 3⟩) (meth := k8m3) (c := k8c3) (by decide +kernel) rfl rfl rfl (by decide +kernel)
set_option maxRecDepth 65536 in
theorem w_c28 : (Jvm.Cond.code ({ cls := "java/lang/String", name := "decode3", desc := "(III)C" } : Jvm.MethodName) jdk_42_method_36_code (3 : Nat) (Option.some Jvm.ClassFile.FieldType.char)).before args0 about1 = true := code_word (m := ⟨8, 8⟩) (meth := k8m8) (c := k8c8) (by decide +kernel) rfl rfl rfl (by decide +kernel)
set_option maxRecDepth 65536 in
theorem w_c29 : (Jvm.Cond.code ({ cls := "java/lang/Character", name := "isSurrogate", desc := "(C)Z" } : Jvm.MethodName) jdk_89_method_16_code (1 : Nat) (Option.some Jvm.ClassFile.FieldType.boolean)).before args0 about1 = true := code_word (m := ⟨23, 1⟩) (meth := k23m1) (c := k23c1) (by decide +kernel) rfl rfl rfl (by decide +kernel)
set_option maxRecDepth 65536 in
theorem w_c30 : (Jvm.Cond.code ({ cls := "java/lang/StringUTF16", name := "putChar", desc := "([BII)V" } : Jvm.MethodName) jdk_52_method_4_code (3 : Nat) (Option.none : Option Jvm.ClassFile.FieldType)).before args0 about1 = true := code_word (m := ⟨22, 3⟩) (meth := k22m3) (c := k22c3) (by decide +kernel) rfl rfl rfl (by decide +kernel)
set_option maxRecDepth 65536 in
theorem w_c31 : (Jvm.Cond.code ({ cls := "java/lang/StringUTF16", name := "charAt", desc := "([BI)C" } : Jvm.MethodName) jdk_52_method_83_code (2 : Nat) (Option.some Jvm.ClassFile.FieldType.char)).before args0 about1 = true := code_word (m := ⟨22, 6⟩) (meth := k22m6) (c := k22c6) (by decide +kernel) rfl rfl rfl (by decide +kernel)
set_option maxRecDepth 65536 in
theorem w_c32 : (Jvm.Cond.code ({ cls := "java/lang/StringUTF16", name := "checkIndex", desc := "(I[B)V" } : Jvm.MethodName) jdk_52_method_91_code (2 : Nat) (Option.none : Option Jvm.ClassFile.FieldType)).before args0 about1 = true := code_word (m := ⟨22, 8⟩) (meth := k22m8) (c := k22c8) (by decide +kernel) rfl rfl rfl (by decide +kernel)
set_option maxRecDepth 65536 in
theorem w_c33 : (Jvm.Cond.code ({ cls := "java/lang/StringUTF16", name := "getChar", desc := "([BI)C" } : Jvm.MethodName) jdk_52_method_5_code (2 : Nat) (Option.some Jvm.ClassFile.FieldType.char)).before args0 about1 = true := code_word (m := ⟨22, 4⟩) (meth := k22m4) (c := k22c4) (by decide +kernel) rfl rfl rfl (by decide +kernel)
set_option maxRecDepth 65536 in
theorem w_c34 : (Jvm.Cond.code ({ cls := "java/lang/String", name := "isEmpty", desc := "()Z" } : Jvm.MethodName) jdk_42_method_55_code (1 : Nat) (Option.some Jvm.ClassFile.FieldType.boolean)).before args0 about1 = true := code_word (m := ⟨8, 13⟩) (meth := k8m13) (c := k8c13) (by decide +kernel) rfl rfl rfl (by decide +kernel)
set_option maxRecDepth 65536 in
theorem w_c35 : (Jvm.Cond.code ({ cls := "java/lang/String", name := "isMalformed3_2", desc := "(II)Z" } : Jvm.MethodName) jdk_42_method_31_code (2 : Nat) (Option.some Jvm.ClassFile.FieldType.boolean)).before args0 about1 = true := code_word (m := ⟨8, 4⟩) (meth := k8m4) (c := k8c4) (by decide +kernel) rfl rfl rfl (by decide +kernel)
set_option maxRecDepth 65536 in
theorem w_c36 : (Jvm.Cond.code ({ cls := "java/lang/String", name := "decode4", desc := "(IIII)I" } : Jvm.MethodName) jdk_42_method_37_code (4 : Nat) (Option.some Jvm.ClassFile.FieldType.int)).before args0 about1 = true := code_word (m := ⟨8, 9⟩) (meth := k8m9) (c := k8c9) (by decide +kernel) rfl rfl rfl (by decide +kernel)
set_option maxRecDepth 65536 in
theorem w_c37 : (Jvm.Cond.code ({ cls := "java/lang/String", name := "isMalformed4", desc := "(III)Z" } : Jvm.MethodName) jdk_42_method_32_code (3 : Nat) (Option.some Jvm.ClassFile.FieldType.boolean)).before args0 about1 = true := code_word (m := ⟨8, 5⟩) (meth := k8m5) (c := k8c5) (by decide +kernel) rfl rfl rfl (by decide +kernel)
set_option maxRecDepth 65536 in
theorem w_c38 : (Jvm.Cond.code ({ cls := "java/lang/Character", name := "isSupplementaryCodePoint", desc := "(I)Z" } : Jvm.MethodName) jdk_89_method_13_code (1 : Nat) (Option.some Jvm.ClassFile.FieldType.boolean)).before args0 about1 = true := code_word (m := ⟨23, 0⟩) (meth := k23m0) (c := k23c0) (by decide +kernel) rfl rfl rfl (by decide +kernel)
set_option maxRecDepth 65536 in
theorem w_c39 : (Jvm.Cond.code ({ cls := "java/lang/Character", name := "highSurrogate", desc := "(I)C" } : Jvm.MethodName) jdk_89_method_28_code (1 : Nat) (Option.some Jvm.ClassFile.FieldType.char)).before args0 about1 = true := code_word (m := ⟨23, 2⟩) (meth := k23m2) (c := k23c2) (by decide +kernel) rfl rfl rfl (by decide +kernel)
set_option maxRecDepth 65536 in
theorem w_c40 : (Jvm.Cond.code ({ cls := "java/lang/Character", name := "lowSurrogate", desc := "(I)C" } : Jvm.MethodName) jdk_89_method_29_code (1 : Nat) (Option.some Jvm.ClassFile.FieldType.char)).before args0 about1 = true := code_word (m := ⟨23, 3⟩) (meth := k23m3) (c := k23c3) (by decide +kernel) rfl rfl rfl (by decide +kernel)
set_option maxRecDepth 65536 in
theorem w_c41 : (Jvm.Cond.code ({ cls := "java/lang/String", name := "isNotContinuation", desc := "(I)Z" } : Jvm.MethodName) jdk_42_method_29_code (1 : Nat) (Option.some Jvm.ClassFile.FieldType.boolean)).before args0 about1 = true := code_word (m := ⟨8, 2⟩) (meth := k8m2) (c := k8c2) (by decide +kernel) rfl rfl rfl (by decide +kernel)
set_option maxRecDepth 65536 in
theorem w_c42 : (Jvm.Cond.code ({ cls := "java/lang/String", name := "isMalformed4_2", desc := "(II)Z" } : Jvm.MethodName) jdk_42_method_33_code (2 : Nat) (Option.some Jvm.ClassFile.FieldType.boolean)).before args0 about1 = true := code_word (m := ⟨8, 6⟩) (meth := k8m6) (c := k8c6) (by decide +kernel) rfl rfl rfl (by decide +kernel)
def codes1 : List Jvm.Cond := [Jvm.Cond.code x code maxLocals ret, Jvm.Cond.code ({ cls := "com/example/claimward/claimward/keys/KeyLocation", name := "text", desc := "([B)Ljava/lang/String;" } : Jvm.MethodName) prog_6_method_12_code (1 : Nat) (Option.some (Jvm.ClassFile.FieldType.object "java/lang/String")), Jvm.Cond.code ({ cls := "java/lang/String", name := "<init>", desc := "([BLjava/nio/charset/Charset;)V" } : Jvm.MethodName) jdk_42_method_49_code (3 : Nat) (Option.none : Option Jvm.ClassFile.FieldType), Jvm.Cond.code ({ cls := "java/util/Objects", name := "requireNonNull", desc := "(Ljava/lang/Object;)Ljava/lang/Object;" } : Jvm.MethodName) jdk_31_method_10_code (1 : Nat) (Option.some (Jvm.ClassFile.FieldType.object "java/lang/Object")), Jvm.Cond.code ({ cls := "java/lang/Object", name := "<init>", desc := "()V" } : Jvm.MethodName) object_method_1_code (1 : Nat) (Option.none : Option Jvm.ClassFile.FieldType), Jvm.Cond.code ({ cls := "java/lang/StringCoding", name := "countPositives", desc := "([BII)I" } : Jvm.MethodName) jdk_123_method_3_code (5 : Nat) (Option.some Jvm.ClassFile.FieldType.int), Jvm.Cond.code ({ cls := "java/util/Arrays", name := "copyOfRange", desc := "([BII)[B" } : Jvm.MethodName) jdk_65_method_132_code (3 : Nat) (Option.some (Jvm.ClassFile.FieldType.array Jvm.ClassFile.FieldType.byte)), Jvm.Cond.code ({ cls := "com/example/claimward/claimward/keys/KeyLocationTextPinLaw", name := "two", desc := "(Ljava/lang/String;CC)Z" } : Jvm.MethodName) method_3_code (3 : Nat) (Option.some Jvm.ClassFile.FieldType.boolean), Jvm.Cond.code ({ cls := "java/lang/String", name := "length", desc := "()I" } : Jvm.MethodName) jdk_42_method_54_code (1 : Nat) (Option.some Jvm.ClassFile.FieldType.int), Jvm.Cond.code ({ cls := "java/lang/String", name := "coder", desc := "()B" } : Jvm.MethodName) jdk_42_method_152_code (1 : Nat) (Option.some Jvm.ClassFile.FieldType.byte), Jvm.Cond.code ({ cls := "java/lang/String", name := "charAt", desc := "(I)C" } : Jvm.MethodName) jdk_42_method_56_code (2 : Nat) (Option.some Jvm.ClassFile.FieldType.char), Jvm.Cond.code ({ cls := "java/lang/String", name := "isLatin1", desc := "()Z" } : Jvm.MethodName) jdk_42_method_154_code (1 : Nat) (Option.some Jvm.ClassFile.FieldType.boolean), Jvm.Cond.code ({ cls := "java/lang/StringLatin1", name := "charAt", desc := "([BI)C" } : Jvm.MethodName) jdk_43_method_2_code (2 : Nat) (Option.some Jvm.ClassFile.FieldType.char), Jvm.Cond.code ({ cls := "java/lang/String", name := "checkIndex", desc := "(II)V" } : Jvm.MethodName) jdk_42_method_155_code (2 : Nat) (Option.none : Option Jvm.ClassFile.FieldType), Jvm.Cond.code ({ cls := "jdk/internal/util/Preconditions", name := "checkIndex", desc := "(IILjava/util/function/BiFunction;)I" } : Jvm.MethodName) jdk_41_method_11_code (3 : Nat) (Option.some Jvm.ClassFile.FieldType.int), Jvm.Cond.code ({ cls := "java/lang/String", name := "decode2", desc := "(II)C" } : Jvm.MethodName) jdk_42_method_35_code (2 : Nat) (Option.some Jvm.ClassFile.FieldType.char), Jvm.Cond.code ({ cls := "java/util/Arrays", name := "copyOf", desc := "([BI)[B" } : Jvm.MethodName) jdk_65_method_121_code (3 : Nat) (Option.some (Jvm.ClassFile.FieldType.array Jvm.ClassFile.FieldType.byte)), Jvm.Cond.code ({ cls := "java/lang/Math", name := "min", desc := "(II)I" } : Jvm.MethodName) jdk_29_method_69_code (2 : Nat) (Option.some Jvm.ClassFile.FieldType.int), Jvm.Cond.code ({ cls := "java/lang/StringUTF16", name := "newBytesFor", desc := "(I)[B" } : Jvm.MethodName) jdk_52_method_2_code (1 : Nat) (Option.some (Jvm.ClassFile.FieldType.array Jvm.ClassFile.FieldType.byte)), Jvm.Cond.code ({ cls := "java/lang/StringUTF16", name := "newBytesLength", desc := "(I)I" } : Jvm.MethodName) jdk_52_method_3_code (1 : Nat) (Option.some Jvm.ClassFile.FieldType.int), Jvm.Cond.code ({ cls := "java/lang/StringLatin1", name := "inflate", desc := "([BI[BII)V" } : Jvm.MethodName) jdk_43_method_50_code (5 : Nat) (Option.none : Option Jvm.ClassFile.FieldType), Jvm.Cond.code ({ cls := "java/lang/StringUTF16", name := "inflate", desc := "([BI[BII)V" } : Jvm.MethodName) jdk_52_method_86_code (6 : Nat) (Option.none : Option Jvm.ClassFile.FieldType), Jvm.Cond.code ({ cls := "java/lang/StringUTF16", name := "checkBoundsOffCount", desc := "(II[B)V" } : Jvm.MethodName) jdk_52_method_94_code (3 : Nat) (Option.none : Option Jvm.ClassFile.FieldType), Jvm.Cond.code ({ cls := "java/lang/StringUTF16", name := "length", desc := "([B)I" } : Jvm.MethodName) jdk_52_method_6_code (1 : Nat) (Option.some Jvm.ClassFile.FieldType.int), Jvm.Cond.code ({ cls := "java/lang/String", name := "checkBoundsOffCount", desc := "(III)I" } : Jvm.MethodName) jdk_42_method_157_code (3 : Nat) (Option.some Jvm.ClassFile.FieldType.int), Jvm.Cond.code ({ cls := "jdk/internal/util/Preconditions", name := "checkFromIndexSize", desc := "(IIILjava/util/function/BiFunction;)I" } : Jvm.MethodName) jdk_41_method_13_code (4 : Nat) (Option.some Jvm.ClassFile.FieldType.int), Jvm.Cond.code ({ cls := "java/lang/String", name := "decodeUTF8_UTF16", desc := "([BII[BIZ)I" } : Jvm.MethodName) jdk_42_method_38_code (11 : Nat) (Option.some Jvm.ClassFile.FieldType.int), Jvm.Cond.code ({ cls := "java/lang/String", name := "isMalformed3", desc := "(III)Z" } : Jvm.MethodName) jdk_42_method_30_code (3 : Nat) (Option.some Jvm.ClassFile.FieldType.boolean), Jvm.Cond.code ({ cls := "java/lang/String", name := "decode3", desc := "(III)C" } : Jvm.MethodName) jdk_42_method_36_code (3 : Nat) (Option.some Jvm.ClassFile.FieldType.char), Jvm.Cond.code ({ cls := "java/lang/Character", name := "isSurrogate", desc := "(C)Z" } : Jvm.MethodName) jdk_89_method_16_code (1 : Nat) (Option.some Jvm.ClassFile.FieldType.boolean), Jvm.Cond.code ({ cls := "java/lang/StringUTF16", name := "putChar", desc := "([BII)V" } : Jvm.MethodName) jdk_52_method_4_code (3 : Nat) (Option.none : Option Jvm.ClassFile.FieldType), Jvm.Cond.code ({ cls := "java/lang/StringUTF16", name := "charAt", desc := "([BI)C" } : Jvm.MethodName) jdk_52_method_83_code (2 : Nat) (Option.some Jvm.ClassFile.FieldType.char), Jvm.Cond.code ({ cls := "java/lang/StringUTF16", name := "checkIndex", desc := "(I[B)V" } : Jvm.MethodName) jdk_52_method_91_code (2 : Nat) (Option.none : Option Jvm.ClassFile.FieldType), Jvm.Cond.code ({ cls := "java/lang/StringUTF16", name := "getChar", desc := "([BI)C" } : Jvm.MethodName) jdk_52_method_5_code (2 : Nat) (Option.some Jvm.ClassFile.FieldType.char), Jvm.Cond.code ({ cls := "java/lang/String", name := "isEmpty", desc := "()Z" } : Jvm.MethodName) jdk_42_method_55_code (1 : Nat) (Option.some Jvm.ClassFile.FieldType.boolean), Jvm.Cond.code ({ cls := "java/lang/String", name := "isMalformed3_2", desc := "(II)Z" } : Jvm.MethodName) jdk_42_method_31_code (2 : Nat) (Option.some Jvm.ClassFile.FieldType.boolean), Jvm.Cond.code ({ cls := "java/lang/String", name := "decode4", desc := "(IIII)I" } : Jvm.MethodName) jdk_42_method_37_code (4 : Nat) (Option.some Jvm.ClassFile.FieldType.int), Jvm.Cond.code ({ cls := "java/lang/String", name := "isMalformed4", desc := "(III)Z" } : Jvm.MethodName) jdk_42_method_32_code (3 : Nat) (Option.some Jvm.ClassFile.FieldType.boolean), Jvm.Cond.code ({ cls := "java/lang/Character", name := "isSupplementaryCodePoint", desc := "(I)Z" } : Jvm.MethodName) jdk_89_method_13_code (1 : Nat) (Option.some Jvm.ClassFile.FieldType.boolean), Jvm.Cond.code ({ cls := "java/lang/Character", name := "highSurrogate", desc := "(I)C" } : Jvm.MethodName) jdk_89_method_28_code (1 : Nat) (Option.some Jvm.ClassFile.FieldType.char), Jvm.Cond.code ({ cls := "java/lang/Character", name := "lowSurrogate", desc := "(I)C" } : Jvm.MethodName) jdk_89_method_29_code (1 : Nat) (Option.some Jvm.ClassFile.FieldType.char), Jvm.Cond.code ({ cls := "java/lang/String", name := "isNotContinuation", desc := "(I)Z" } : Jvm.MethodName) jdk_42_method_29_code (1 : Nat) (Option.some Jvm.ClassFile.FieldType.boolean), Jvm.Cond.code ({ cls := "java/lang/String", name := "isMalformed4_2", desc := "(II)Z" } : Jvm.MethodName) jdk_42_method_33_code (2 : Nat) (Option.some Jvm.ClassFile.FieldType.boolean)]
set_option maxRecDepth 65536 in
theorem codes_eq : words1.filter isCode = codes1 := rfl
theorem w_codes : ∀ c ∈ words1.filter isCode, c.before args0 about1 = true := by
  rw [codes_eq]
  intro c hc
  simp only [codes1, List.mem_cons, List.not_mem_nil, or_false] at hc
  rcases hc with rfl | rfl | rfl | rfl | rfl | rfl | rfl | rfl | rfl | rfl | rfl | rfl | rfl | rfl | rfl | rfl | rfl | rfl | rfl | rfl | rfl | rfl | rfl | rfl | rfl | rfl | rfl | rfl | rfl | rfl | rfl | rfl | rfl | rfl | rfl | rfl | rfl | rfl | rfl | rfl | rfl | rfl | rfl
  · exact w_c0
  · exact w_c1
  · exact w_c2
  · exact w_c3
  · exact w_c4
  · exact w_c5
  · exact w_c6
  · exact w_c7
  · exact w_c8
  · exact w_c9
  · exact w_c10
  · exact w_c11
  · exact w_c12
  · exact w_c13
  · exact w_c14
  · exact w_c15
  · exact w_c16
  · exact w_c17
  · exact w_c18
  · exact w_c19
  · exact w_c20
  · exact w_c21
  · exact w_c22
  · exact w_c23
  · exact w_c24
  · exact w_c25
  · exact w_c26
  · exact w_c27
  · exact w_c28
  · exact w_c29
  · exact w_c30
  · exact w_c31
  · exact w_c32
  · exact w_c33
  · exact w_c34
  · exact w_c35
  · exact w_c36
  · exact w_c37
  · exact w_c38
  · exact w_c39
  · exact w_c40
  · exact w_c41
  · exact w_c42
set_option maxRecDepth 65536 in
theorem w_t1 : (words1.take 24).all (fun c => isCode c || c.before args0 about1) = true := by decide +kernel
set_option maxRecDepth 65536 in
theorem w_t2 : ((words1.drop 24).take 24).all (fun c => isCode c || c.before args0 about1) = true := by decide +kernel
set_option maxRecDepth 65536 in
theorem w_t3 : (((words1.drop 24).drop 24).take 24).all (fun c => isCode c || c.before args0 about1) = true := by decide +kernel
set_option maxRecDepth 65536 in
theorem w_t4 : ((((words1.drop 24).drop 24).drop 24).take 24).all (fun c => isCode c || c.before args0 about1) = true := by decide +kernel
set_option maxRecDepth 65536 in
theorem w_t5 : (((((words1.drop 24).drop 24).drop 24).drop 24).take 24).all (fun c => isCode c || c.before args0 about1) = true := by decide +kernel
set_option maxRecDepth 65536 in
theorem w_t6 : ((((((words1.drop 24).drop 24).drop 24).drop 24).drop 24).take 24).all (fun c => isCode c || c.before args0 about1) = true := by decide +kernel
set_option maxRecDepth 65536 in
theorem w_t7 : (((((((words1.drop 24).drop 24).drop 24).drop 24).drop 24).drop 24).take 24).all (fun c => isCode c || c.before args0 about1) = true := by decide +kernel
set_option maxRecDepth 65536 in
theorem w_t8 : ((((((((words1.drop 24).drop 24).drop 24).drop 24).drop 24).drop 24).drop 24).take 24).all (fun c => isCode c || c.before args0 about1) = true := by decide +kernel
set_option maxRecDepth 65536 in
theorem w_t9 : ((((((((words1.drop 24).drop 24).drop 24).drop 24).drop 24).drop 24).drop 24).drop 24).all (fun c => isCode c || c.before args0 about1) = true := by decide +kernel
theorem w_tables : (allAtoms (Jvm.Cond.code x code maxLocals ret :: tables_1)).before args0 about1 = true := by
  rw [allAtoms_all]
  show words1.all (fun c => c.before args0 about1) = true
  refine all_split ?_ w_codes
  rw [← List.take_append_drop 24 words1, List.all_append, w_t1, ← List.take_append_drop 24 (words1.drop 24), List.all_append, w_t2, ← List.take_append_drop 24 ((words1.drop 24).drop 24), List.all_append, w_t3, ← List.take_append_drop 24 (((words1.drop 24).drop 24).drop 24), List.all_append, w_t4, ← List.take_append_drop 24 ((((words1.drop 24).drop 24).drop 24).drop 24), List.all_append, w_t5, ← List.take_append_drop 24 (((((words1.drop 24).drop 24).drop 24).drop 24).drop 24), List.all_append, w_t6, ← List.take_append_drop 24 ((((((words1.drop 24).drop 24).drop 24).drop 24).drop 24).drop 24), List.all_append, w_t7, ← List.take_append_drop 24 (((((((words1.drop 24).drop 24).drop 24).drop 24).drop 24).drop 24).drop 24), List.all_append, w_t8, w_t9]
  rfl
set_option maxRecDepth 65536 in
theorem w_rest : rest_1_c.before args0 about1 = true := by decide +kernel
set_option maxRecDepth 65536 in
theorem w_case : (Jvm.Cond.and given_1 narrow_1).before args0 about1 = true := by decide +kernel
set_option maxRecDepth 65536 in
theorem w_consts : constsHeld consts_1 about1 := Jvm.Lit.constsHeldB_iff.mp (by decide +kernel)
theorem w_applies : (headSpec (Jvm.Cond.code x code maxLocals ret :: tables_1) room_1).applies x e0.platform about1 = true :=
  (Spec.applies_iff w_frames).mpr ⟨w_running, w_runnable, w_alone, w_named, w_hears, w_ripe, w_room, w_tables⟩
theorem atStart : AtStart classFile x code maxLocals ret World_1 tables_1 room_1 Calls_1 rest_1 Pre_1 launch0 p0 e0 about1 theMethod args0 below0 :=
  ⟨lists_1, trivial, launch0.admits_env _ _ _, launch0.least_env, fairChoices_fair.cas, fairChoices_fair.clock, w_frames, w_args, w_heap, w_applies, ⟨w_consts, trivial⟩, w_rest, w_case⟩
end start1
theorem witness_1 : WitnessClaimed_1 := ⟨start1.p0, start1.e0, start1.about1, start1.theMethod, start1.args0, start1.below0, start1.atStart⟩
end Jvm.Pilot.@@N@@
namespace Jvm.Pilot.@@N@@.Own
open Jvm Sem ClassFile Op Lib Jvm.Stand Jvm.Free Jvm.LawKit Jvm.RoadKit
/-- from the state A the run comes to an end of which P holds -/
def OGo (tb : Tables) (e : Env) (below : List Frame) (P : Outcome → State → Prop) (A : State) : Prop := ∃ s₂ o, Steps tb e below A s₂ ∧ s₂.status = .running ∧ Ended s₂ below o ∧ P o s₂
theorem OGo.go {tb : Tables} {e : Env} {below : List Frame} {P : Outcome → State → Prop} {A B : State} (k : OGo tb e below P B) (h : ∀ t, Steps tb e below B t → Steps tb e below A t) : OGo tb e below P A := by
  obtain ⟨s, o, h1, h2⟩ := k; exact ⟨s, o, h _ h1, h2⟩
theorem OGo.start {tb : Tables} {e : Env} {below : List Frame} {P : Outcome → State → Prop} {T : State} {g g' : JFrame} (q : g = g') (k : OGo tb e below P (T.setTop g')) : OGo tb e below P (T.setTop g) := q ▸ k
theorem OGo.ret {p : Program} {l : Launch} {e : Env} {R : Room} {s : State} {m : MethodId} {args : Array Value} {below : List Frame} {meth : Method} {c : Code} {T : State} {locs : List Loc} {cells slots : Nat}
    (X : Stand p l e R s m args below meth c T locs cells slots) {v : Option Value} (hv : meth.sig.returnType = none → v = none) (hlocks : meth.locks = false) {A : State}
    (hA : ∀ fs, (∀ (f : JFrame) (acts : List Action), f.method = m → f.locked = none → f.entered = [] → (doReturn e (T.setTop f) acts v).1 = T.setFrames fs) → Steps p.tables e below A (T.setFrames fs))
    {Q : Option Value → Heap → List Loc → Prop} {C S : Nat} (hQ : Q v T.heap locs) (hc : cells ≤ C) (hs : slots ≤ S) :
    OGo p.tables e below (fun o U' => ∃ v L, o = .returned v ∧ Q v U'.heap L ∧ FrameEnd s o U' L C S) A := by
  obtain ⟨fs, hr, hrun, hended, hW, hsame⟩ := X.leave hv hlocks
  exact ⟨_, _, hA fs hr, hrun, hended, v, locs, rfl, hQ, ⟨_, rfl⟩, hW, hsame.mono hc hs⟩
theorem OGo.retW {p : Program} {l : Launch} {e : Env} {R : Room} {s : State} {m : MethodId} {args : Array Value} {below : List Frame} {meth : Method} {c : Code} {T : State} {locs : List Loc} {cells slots : Nat} {vm0 : Vm} {k0 : Nat}
    (X : Stand p l e R (s.setVm vm0) m args below meth c T locs cells slots) (hS : s.Since vm0 k0) (hn : k0 ≤ T.heap.size) {v : Option Value} (hv : meth.sig.returnType = none → v = none) (hlocks : meth.locks = false) {A : State}
    (hA : ∀ fs, (∀ (f : JFrame) (acts : List Action), f.method = m → f.locked = none → f.entered = [] → (doReturn e (T.setTop f) acts v).1 = T.setFrames fs) → Steps p.tables e below A (T.setFrames fs))
    {Q : Option Value → Heap → List Loc → Prop} {C S : Nat} (hQ : Q v T.heap locs) (hc : cells ≤ C) (hs : slots ≤ S) :
    OGo p.tables e below (fun o U' => ∃ v L, o = .returned v ∧ Q v U'.heap L ∧ ReturnedEndW s o U' L C S) A := by
  obtain ⟨fs, hr, hrun, hended, h1, h2, h3, h4⟩ := X.leaveW hS hn hv hlocks
  exact ⟨_, _, hA fs hr, hrun, hended, v, locs, rfl, hQ, h1, h2, h3, h4.mono hc hs⟩
theorem OGo.retWH {p : Program} {l : Launch} {e : Env} {R : Room} {s : State} {m : MethodId} {args : Array Value} {below : List Frame} {meth : Method} {c : Code} {T : State} {locs : List Loc} {cells slots : Nat} {vm0 : Vm} {k0 : Nat} {Z : State} {EL : List (String × Nat)}
    (X : Stand p l e R (s.setVm vm0) m args below meth c T locs cells slots) (hS : s.Since vm0 k0) (hn : k0 ≤ T.heap.size) {v : Option Value} (hv : meth.sig.returnType = none → v = none) (hlocks : meth.locks = false) {A : State}
    (hA : ∀ fs, (∀ (f : JFrame) (acts : List Action), f.method = m → f.locked = none → f.entered = [] → (doReturn e (T.setTop f) acts v).1 = T.setFrames fs) → Steps p.tables e below A (T.setFrames fs))
    {Q : Option Value → Heap → List Loc → Prop} {C S : Nat} (hQ : Q v T.heap locs) (hCR : CHr Z EL s.vm s.heap T.vm T.heap) (hc : cells ≤ C) (hs : slots ≤ S) :
    OGo p.tables e below (fun o U' => ∃ v L, o = .returned v ∧ Q v U'.heap L ∧ CHr Z EL s.vm s.heap U'.vm U'.heap ∧ ReturnedEndW s o U' L C S) A := by
  obtain ⟨fs, hr, hrun, hended, h1, h2, h3, h4⟩ := X.leaveW hS hn hv hlocks
  exact ⟨_, _, hA fs hr, hrun, hended, v, locs, rfl, hQ, hCR, h1, h2, h3, h4.mono hc hs⟩
theorem Safe.bare {Z : State} {EL : List (String × Nat)} {vm : Vm} {h : Heap} {x : Addr} (hal : Z.vm.Alike vm) (E : Exa Z h x "java/lang/String") (N : Fld Z h x "java/lang/String" "value" "[B" .null) : Safe Z EL vm h x := fun B => by
  obtain ⟨cell, k, e1, e2, e3, -, -⟩ := E
  obtain ⟨p, -, u, a, -, q, -, F, rfl | rfl⟩ := B
  · obtain ⟨cell', cf, kf, i, f, n1, n2, -, -, -, -, n7⟩ := N
    have ha := F.ha
    obtain ⟨cS, ⟨⟨-, -, -, ⟨c1, k1, i1, f1, -⟩, -, -, -, v1, -⟩, -⟩, -⟩ := F
    obtain ⟨k3, e4, -⟩ := State.fieldFound?_setVm (s := Z) (vm' := vm) hal n2
    have e5 := (show (Wst Z vm h).fieldFound? _ _ _ = _ from e4).symm.trans f1
    simp only [Option.some.injEq, Prod.mk.injEq] at e5
    cases (show h[q.sa]? = some q.sC from ha).symm.trans n1
    rw [← e5.2.2.2, n7] at v1
    cases v1
  · have hd := F.hd
    cases (show h[q.sd]? = some q.SA from hd).symm.trans e1
    obtain ⟨cS, -, -, f, -⟩ := F
    have f' : Z.vm.findClass "[B" = some q.SA.cls := by rw [← hal.findClass]; exact f
    obtain ⟨k1, q1, q2⟩ := Vm.findClass_spec f'
    obtain ⟨k2, q3, q4⟩ := Vm.findClass_spec e2
    cases q1.symm.trans q3
    exact absurd (q2.symm.trans q4) (by decide)
theorem Sta.keep0 {Z : State} {h h' : Heap} {C n d : String} {v : Value} (F : Sta Z h C n d v) (K : Keep h h' []) : Sta Z h' C n d v := by
  obtain ⟨cf, i, k, f, st, cell, h1, h2, h3, h4, h5, r⟩ := F; exact ⟨cf, i, k, f, st, cell, h1, h2, h3, h4, K.2.1 _ _ h5 (fun q => nomatch q), r⟩
theorem Sta.keepE {Z : State} {h h' : Heap} {C n d : String} {v : Value} {ws : List Addr} (F : Sta Z h C n d v) (K : Keep h h' ws) (q : ∀ x ∈ ws, ∃ c : Cell, h[x]? = some c ∧ ∀ q, c.vm ≠ .statics q) : Sta Z h' C n d v := by
  obtain ⟨cf, i, k, f, st, cell, h1, h2, h3, h4, h5, h6, r⟩ := F
  refine ⟨cf, i, k, f, st, cell, h1, h2, h3, h4, K.2.1 _ _ h5 (fun hm => ?_), h6, r⟩
  obtain ⟨c, hc, hq⟩ := q _ hm
  cases h5.symm.trans hc
  cases hv : cell.vm <;> rw [hv] at h6 <;> first | exact hq _ hv | (simp [VmData.isStatics] at h6)
theorem staS {h : Heap} {y : Addr} {ws : List Addr} (a : ∃ c : Cell, h[y]? = some c ∧ ∀ q, c.vm ≠ .statics q) (r : ∀ x ∈ ws, ∃ c : Cell, h[x]? = some c ∧ ∀ q, c.vm ≠ .statics q) : ∀ x ∈ y :: ws, ∃ c : Cell, h[x]? = some c ∧ ∀ q, c.vm ≠ .statics q := fun x hx => (List.mem_cons.mp hx).elim (fun e => e ▸ a) (r x)
theorem own_nf {args : Array Value} {s : State} {C : String} {y y' : MethodName} (hsel : (Cond.selects C y' y').before args s = true) (e : y'.cls = y.cls) : NotFace s y := fun r0 h0 => by
  obtain ⟨c2, r2, m2, q1, q2, q3, q4, kP, hkP, hkPi⟩ := Cond.selects_spec hsel
  have a := findClass_of_methodNamed h0
  have b := findClass_of_methodNamed q3
  rw [e] at b
  have c : r0.cls = m2.cls := Option.some.inj (a.symm.trans b)
  exact ⟨kP, by rw [c]; exact hkP, hkPi⟩
theorem own_decl {a0 a1 : Array Value} {Z : State} {y : MethodName} {bytes : ByteArray} {maxL : Nat} {ret : Option FieldType} (w : (Cond.instanceMethod y).before a0 Z = true) (wc : (Cond.code y bytes maxL ret).before a0 Z = true) : (Cond.declares y).before a1 Z = true := by
  obtain ⟨m, meth, h1, h2, h3, -⟩ := Cond.instanceMethod_spec w
  obtain ⟨m2, c, h4, -, -, -, -, -, -, h5⟩ := Cond.code_spec h1 wc
  cases h2.symm.trans h4
  simp [Cond.before, Cond.holds, Cond.value, h1, h2, h3, h5]
theorem own_same {a0 : Array Value} {Z : State} {y : MethodName} (hmh : y.cls ≠ "java/lang/invoke/MethodHandle" ∧ y.cls ≠ "java/lang/invoke/VarHandle") (w : (Cond.declares y).before a0 Z = true) (nf : NotFace Z y) : (Cond.sameMethod y.cls y.cls y.name y.desc).before a0 Z = true := by
  obtain ⟨m, meth, h1, -⟩ := Cond.declares_spec w
  obtain ⟨k, hk, hi⟩ := nf m h1
  have hc := findClass_of_methodNamed h1
  have hf := State.methodFound?_of_named h1 hmh
  simp [Cond.before, Cond.holds, Cond.value, hc, hf, h1, hk, hi]
theorem fldI {args : Array Value} {s : State} {t : Term} {C n d : String} {x : Addr} {k : Int32} (ht : t.eval args s none [] s = some (.ref x)) (h : (Cond.eq (Term.field t C n d) (Term.int k)).value args s none s [] = some true) : Fld s s.heap x C n d (.int k) := by
  obtain ⟨u, w, hu, hw, hk, hk'⟩ := cmp_v (Or.inl h)
  cases (Term.int_eval k).symm.trans hw
  obtain ⟨z, rfl⟩ := hk'
  have e : z = k := by simpa [Cond.value, hu, Term.int_eval] using h
  subst e
  exact Fld.start (by rw [← fld_at ht]; exact hu)
theorem long_eval {args : Array Value} {s f : State} {o : Option Outcome} {idx : List Nat} (n : Int64) : (Term.long n).eval args f o idx s = some (.long n) := rfl
theorem fldL {args : Array Value} {s : State} {t : Term} {C n d : String} {x : Addr} {k : Int64} (ht : t.eval args s none [] s = some (.ref x)) (h : (Cond.eq (Term.field t C n d) (Term.long k)).value args s none s [] = some true) : Fld s s.heap x C n d (.long k) := by
  obtain ⟨u, w, hu, hw, hk, hk'⟩ := cmp_v (Or.inl h)
  cases (long_eval k).symm.trans hw
  obtain ⟨z, rfl⟩ := hk'
  have e : z = k := by simpa [Cond.value, hu, long_eval] using h
  subst e
  exact Fld.start (by rw [← fld_at ht]; exact hu)
theorem valL {args : Array Value} {s : State} {t : Term} {k : Int64} (h : (Cond.eq t (Term.long k)).value args s none s [] = some true) : t.eval args s none [] s = some (.long k) := by
  obtain ⟨u, w, hu, hw, hk, hk'⟩ := cmp_v (Or.inl h)
  cases (long_eval k).symm.trans hw
  obtain ⟨z, rfl⟩ := hk'
  have e : z = k := by simpa [Cond.value, hu, long_eval] using h
  subst e
  exact hu
theorem valI {args : Array Value} {s : State} {t : Term} {k : Int32} (h : (Cond.eq t (Term.int k)).value args s none s [] = some true) : t.eval args s none [] s = some (.int k) := by
  obtain ⟨u, w, hu, hw, hk, hk'⟩ := cmp_v (Or.inl h)
  cases (Term.int_eval k).symm.trans hw
  obtain ⟨z, rfl⟩ := hk'
  have e : z = k := by simpa [Cond.value, hu, Term.int_eval] using h
  subst e
  exact hu
theorem lenI {args : Array Value} {s : State} {t : Term} {x : Addr} {cl : Cell} {ty : FieldType} {k : Int32} (ht : t.eval args s none [] s = some (.ref x)) (A : Arr s s.heap x cl ty) (h : (Cond.eq (Term.length t) (Term.int k)).value args s none s [] = some true) : cl.slots.size.toInt32 = k ∧ cl.slots.size < 2 ^ 31 := by
  have hv := valI h
  have ha : s.arrayAt? x = some cl := Arr.fin (Vm.Alike.refl _) A
  simp only [Term.eval, ht, ha, Option.bind_eq_bind, Option.bind_some] at hv
  split at hv
  · rename_i q; exact ⟨by simpa using hv, q⟩
  · cases hv
theorem elemR {args : Array Value} {s : State} {t u : Term} {x y : Addr} {cl : Cell} {ty : FieldType} {k : Int32} (ht : t.eval args s none [] s = some (.ref x)) (A : Arr s s.heap x cl ty) (hu : u.eval args s none [] s = some (.ref y)) (h : (Cond.eq (Term.elem t (Term.int k)) u).value args s none s [] = some true) : cl.slots[k.toNatClampNeg]? = some (.ref y) := by
  obtain ⟨v, w, hv, hw, hk, hk'⟩ := cmp_v (Or.inl h)
  cases hu.symm.trans hw
  have e := (elem_in hv ht (Term.int_eval k) A.1).2
  rw [e]
  rcases ref_cases (v := v) hk'.2 with rfl | ⟨z, rfl⟩
  · simp [Cond.value, hv, hu] at h
  · have q : z = y := by simpa [Cond.value, hv, hu] using h
    rw [q]
end Jvm.Pilot.@@N@@.Own
namespace Jvm.Pilot.@@N@@
open Jvm Jvm.ClassFile Sem Op Lib Jvm.Free Jvm.Stand Jvm.LawKit Jvm.RoadKit Bundle Jvm.Pilot.@@N@@.Jvm.D Jvm.Pilot.@@N@@.Own
theorem oW {Z : State} {aV : Array Value} (hw : ∀ d ∈ tables_1, d.before aV Z = true) (i : Nat) {d : Jvm.Cond} (h : tables_1[i]? = some d) : d.before aV Z = true := hw d (List.mem_of_getElem? h)
theorem og {tb : Tables} {e : Env} {below : List Frame} {P : Outcome → State → Prop} {A : State} (B : State) (k : OGo tb e below P B) (h : ∀ t, Steps tb e below B t → Steps tb e below A t) : OGo tb e below P A := OGo.go k h
theorem own_acell {Z : State} {h : Heap} {a : Addr} {k : ClassId} {ty : FieldType} {z : Int32} {vs : List Value} {d : Value} (F : Arv Z h a k ty z vs d) : ∃ c : Cell, h[a]? = some c ∧ ∀ q, c.vm ≠ .statics q := by
  have N := F.nostat
  obtain ⟨c, A, -⟩ := F
  exact ⟨c, A.1, fun q e => by have := N c A.1; rw [e] at this; cases this⟩
abbrev oM0 : MethodName := ⟨"java/util/Objects", "requireNonNull", "(Ljava/lang/Object;)Ljava/lang/Object;"⟩
abbrev oM1 : MethodName := ⟨"java/lang/String", "decode2", "(II)C"⟩
abbrev oM2 : MethodName := ⟨"java/lang/String", "decode3", "(III)C"⟩
abbrev oM3 : MethodName := ⟨"java/lang/String", "decode4", "(IIII)I"⟩
abbrev oM4 : MethodName := ⟨"java/lang/Character", "highSurrogate", "(I)C"⟩
abbrev oM5 : MethodName := ⟨"java/lang/Character", "lowSurrogate", "(I)C"⟩
abbrev oM6 : MethodName := ⟨"java/lang/String", "isNotContinuation", "(I)Z"⟩
abbrev oM7 : MethodName := ⟨"java/lang/String", "isMalformed3_2", "(II)Z"⟩
abbrev oM8 : MethodName := ⟨"java/lang/String", "isMalformed4_2", "(II)Z"⟩
abbrev oM9 : MethodName := ⟨"java/lang/String", "isMalformed3", "(III)Z"⟩
abbrev oM10 : MethodName := ⟨"java/lang/Character", "isSurrogate", "(C)Z"⟩
abbrev oM11 : MethodName := ⟨"java/lang/String", "isMalformed4", "(III)Z"⟩
abbrev oM12 : MethodName := ⟨"java/lang/Character", "isSupplementaryCodePoint", "(I)Z"⟩
abbrev oM13 : MethodName := ⟨"java/lang/Math", "min", "(II)I"⟩
abbrev oM14 : MethodName := ⟨"java/lang/String", "coder", "()B"⟩
abbrev oM15 : MethodName := ⟨"java/lang/String", "length", "()I"⟩
abbrev oM16 : MethodName := ⟨"java/lang/String", "isLatin1", "()Z"⟩
abbrev oM17 : MethodName := ⟨"java/lang/String", "isEmpty", "()Z"⟩
abbrev oM18 : MethodName := ⟨"jdk/internal/util/Preconditions", "checkIndex", "(IILjava/util/function/BiFunction;)I"⟩
abbrev oM19 : MethodName := ⟨"java/lang/String", "checkIndex", "(II)V"⟩
abbrev oM20 : MethodName := ⟨"java/lang/StringLatin1", "charAt", "([BI)C"⟩
abbrev oM21 : MethodName := ⟨"java/lang/String", "charAt", "(I)C"⟩
abbrev oM22 : MethodName := ⟨"java/lang/StringUTF16", "length", "([B)I"⟩
abbrev oM23 : MethodName := ⟨"java/lang/StringUTF16", "checkIndex", "(I[B)V"⟩
abbrev oM24 : MethodName := ⟨"java/lang/StringUTF16", "getChar", "([BI)C"⟩
abbrev oM25 : MethodName := ⟨"java/lang/StringUTF16", "charAt", "([BI)C"⟩
abbrev oM26 : MethodName := ⟨"com/example/claimward/claimward/keys/KeyLocationTextPinLaw", "two", "(Ljava/lang/String;CC)Z"⟩
abbrev oM27 : MethodName := ⟨"java/lang/StringCoding", "countPositives", "([BII)I"⟩
abbrev oM28 : MethodName := ⟨"java/util/Arrays", "copyOfRange", "([BII)[B"⟩
abbrev oM29 : MethodName := ⟨"java/lang/StringUTF16", "newBytesLength", "(I)I"⟩
abbrev oM30 : MethodName := ⟨"java/lang/StringUTF16", "newBytesFor", "(I)[B"⟩
abbrev oM31 : MethodName := ⟨"java/util/Arrays", "copyOf", "([BI)[B"⟩
abbrev oM32 : MethodName := ⟨"jdk/internal/util/Preconditions", "checkFromIndexSize", "(IIILjava/util/function/BiFunction;)I"⟩
abbrev oM33 : MethodName := ⟨"java/lang/String", "checkBoundsOffCount", "(III)I"⟩
abbrev oM34 : MethodName := ⟨"java/lang/StringUTF16", "checkBoundsOffCount", "(II[B)V"⟩
abbrev oM35 : MethodName := ⟨"java/lang/StringUTF16", "inflate", "([BI[BII)V"⟩
abbrev oM36 : MethodName := ⟨"java/lang/StringLatin1", "inflate", "([BI[BII)V"⟩
abbrev oM37 : MethodName := ⟨"java/lang/StringUTF16", "putChar", "([BII)V"⟩
abbrev oM38 : MethodName := ⟨"java/lang/String", "decodeUTF8_UTF16", "([BII[BIZ)I"⟩
abbrev oM39 : MethodName := ⟨"java/lang/String", "<init>", "(Ljava/nio/charset/Charset;[BII)V"⟩
abbrev oM40 : MethodName := ⟨"java/lang/String", "<init>", "([BLjava/nio/charset/Charset;)V"⟩
abbrev oM41 : MethodName := ⟨"com/example/claimward/claimward/keys/KeyLocation", "text", "([B)Ljava/lang/String;"⟩
abbrev oR0 : Room := { frames := 0, cells := 0, slots := 0, locals := 0 }
abbrev oR1 : Room := { frames := 1, cells := 0, slots := 0, locals := 13 }
abbrev oR2 : Room := { frames := 1, cells := 0, slots := 0, locals := 14 }
abbrev oR3 : Room := { frames := 2, cells := 0, slots := 0, locals := 27 }
abbrev oR4 : Room := { frames := 3, cells := 0, slots := 0, locals := 40 }
abbrev oR5 : Room := { frames := 4, cells := 0, slots := 0, locals := 53 }
abbrev oR6 : Room := { frames := 5, cells := 0, slots := 0, locals := 66 }
abbrev oR7 : Room := { frames := 1, cells := 1, slots := 5, locals := 14 }
abbrev oR8 : Room := { frames := 1, cells := 1, slots := 10, locals := 12 }
abbrev oR9 : Room := { frames := 1, cells := 1, slots := 6, locals := 26 }
abbrev oR10 : Room := { frames := 1, cells := 0, slots := 0, locals := 15 }
abbrev oR11 : Room := { frames := 2, cells := 0, slots := 0, locals := 29 }
abbrev oR12 : Room := { frames := 3, cells := 0, slots := 0, locals := 43 }
abbrev oR13 : Room := { frames := 4, cells := 0, slots := 0, locals := 60 }
abbrev oR14 : Room := { frames := 5, cells := 4, slots := 40, locals := 160 }
abbrev oR15 : Room := { frames := 6, cells := 4, slots := 40, locals := 182 }
abbrev oR16 : Room := { frames := 7, cells := 5, slots := 44, locals := 197 }
abbrev oR17 : Room := { frames := 1, cells := 2, slots := 4, locals := 12 }
abbrev oR18 : Room := { frames := 2, cells := 2, slots := 4, locals := 34 }
abbrev oR19 : Room := { frames := 3, cells := 3, slots := 8, locals := 49 }
abbrev oD3 (p : Nat) (i : Jvm.ClassFile.Instr) (n : Nat) : Prop := decode jdk_31_method_10_code p = .ok (i, n)
abbrev oD16 (p : Nat) (i : Jvm.ClassFile.Instr) (n : Nat) : Prop := decode jdk_42_method_35_code p = .ok (i, n)
abbrev oD29 (p : Nat) (i : Jvm.ClassFile.Instr) (n : Nat) : Prop := decode jdk_42_method_36_code p = .ok (i, n)
abbrev oD37 (p : Nat) (i : Jvm.ClassFile.Instr) (n : Nat) : Prop := decode jdk_42_method_37_code p = .ok (i, n)
abbrev oD40 (p : Nat) (i : Jvm.ClassFile.Instr) (n : Nat) : Prop := decode jdk_89_method_28_code p = .ok (i, n)
abbrev oD41 (p : Nat) (i : Jvm.ClassFile.Instr) (n : Nat) : Prop := decode jdk_89_method_29_code p = .ok (i, n)
abbrev oD42 (p : Nat) (i : Jvm.ClassFile.Instr) (n : Nat) : Prop := decode jdk_42_method_29_code p = .ok (i, n)
abbrev oD36 (p : Nat) (i : Jvm.ClassFile.Instr) (n : Nat) : Prop := decode jdk_42_method_31_code p = .ok (i, n)
abbrev oD43 (p : Nat) (i : Jvm.ClassFile.Instr) (n : Nat) : Prop := decode jdk_42_method_33_code p = .ok (i, n)
abbrev oD28 (p : Nat) (i : Jvm.ClassFile.Instr) (n : Nat) : Prop := decode jdk_42_method_30_code p = .ok (i, n)
abbrev oD30 (p : Nat) (i : Jvm.ClassFile.Instr) (n : Nat) : Prop := decode jdk_89_method_16_code p = .ok (i, n)
abbrev oD38 (p : Nat) (i : Jvm.ClassFile.Instr) (n : Nat) : Prop := decode jdk_42_method_32_code p = .ok (i, n)
abbrev oD39 (p : Nat) (i : Jvm.ClassFile.Instr) (n : Nat) : Prop := decode jdk_89_method_13_code p = .ok (i, n)
abbrev oD18 (p : Nat) (i : Jvm.ClassFile.Instr) (n : Nat) : Prop := decode jdk_29_method_69_code p = .ok (i, n)
abbrev oD10 (p : Nat) (i : Jvm.ClassFile.Instr) (n : Nat) : Prop := decode jdk_42_method_152_code p = .ok (i, n)
abbrev oD9 (p : Nat) (i : Jvm.ClassFile.Instr) (n : Nat) : Prop := decode jdk_42_method_54_code p = .ok (i, n)
abbrev oD12 (p : Nat) (i : Jvm.ClassFile.Instr) (n : Nat) : Prop := decode jdk_42_method_154_code p = .ok (i, n)
abbrev oD35 (p : Nat) (i : Jvm.ClassFile.Instr) (n : Nat) : Prop := decode jdk_42_method_55_code p = .ok (i, n)
abbrev oD15 (p : Nat) (i : Jvm.ClassFile.Instr) (n : Nat) : Prop := decode jdk_41_method_11_code p = .ok (i, n)
abbrev oD14 (p : Nat) (i : Jvm.ClassFile.Instr) (n : Nat) : Prop := decode jdk_42_method_155_code p = .ok (i, n)
abbrev oD13 (p : Nat) (i : Jvm.ClassFile.Instr) (n : Nat) : Prop := decode jdk_43_method_2_code p = .ok (i, n)
abbrev oD11 (p : Nat) (i : Jvm.ClassFile.Instr) (n : Nat) : Prop := decode jdk_42_method_56_code p = .ok (i, n)
abbrev oD24 (p : Nat) (i : Jvm.ClassFile.Instr) (n : Nat) : Prop := decode jdk_52_method_6_code p = .ok (i, n)
abbrev oD33 (p : Nat) (i : Jvm.ClassFile.Instr) (n : Nat) : Prop := decode jdk_52_method_91_code p = .ok (i, n)
abbrev oD34 (p : Nat) (i : Jvm.ClassFile.Instr) (n : Nat) : Prop := decode jdk_52_method_5_code p = .ok (i, n)
abbrev oD32 (p : Nat) (i : Jvm.ClassFile.Instr) (n : Nat) : Prop := decode jdk_52_method_83_code p = .ok (i, n)
abbrev oD8 (p : Nat) (i : Jvm.ClassFile.Instr) (n : Nat) : Prop := decode method_3_code p = .ok (i, n)
abbrev oD6 (p : Nat) (i : Jvm.ClassFile.Instr) (n : Nat) : Prop := decode jdk_123_method_3_code p = .ok (i, n)
abbrev oD7 (p : Nat) (i : Jvm.ClassFile.Instr) (n : Nat) : Prop := decode jdk_65_method_132_code p = .ok (i, n)
abbrev oD20 (p : Nat) (i : Jvm.ClassFile.Instr) (n : Nat) : Prop := decode jdk_52_method_3_code p = .ok (i, n)
abbrev oD19 (p : Nat) (i : Jvm.ClassFile.Instr) (n : Nat) : Prop := decode jdk_52_method_2_code p = .ok (i, n)
abbrev oD17 (p : Nat) (i : Jvm.ClassFile.Instr) (n : Nat) : Prop := decode jdk_65_method_121_code p = .ok (i, n)
abbrev oD26 (p : Nat) (i : Jvm.ClassFile.Instr) (n : Nat) : Prop := decode jdk_41_method_13_code p = .ok (i, n)
abbrev oD25 (p : Nat) (i : Jvm.ClassFile.Instr) (n : Nat) : Prop := decode jdk_42_method_157_code p = .ok (i, n)
abbrev oD23 (p : Nat) (i : Jvm.ClassFile.Instr) (n : Nat) : Prop := decode jdk_52_method_94_code p = .ok (i, n)
abbrev oD22 (p : Nat) (i : Jvm.ClassFile.Instr) (n : Nat) : Prop := decode jdk_52_method_86_code p = .ok (i, n)
abbrev oD21 (p : Nat) (i : Jvm.ClassFile.Instr) (n : Nat) : Prop := decode jdk_43_method_50_code p = .ok (i, n)
abbrev oD31 (p : Nat) (i : Jvm.ClassFile.Instr) (n : Nat) : Prop := decode jdk_52_method_4_code p = .ok (i, n)
abbrev oD27 (p : Nat) (i : Jvm.ClassFile.Instr) (n : Nat) : Prop := decode jdk_42_method_38_code p = .ok (i, n)
abbrev oD2 (p : Nat) (i : Jvm.ClassFile.Instr) (n : Nat) : Prop := decode jdk_42_method_49_code p = .ok (i, n)
abbrev oD1 (p : Nat) (i : Jvm.ClassFile.Instr) (n : Nat) : Prop := decode prog_6_method_12_code p = .ok (i, n)
abbrev oD4 (p : Nat) (i : Jvm.ClassFile.Instr) (n : Nat) : Prop := decode jdk_42_method_11_code p = .ok (i, n)
def own_EL : List (String × Nat) := [("java/lang/String", 7)]
theorem own_ewT {Z : State} {a0 : Array Value} (hw : ∀ d ∈ tables_1, d.before a0 Z = true) : EW Z a0 own_EL := EW.cons (oW hw 161 rfl) (by decide) EW.nil
theorem own_wST {Z : State} {a0 : Array Value} (hw : ∀ d ∈ tables_1, d.before a0 Z = true) : ∀ d ∈ Bundle.stringAtoms, d.before a0 Z = true := fun d hd => hw d ((by decide +kernel : ∀ d ∈ Bundle.stringAtoms, d ∈ tables_1) d hd)
theorem own_eqR {args : Array Value} {s : State} {t u : Term} {y : Addr} (hu : u.eval args s none [] s = some (.ref y)) (h : (Cond.eq t u).value args s none s [] = some true) : t.eval args s none [] s = some (.ref y) := by
  obtain ⟨v, w, hv, hw, hk, hk'⟩ := cmp_v (Or.inl h)
  cases hu.symm.trans hw
  cases v with
  | ref z => have e : z = y := by simpa [Cond.value, hv, hu] using h
             rw [hv, e]
  | _ => simp [Cond.value, hv, hu] at h
/-- the payer of a wide callee with an exception table (the library has it for a narrow one alone) -/
theorem own_backW {p : Program} {l : Launch} {e : Env} {R : Room} {s : State} {args : Array Value} {below : List Frame} {Z : State} {a0 : Array Value} {EL : List (String × Nat)} {h : Heap} {vm0 : Vm} {y : MethodName} {bytes : ByteArray} {maxL : Nat} {ret : Option FieldType} {hs : List (Nat × Nat × Nat × Nat)} {rm : Room} {len W : Nat} {as' : Array Value} {Q : Option Value → Heap → List Loc → Prop}
    (hM : MetFree l y (head1 [Cond.codeWith y bytes maxL ret hs] rm) (fun a U => a = as' ∧ Z.Warmed39 U.vm ∧ U.heap = h ∧ CHv Z EL U.vm h) (fun _ _ _ _ _ => True) (fun _ U o U' => ∃ v L, o = .returned v ∧ Q v U'.heap L ∧ CHr Z EL U.vm U.heap U'.vm U'.heap ∧ ReturnedEndW U o U' L rm.cells rm.slots))
    (hZ : Z.Warmed39 vm0) (wc : (Cond.codeWith y bytes maxL ret hs).before a0 Z = true) (wz : (Cond.initialized y.cls).before a0 Z = true) (hf : rm.frames + 1 ≤ R.frames) (hl : W + (maxL + 11) + rm.locals ≤ R.locals) (hEL : EW Z a0 EL) (H : CHv Z EL vm0 h) :
    BackS l R p e below (s.setVm vm0) args y len W (fun A a => a = as' ∧ A.U.heap = h ∧ A.cells + rm.cells ≤ R.cells ∧ A.slots + rm.slots ≤ R.slots)
      (fun A _ v B => ∃ L, Q v B.U.heap L ∧ B.locs = A.locs ++ L ∧ B.cells = A.cells + rm.cells ∧ B.slots = A.slots + rm.slots ∧ CHr Z EL vm0 h B.U.vm B.U.heap) := by
  rintro m meth c ⟨U, Ls, c0, s0⟩ g ig mk a X rfl hsize hdg hW hn ⟨rfl, hU, hc, hsl⟩
  dsimp only [Pt.U, Pt.locs, Pt.cells, Pt.slots] at X hn hU hc hsl ⊢
  have hZU : Z.Warmed39 U.vm := wtrans (s := s.setVm vm0) hZ X.warmed
  have wc' : (Cond.codeWith y bytes maxL ret hs).before a U = true := mv hZU wc
  have hpre : (head1 [Cond.codeWith y bytes maxL ret hs] rm).pre.before a U = true := by
    show (Cond.and _ .tt).before a U = true
    rw [Cond.before_and, wc']; rfl
  obtain ⟨mY, methY, cY, hnY, hmY, hcY, -, hlY, -⟩ := Cond.codeWith_spec wc'
  cases hn.symm.trans hnY
  obtain ⟨kY, hkY, -⟩ := className_of_methodNamed hn
  have happ : (head1 [Cond.codeWith y bytes maxL ret hs] rm).appliesLoose y e.platform (U.calling g mk a) = true :=
    Spec.appliesLoose_calling (g := g) X.here hdg hn hkY (Cond.initialized_spec (findClass_of_methodNamed hn) hkY (mv (args := a) hZU wz)) (X.room_calling (g := g) (R' := rm) hsize hmY hcY hf (by rw [hlY]; omega) hc hsl) hpre
  obtain ⟨mid, hmid⟩ := X.here.above
  obtain ⟨g₀, hg0⟩ := Option.isSome_iff_exists.mp X.here.top
  obtain ⟨r, hr⟩ := State.topJava?_eq_some.mp hg0
  obtain ⟨o, s₂, hst, -, hend, v, L, rfl, hQ, hCR, hE⟩ := Steps.callFree hM p X.admits X.cas X.clock (acts := []) (show (U.setTop g).frames = (.java g :: mid) ++ below by rw [State.frames_setTop' g X.here.top, hmid]; rfl) happ ⟨rfl, hZU, hU, (CHv.at X hZ hEL H).1⟩ trivial
  rw [State.frames_setTop' g X.here.top] at hend
  have hE : ReturnedEndW (U.calling g mk a) (.returned v) s₂ L rm.cells rm.slots := hE
  have hCR : CHr Z EL (U.calling g mk a).vm (U.calling g mk a).heap s₂.vm s₂.heap := hCR
  obtain ⟨-, hW₂, hB₂, e2, q2, q3, q4, q5, q6⟩ := id hE
  obtain ⟨c₂, i₂, len₂, hc₂, hd₂, hf₂⟩ := hend
  have hW₂' : U.Warmed39 s₂.vm := hW₂
  obtain rfl : c₂ = c := Option.some.inj (hc₂.symm.trans (Eq.trans (by rw [State.code?_eq, State.code?_eq, hW₂'.alike.method?]) X.here.code))
  obtain rfl : len₂ = len := by rw [hdg] at hd₂; cases hd₂; rfl
  have hs₂ : s₂ = (({ U with heap := s₂.heap, slotsUsed := s₂.slotsUsed } : State).setVm s₂.vm).setTop { g with pc := g.pc + len₂, stack := v.toList ++ g.stack } := by
    have z1 : s₂ = ({ s₂ with vm := (U.calling g mk a).vm } : State).setVm s₂.vm := rfl
    have z2 : (({ U with heap := s₂.heap, slotsUsed := s₂.slotsUsed } : State).setVm s₂.vm).frames = .java g₀ :: r := hr
    have z3 : s₂ = ({ (U.calling g mk a).setFrames s₂.frames with heap := s₂.heap, slotsUsed := s₂.slotsUsed } : State).setVm s₂.vm := by rw [e2] at z1; exact z1
    refine z3.trans ?_
    rw [hf₂, State.calling_eq X.here.top, State.setFrames_setFrames, State.setTop_of_frames _ z2, hr]
    rfl
  have hsame : U.sameButNew ({ U with heap := s₂.heap, slotsUsed := s₂.slotsUsed } : State) L rm.cells rm.slots := by
    refine ⟨?_, q2, q3, q4, q5, q6⟩
    obtain ⟨t, ht, -⟩ := State.frames_cons hr
    show ({ U with heap := s₂.heap, slotsUsed := s₂.slotsUsed } : State) = { U.setFrames U.frames with heap := s₂.heap, slotsUsed := s₂.slotsUsed }
    rw [State.setFrames_self ht]
  obtain ⟨X', hS⟩ := X.movedW (T₂ := (({ U with heap := s₂.heap, slotsUsed := s₂.slotsUsed } : State).setVm s₂.vm)) ((X.here.setHeapUsed s₂.heap s₂.slotsUsed).setVm hW₂'.alike) X.tail rfl rfl hW₂' hB₂ hsame
  refine ⟨v, ⟨(({ U with heap := s₂.heap, slotsUsed := s₂.slotsUsed } : State).setVm s₂.vm), Ls ++ L, c0 + rm.cells, s0 + rm.slots⟩, X', hS, hsame.2.1, ⟨L, hQ, rfl, rfl, rfl, (CHv.at X hZ hEL H).trans ?_⟩, ?_⟩
  · rw [← hU]; exact hCR
  · show Steps p.tables e below _ ((({ U with heap := s₂.heap, slotsUsed := s₂.slotsUsed } : State).setVm s₂.vm).setTop { g with pc := g.pc + len₂, stack := v.toList ++ g.stack })
    rw [← hs₂]
    exact hst
/-- a constructor's call of a constructor with an exception table, wide -/
theorem own_specialW {p : Program} {l : Launch} {e : Env} {R : Room} {s : State} {m : MethodId} {args : Array Value} {below : List Frame} {meth : Method} {c : Code} {T : State} {locs : List Loc} {cells slots : Nat} (X : Stand p l e R s m args below meth c T locs cells slots) (hexec : p.tables.exec = Jvm.exec) {own : String} {index : Nat} {y : MethodName} (hy1 : y.name = "<init>")
    (hown : s.vm.findClass own = some m.cls) (hlink : (Cond.methodLink own index y).before args s = true) (hinst : (Cond.instanceMethod y).before args s = true)
    {bytes : ByteArray} {maxL : Nat} {hs : List (Nat × Nat × Nat × Nat)} (hcode : (Cond.codeWith y bytes maxL none hs).before args s = true)
    (hy : y.cls ≠ "java/lang/invoke/MethodHandle" ∧ y.cls ≠ "java/lang/invoke/VarHandle")
    {W : Nat} {Pre : Pt → Array Value → Prop} {Post : Pt → Array Value → Option Value → Pt → Prop} (hK : BackS l R p e below s args y 3 W Pre Post)
    {g : JFrame} (hg : g.method = m) (hsize : g.locals.size = c.maxLocals) {s₀ : State} (hcome : Steps p.tables e below s₀ (T.setTop g)) {a : Addr} {argsL rest : List Value}
    (hlen : ∀ sig, parseMethodDescriptor y.desc = some sig → argsL.length = sig.parameters.length) (hstack : g.stack = argsL.reverse ++ .ref a :: rest) (hW : 2 * g.monitorRoom + (rest.map fun v => v.category).sum ≤ W)
    (hdg : decode c.code g.pc = .ok (.invokespecial index, 3)) (hpre : ∀ vm₁, s.WarmedH vm₁ → Pre ⟨T.setVm vm₁, locs, cells, slots⟩ (.ref a :: argsL).toArray) :
    ∃ (v : Option Value) (vm₁ : Vm) (B : Pt), s.WarmedH vm₁ ∧ Stand p l e R (s.setVm B.U.vm) m args below meth c B.U B.locs B.cells B.slots ∧ s.Since B.U.vm B.U.heap.size ∧ T.heap.size ≤ B.U.heap.size ∧ Post ⟨T.setVm vm₁, locs, cells, slots⟩ (.ref a :: argsL).toArray v B ∧
      Steps p.tables e below s₀ (B.U.setTop { g with pc := g.pc + 3, stack := v.toList ++ rest }) := by
  obtain ⟨mk, methM, cM, kP, vm₁, hnamed, -, -, -, -, -, -, -, hW₁, hstep⟩ :=
    Steps.initColdArgsH (e := e) X.here hexec X.warmed (show e.platform.magicAccessors = ({} : Platform).magicAccessors by rw [X.admits.platform]) hown hy1 hy hlink hinst hcode (f := g) hg hlen hstack hdg
  obtain ⟨v, B, X', hS, hgr, hpost, hst⟩ := hK m meth c ⟨T.setVm vm₁, locs, cells, slots⟩ { g with stack := rest } (.invokespecial index) mk (.ref a :: argsL).toArray (X.noted hW₁) hg hsize hdg hW ((X.noted hW₁).named hnamed) (hpre vm₁ hW₁)
  exact ⟨v, vm₁, B, hW₁, X', hS, hgr, hpost, (hcome.trans (hstep _ fun acts => by rw [doInvoke_state]; exact Steps.refl _)).trans hst⟩

theorem own_small (P : Int32 → Prop) (k : Nat) (hk : k ≤ 256) (h : ∀ n : Nat, n < k → P (Int32.ofNat n)) (v : Int32) (h1 : 0 ≤ v.toInt) (h2 : v.toInt < k) : P v := by
  have e : v = Int32.ofNat v.toInt.toNat := by
    apply Int32.toInt_inj.mp
    rw [Int32.toInt_ofNat_small (by omega)]; omega
  rw [e]; exact h _ (by omega)
/-- the two bytes that putChar lays, and the char that getChar reads -/
def own_lo (c : Int32) : Int32 := (((c >>> ((0 : Int32) &&& 31)).toInt8.toInt32).toInt8.toInt32)
def own_hi (c : Int32) : Int32 := (((c >>> ((8 : Int32) &&& 31)).toInt8.toInt32).toInt8.toInt32)
def own_gc (a b : Int32) : Int32 := (((((a &&& (255 : Int32)) <<< ((0 : Int32) &&& 31)) ||| ((b &&& (255 : Int32)) <<< ((8 : Int32) &&& 31))).toUInt32.toUInt16.toUInt32.toInt32).toUInt32.toUInt16.toUInt32.toInt32)
theorem own_gcv (c : Int32) (h0 : 0 ≤ c.toInt) (h1 : c.toInt < 65536) : own_gc (own_lo c) (own_hi c) = c := by
  apply Int32.toInt_inj.mp
  unfold own_gc
  have a1 : (own_lo c).toInt % 256 = c.toInt % 256 := by
    unfold own_lo
    have a := c_ishr c 0 0 (by decide)
    have b := c_i2b (c >>> ((0 : Int32) &&& 31))
    have d := c_i2b ((c >>> ((0 : Int32) &&& 31)).toInt8.toInt32)
    omega
  have a2 : (own_hi c).toInt % 256 = c.toInt / 256 := by
    unfold own_hi
    have a := c_ishr c 8 8 (by decide)
    have b := c_i2b (c >>> ((8 : Int32) &&& 31))
    have d := c_i2b ((c >>> ((8 : Int32) &&& 31)).toInt8.toInt32)
    omega
  generalize own_lo c = x at *
  generalize own_hi c = y at *
  have b1 := c_mask x 255 8 (by decide) (by decide)
  have b2 := c_mask y 255 8 (by decide) (by decide)
  generalize (x &&& (255 : Int32)) = x' at *
  generalize (y &&& (255 : Int32)) = y' at *
  have d1 := c_ishl x' 0 0 (by decide)
  have d2 := c_ishl y' 8 8 (by decide)
  have r1 := rng32 (x' <<< ((0 : Int32) &&& 31))
  have r2 := rng32 (y' <<< ((8 : Int32) &&& 31))
  have f := c_or' (x' <<< ((0 : Int32) &&& 31)) (y' <<< ((8 : Int32) &&& 31)) 8 (by decide) 256 (by decide) (by omega) (by omega) (by omega)
  have g := c_i2c ((x' <<< ((0 : Int32) &&& 31)) ||| (y' <<< ((8 : Int32) &&& 31)))
  have g2 := c_i2c (((x' <<< ((0 : Int32) &&& 31)) ||| (y' <<< ((8 : Int32) &&& 31))).toUInt32.toUInt16.toUInt32.toInt32)
  omega
theorem own_xor6 (a b : Int32) (h0 : 0 ≤ a.toInt) (h1 : a.toInt % 64 = 0) (h2 : 0 ≤ b.toInt) (h3 : b.toInt < 64) : (a ^^^ b).toInt = a.toInt + b.toInt := by
  have ra := rng32 a; have rb := rng32 b
  have ea : a.toInt = (a.toBitVec.toNat : Int) := by
    rw [show a.toInt = a.toBitVec.toInt from rfl] at *
    rw [BitVec.toInt_eq_toNat_cond] at *
    split at h0 <;> rename_i q
    · rw [if_pos q]
    · exfalso; have := a.toBitVec.isLt; omega
  have eb : b.toInt = (b.toBitVec.toNat : Int) := by
    rw [show b.toInt = b.toBitVec.toInt from rfl] at *
    rw [BitVec.toInt_eq_toNat_cond] at *
    split at h2 <;> rename_i q
    · rw [if_pos q]
    · exfalso; have := b.toBitVec.isLt; omega
  have hx : (a ^^^ b).toBitVec.toNat = a.toBitVec.toNat + b.toBitVec.toNat := by
    rw [show (a ^^^ b).toBitVec = a.toBitVec ^^^ b.toBitVec from rfl, BitVec.toNat_xor]
    generalize a.toBitVec.toNat = x at *
    generalize b.toBitVec.toNat = y at *
    have hd : (x ^^^ y) / 2 ^ 6 = x / 2 ^ 6 := by
      rw [Nat.xor_div_two_pow, Nat.div_eq_of_lt (a := y) (by omega), Nat.xor_zero]
    have hm : (x ^^^ y) % 2 ^ 6 = y := by
      rw [Nat.xor_mod_two_pow, show x % 2 ^ 6 = 0 by omega, Nat.zero_xor, Nat.mod_eq_of_lt (by omega)]
    omega
  rw [ea, eb, show (a ^^^ b).toInt = (a ^^^ b).toBitVec.toInt from rfl, BitVec.toInt_eq_toNat_cond, if_pos (by omega), hx]
  omega
theorem own_xor12 (a b : Int32) (h0 : 0 ≤ a.toInt) (h1 : a.toInt % 4096 = 0) (h2 : 0 ≤ b.toInt) (h3 : b.toInt < 4096) : (a ^^^ b).toInt = a.toInt + b.toInt := by
  have ra := rng32 a; have rb := rng32 b
  have ea : a.toInt = (a.toBitVec.toNat : Int) := by
    rw [show a.toInt = a.toBitVec.toInt from rfl] at *
    rw [BitVec.toInt_eq_toNat_cond] at *
    split at h0 <;> rename_i q
    · rw [if_pos q]
    · exfalso; have := a.toBitVec.isLt; omega
  have eb : b.toInt = (b.toBitVec.toNat : Int) := by
    rw [show b.toInt = b.toBitVec.toInt from rfl] at *
    rw [BitVec.toInt_eq_toNat_cond] at *
    split at h2 <;> rename_i q
    · rw [if_pos q]
    · exfalso; have := b.toBitVec.isLt; omega
  have hx : (a ^^^ b).toBitVec.toNat = a.toBitVec.toNat + b.toBitVec.toNat := by
    rw [show (a ^^^ b).toBitVec = a.toBitVec ^^^ b.toBitVec from rfl, BitVec.toNat_xor]
    generalize a.toBitVec.toNat = x at *
    generalize b.toBitVec.toNat = y at *
    have hd : (x ^^^ y) / 2 ^ 12 = x / 2 ^ 12 := by
      rw [Nat.xor_div_two_pow, Nat.div_eq_of_lt (a := y) (by omega), Nat.xor_zero]
    have hm : (x ^^^ y) % 2 ^ 12 = y := by
      rw [Nat.xor_mod_two_pow, show x % 2 ^ 12 = 0 by omega, Nat.zero_xor, Nat.mod_eq_of_lt (by omega)]
    omega
  rw [ea, eb, show (a ^^^ b).toInt = (a ^^^ b).toBitVec.toInt from rfl, BitVec.toInt_eq_toNat_cond, if_pos (by omega), hx]
  omega
theorem own_xx (a b c : Int32) : (a ^^^ c) ^^^ (b ^^^ c) = a ^^^ b := by
  rw [Int32.xor_assoc, ← Int32.xor_assoc c b c, Int32.xor_comm c b, Int32.xor_assoc b c c, Int32.xor_self, Int32.xor_zero]
theorem own_cc (x : Int32) : (x.toUInt32.toUInt16.toUInt32.toInt32).toUInt32.toUInt16.toUInt32.toInt32 = x.toUInt32.toUInt16.toUInt32.toInt32 := by
  apply Int32.toInt_inj.mp
  have a := c_i2c x; have b := c_i2c (x.toUInt32.toUInt16.toUInt32.toInt32); omega
def own_d2 (a b : Int32) : Int32 := (((((a <<< ((6 : Int32) &&& 31)) ^^^ b) ^^^ (3968 : Int32)).toUInt32.toUInt16.toUInt32.toInt32).toUInt32.toUInt16.toUInt32.toInt32)
def own_d3 (a b c : Int32) : Int32 := (((((a <<< ((12 : Int32) &&& 31)) ^^^ (b <<< ((6 : Int32) &&& 31))) ^^^ (c ^^^ (-123008 : Int32))).toUInt32.toUInt16.toUInt32.toInt32).toUInt32.toUInt16.toUInt32.toInt32)
def own_d4 (a b c d : Int32) : Int32 := ((((a <<< ((18 : Int32) &&& 31)) ^^^ (b <<< ((12 : Int32) &&& 31))) ^^^ (c <<< ((6 : Int32) &&& 31))) ^^^ (d ^^^ (3678080 : Int32)))
def own_hs (a : Int32) : Int32 := (((((a.toUInt32 >>> ((10 : Int32) &&& 31).toUInt32).toInt32) + (55232 : Int32)).toUInt32.toUInt16.toUInt32.toInt32).toUInt32.toUInt16.toUInt32.toInt32)
def own_ls (a : Int32) : Int32 := ((((a &&& (1023 : Int32)) + (56320 : Int32)).toUInt32.toUInt16.toUInt32.toInt32).toUInt32.toUInt16.toUInt32.toInt32)
def own_l1 (a : Int32) : Int32 := (((a &&& (255 : Int32)).toUInt32.toUInt16.toUInt32.toInt32).toUInt32.toUInt16.toUInt32.toInt32)
def own_HT (t : Int32) : Prop := ¬ t < 0 ∧ (t.toUInt32.toUInt16.toUInt32.toInt32) = t ∧ ¬ (t &&& (192 : Int32)) = (128 : Int32) ∧ (t &&& (255 : Int32)) < (144 : Int32) ∧ ¬ ((t &&& (255 : Int32)) &&& (192 : Int32)) = (128 : Int32) ∧ ¬ t < (-64 : Int32) ∧ (t.toInt8.toInt32) = t
def own_H1 (a b c : Int32) : Prop := a < 0 ∧ ¬ (a &&& (254 : Int32)) = (194 : Int32) ∧ (a >>> ((5 : Int32) &&& 31)) = (-2 : Int32) ∧ ¬ (a &&& (30 : Int32)) = 0 ∧ (b &&& (192 : Int32)) = (128 : Int32) ∧ own_d2 a b = c
def own_HL (a b c : Int32) : Prop := a < 0 ∧ (a &&& (254 : Int32)) = (194 : Int32) ∧ b < (-64 : Int32) ∧ (((own_d2 a b).toInt8.toInt32).toInt8.toInt32) = c
def own_H2 (a b c d : Int32) : Prop := a < 0 ∧ ¬ (a &&& (254 : Int32)) = (194 : Int32) ∧ ¬ (a >>> ((5 : Int32) &&& 31)) = (-2 : Int32) ∧ (a >>> ((4 : Int32) &&& 31)) = (-2 : Int32) ∧ (a = (-32 : Int32) → ¬ (b &&& (224 : Int32)) = (128 : Int32)) ∧ (b &&& (192 : Int32)) = (128 : Int32) ∧ (c &&& (192 : Int32)) = (128 : Int32) ∧ own_d3 a b c = d ∧ (¬ d < (55296 : Int32) → ¬ d < (57344 : Int32))
def own_H3 (a b c d x y z : Int32) : Prop := a < 0 ∧ ¬ (a &&& (254 : Int32)) = (194 : Int32) ∧ ¬ (a >>> ((5 : Int32) &&& 31)) = (-2 : Int32) ∧ ¬ (a >>> ((4 : Int32) &&& 31)) = (-2 : Int32) ∧ (a >>> ((3 : Int32) &&& 31)) = (-2 : Int32) ∧ (b &&& (192 : Int32)) = (128 : Int32) ∧ (c &&& (192 : Int32)) = (128 : Int32) ∧ (d &&& (192 : Int32)) = (128 : Int32) ∧ own_d4 a b c d = x ∧ ¬ x < (65536 : Int32) ∧ x < (1114112 : Int32) ∧ own_hs x = y ∧ own_ls x = z
theorem own_ofN (v : Int32) (h : 0 ≤ v.toInt) : v = Int32.ofNat v.toInt.toNat := by
  have r := rng32 v
  apply Int32.toInt_inj.mp
  rw [Int32.toInt_ofNat_small (by omega)]; omega
theorem own_fA (h : Int32) (h0 : 2 ≤ h.toInt) (h1 : h.toInt < (32 : Nat)) : ((((192 : Int32) ||| h).toInt8.toInt32).toInt8.toInt32) < 0 ∧ (((((192 : Int32) ||| h).toInt8.toInt32).toInt8.toInt32) >>> ((5 : Int32) &&& 31)) = (-2 : Int32) ∧ ¬ (((((192 : Int32) ||| h).toInt8.toInt32).toInt8.toInt32) &&& (30 : Int32)) = 0 ∧ ((((((192 : Int32) ||| h).toInt8.toInt32).toInt8.toInt32) &&& (254 : Int32)) = (194 : Int32) → h.toInt < 4) :=
  own_small (fun h => 2 ≤ h.toInt → (((((192 : Int32) ||| h).toInt8.toInt32).toInt8.toInt32) < 0 ∧ (((((192 : Int32) ||| h).toInt8.toInt32).toInt8.toInt32) >>> ((5 : Int32) &&& 31)) = (-2 : Int32) ∧ ¬ (((((192 : Int32) ||| h).toInt8.toInt32).toInt8.toInt32) &&& (30 : Int32)) = 0 ∧ ((((((192 : Int32) ||| h).toInt8.toInt32).toInt8.toInt32) &&& (254 : Int32)) = (194 : Int32) → h.toInt < 4))) 32 (by decide) (by decide +kernel) h (by omega) h1 h0
theorem own_fB (h : Int32) (h0 : 0 ≤ h.toInt) (h1 : h.toInt < (64 : Nat)) : ((((128 : Int32) ||| h).toInt8.toInt32).toInt8.toInt32) < (-64 : Int32) ∧ (((((128 : Int32) ||| h).toInt8.toInt32).toInt8.toInt32) &&& (192 : Int32)) = (128 : Int32) ∧ ((((((128 : Int32) ||| h).toInt8.toInt32).toInt8.toInt32) &&& (224 : Int32)) = (128 : Int32) → h.toInt < 32) ∧ (((((128 : Int32) ||| h).toInt8.toInt32).toInt8.toInt32) ^^^ (-123008 : Int32)) = h ^^^ (122880 : Int32) ∧ (((((128 : Int32) ||| h).toInt8.toInt32).toInt8.toInt32) ^^^ (3678080 : Int32)) = h ^^^ (-3678208 : Int32) :=
  own_small (fun h => ((((128 : Int32) ||| h).toInt8.toInt32).toInt8.toInt32) < (-64 : Int32) ∧ (((((128 : Int32) ||| h).toInt8.toInt32).toInt8.toInt32) &&& (192 : Int32)) = (128 : Int32) ∧ ((((((128 : Int32) ||| h).toInt8.toInt32).toInt8.toInt32) &&& (224 : Int32)) = (128 : Int32) → h.toInt < 32) ∧ (((((128 : Int32) ||| h).toInt8.toInt32).toInt8.toInt32) ^^^ (-123008 : Int32)) = h ^^^ (122880 : Int32) ∧ (((((128 : Int32) ||| h).toInt8.toInt32).toInt8.toInt32) ^^^ (3678080 : Int32)) = h ^^^ (-3678208 : Int32)) 64 (by decide) (by decide +kernel) h h0 h1
theorem own_fB6 (h : Int32) (h0 : 0 ≤ h.toInt) (h1 : h.toInt < (64 : Nat)) : (((((128 : Int32) ||| h).toInt8.toInt32).toInt8.toInt32) <<< ((6 : Int32) &&& 31)) = Int32.ofNat (64 * h.toInt.toNat) ^^^ (-8192 : Int32) :=
  own_small (fun h => (((((128 : Int32) ||| h).toInt8.toInt32).toInt8.toInt32) <<< ((6 : Int32) &&& 31)) = Int32.ofNat (64 * h.toInt.toNat) ^^^ (-8192 : Int32)) 64 (by decide) (by decide +kernel) h h0 h1
theorem own_fE (h : Int32) (h0 : 0 ≤ h.toInt) (h1 : h.toInt < (16 : Nat)) : ((((224 : Int32) ||| h).toInt8.toInt32).toInt8.toInt32) < 0 ∧ ¬ (((((224 : Int32) ||| h).toInt8.toInt32).toInt8.toInt32) &&& (254 : Int32)) = (194 : Int32) ∧ ¬ (((((224 : Int32) ||| h).toInt8.toInt32).toInt8.toInt32) >>> ((5 : Int32) &&& 31)) = (-2 : Int32) ∧ (((((224 : Int32) ||| h).toInt8.toInt32).toInt8.toInt32) >>> ((4 : Int32) &&& 31)) = (-2 : Int32) ∧ (((((224 : Int32) ||| h).toInt8.toInt32).toInt8.toInt32) = (-32 : Int32) → h.toInt = 0) :=
  own_small (fun h => ((((224 : Int32) ||| h).toInt8.toInt32).toInt8.toInt32) < 0 ∧ ¬ (((((224 : Int32) ||| h).toInt8.toInt32).toInt8.toInt32) &&& (254 : Int32)) = (194 : Int32) ∧ ¬ (((((224 : Int32) ||| h).toInt8.toInt32).toInt8.toInt32) >>> ((5 : Int32) &&& 31)) = (-2 : Int32) ∧ (((((224 : Int32) ||| h).toInt8.toInt32).toInt8.toInt32) >>> ((4 : Int32) &&& 31)) = (-2 : Int32) ∧ (((((224 : Int32) ||| h).toInt8.toInt32).toInt8.toInt32) = (-32 : Int32) → h.toInt = 0)) 16 (by decide) (by decide +kernel) h h0 h1
theorem own_fF (h : Int32) (h0 : 0 ≤ h.toInt) (h1 : h.toInt < (8 : Nat)) : ((((240 : Int32) ||| h).toInt8.toInt32).toInt8.toInt32) < 0 ∧ ¬ (((((240 : Int32) ||| h).toInt8.toInt32).toInt8.toInt32) &&& (254 : Int32)) = (194 : Int32) ∧ ¬ (((((240 : Int32) ||| h).toInt8.toInt32).toInt8.toInt32) >>> ((5 : Int32) &&& 31)) = (-2 : Int32) ∧ ¬ (((((240 : Int32) ||| h).toInt8.toInt32).toInt8.toInt32) >>> ((4 : Int32) &&& 31)) = (-2 : Int32) ∧ (((((240 : Int32) ||| h).toInt8.toInt32).toInt8.toInt32) >>> ((3 : Int32) &&& 31)) = (-2 : Int32) :=
  own_small (fun h => ((((240 : Int32) ||| h).toInt8.toInt32).toInt8.toInt32) < 0 ∧ ¬ (((((240 : Int32) ||| h).toInt8.toInt32).toInt8.toInt32) &&& (254 : Int32)) = (194 : Int32) ∧ ¬ (((((240 : Int32) ||| h).toInt8.toInt32).toInt8.toInt32) >>> ((5 : Int32) &&& 31)) = (-2 : Int32) ∧ ¬ (((((240 : Int32) ||| h).toInt8.toInt32).toInt8.toInt32) >>> ((4 : Int32) &&& 31)) = (-2 : Int32) ∧ (((((240 : Int32) ||| h).toInt8.toInt32).toInt8.toInt32) >>> ((3 : Int32) &&& 31)) = (-2 : Int32)) 8 (by decide) (by decide +kernel) h h0 h1
theorem own_x2 : ∀ n : Nat, n < 32 → ∀ k : Nat, k < 64 → own_d2 ((((192 : Int32) ||| (Int32.ofNat n)).toInt8.toInt32).toInt8.toInt32) ((((128 : Int32) ||| (Int32.ofNat k)).toInt8.toInt32).toInt8.toInt32) = Int32.ofNat (64 * n + k) := by decide +kernel
theorem own_x3 : ∀ n : Nat, n < 16 → ∀ k : Nat, k < 64 → ((((((224 : Int32) ||| (Int32.ofNat n)).toInt8.toInt32).toInt8.toInt32) <<< ((12 : Int32) &&& 31)) ^^^ (((((128 : Int32) ||| (Int32.ofNat k)).toInt8.toInt32).toInt8.toInt32) <<< ((6 : Int32) &&& 31))) = Int32.ofNat (4096 * n + 64 * k) ^^^ (122880 : Int32) := by decide +kernel
theorem own_x4 : ∀ n : Nat, n < 8 → ∀ k : Nat, k < 64 → ((((((240 : Int32) ||| (Int32.ofNat n)).toInt8.toInt32).toInt8.toInt32) <<< ((18 : Int32) &&& 31)) ^^^ (((((128 : Int32) ||| (Int32.ofNat k)).toInt8.toInt32).toInt8.toInt32) <<< ((12 : Int32) &&& 31))) = Int32.ofNat (262144 * n + 4096 * k) ^^^ (3670016 : Int32) := by decide +kernel
theorem own_nc (c : Int32) (h0 : 0 ≤ c.toInt) (h1 : c.toInt < 65536) : (c.toUInt32.toUInt16.toUInt32.toInt32) = c := by
  apply Int32.toInt_inj.mp
  have a := c_i2c c; omega
theorem own_nb (c : Int32) (h0 : -128 ≤ c.toInt) (h1 : c.toInt < 128) : (c.toInt8.toInt32) = c := by
  apply Int32.toInt_inj.mp
  have a := c_i2b c; omega
theorem own_fT (t : Int32) (h0 : 0 ≤ t.toInt) (h1 : t.toInt < (128 : Nat)) : own_HT t ∧ own_gc (own_lo t) (own_hi t) = t ∧ own_l1 t = t := by
  refine ⟨?_, own_gcv t h0 (by omega), ?_⟩
  · unfold own_HT
    exact own_small (fun t => ¬ t < 0 ∧ (t.toUInt32.toUInt16.toUInt32.toInt32) = t ∧ ¬ (t &&& (192 : Int32)) = (128 : Int32) ∧ (t &&& (255 : Int32)) < (144 : Int32) ∧ ¬ ((t &&& (255 : Int32)) &&& (192 : Int32)) = (128 : Int32) ∧ ¬ t < (-64 : Int32) ∧ (t.toInt8.toInt32) = t) 128 (by decide) (by decide +kernel) t h0 h1
  · exact own_small (fun t => own_l1 t = t) 128 (by decide) (by decide +kernel) t h0 h1
theorem own_t (x : Int32) : ∃ t : Int32, ((x &&& (127 : Int32)).toUInt32.toUInt16.toUInt32.toInt32) = t ∧ ((x &&& (127 : Int32)).toInt8.toInt32) = t ∧ (((x &&& (127 : Int32)).toInt8.toInt32).toInt8.toInt32) = t ∧ own_HT t ∧ own_gc (own_lo t) (own_hi t) = t ∧ own_l1 t = t := by
  have a := c_mask x 127 7 (by decide) (by decide)
  have r0 : 0 ≤ (x &&& (127 : Int32)).toInt := by omega
  have r1 : (x &&& (127 : Int32)).toInt < (128 : Nat) := by omega
  have e1 := own_nb (x &&& (127 : Int32)) (by omega) (by omega)
  refine ⟨(x &&& (127 : Int32)), own_nc _ r0 (by omega), e1, by rw [e1, e1], own_fT _ r0 r1⟩
theorem own_m0 (x : Int32) : 0 ≤ (x &&& (255 : Int32)).toInt ∧ (x &&& (255 : Int32)).toInt < 256 := by
  have a := c_mask x 255 8 (by decide) (by decide)
  omega
theorem own_m0a (x : Int32) (h : (x &&& (255 : Int32)) < (128 : Int32)) : (((x &&& (255 : Int32)).toInt8.toInt32).toInt8.toInt32) = (x &&& (255 : Int32)) ∧ ¬ (x &&& (255 : Int32)) < 0 ∧ own_l1 (x &&& (255 : Int32)) = ((x &&& (255 : Int32)).toUInt32.toUInt16.toUInt32.toInt32) := by
  have a := own_m0 x
  have z : (128 : Int32).toInt = 128 := by decide
  have z0 : (0 : Int32).toInt = 0 := by decide
  rw [Int32.lt_iff_toInt_lt] at h
  have e1 := own_nb (x &&& (255 : Int32)) (by omega) (by omega)
  refine ⟨by rw [e1, e1], by rw [Int32.lt_iff_toInt_lt]; omega, ?_⟩
  rw [own_nc _ a.1 (by omega)]
  exact (own_fT _ a.1 (by omega)).2.2
theorem own_m0b (x : Int32) (h : ¬ (x &&& (255 : Int32)) < (128 : Int32)) : (((x &&& (255 : Int32)).toInt8.toInt32).toInt8.toInt32) < 0 := by
  have a := own_m0 x
  have z : (128 : Int32).toInt = 128 := by decide
  have z0 : (0 : Int32).toInt = 0 := by decide
  rw [Int32.lt_iff_toInt_lt] at h
  have b := c_i2b (x &&& (255 : Int32)); have c := c_i2b ((x &&& (255 : Int32)).toInt8.toInt32)
  rw [Int32.lt_iff_toInt_lt]; omega
theorem own_u (x : Int32) : 0 ≤ (x &&& (2147483647 : Int32)).toInt := by
  have a := c_mask x 2147483647 31 (by decide) (by decide)
  omega
theorem own_m1 (x : Int32) : ∃ c : Int32, ((128 : Int32) + ((x &&& (2147483647 : Int32)) % (1920 : Int32))) = c ∧ 128 ≤ c.toInt ∧ c.toInt < 2048 := by
  have a := own_u x
  have b := (c_irem (x &&& (2147483647 : Int32)) 1920 1920 (by decide)).1 a
  have d := c_iadd 128 ((x &&& (2147483647 : Int32)) % (1920 : Int32))
  have z : (128 : Int32).toInt = 128 := by decide
  have r := rng32 ((128 : Int32) + ((x &&& (2147483647 : Int32)) % (1920 : Int32)))
  exact ⟨_, rfl, by omega, by omega⟩
theorem own_m2 (x : Int32) : ∃ c : Int32, ((2048 : Int32) + ((x &&& (2147483647 : Int32)) % (61440 : Int32))) = c ∧ 2048 ≤ c.toInt ∧ c.toInt < 63488 := by
  have a := own_u x
  have b := (c_irem (x &&& (2147483647 : Int32)) 61440 61440 (by decide)).1 a
  have d := c_iadd 2048 ((x &&& (2147483647 : Int32)) % (61440 : Int32))
  have z : (2048 : Int32).toInt = 2048 := by decide
  have r := rng32 ((2048 : Int32) + ((x &&& (2147483647 : Int32)) % (61440 : Int32)))
  exact ⟨_, rfl, by omega, by omega⟩
theorem own_m3 (x : Int32) : ∃ c : Int32, ((x &&& (2147483647 : Int32)) % (1048576 : Int32)) = c ∧ 0 ≤ c.toInt ∧ c.toInt < 1048576 := by
  have a := own_u x
  have b := (c_irem (x &&& (2147483647 : Int32)) 1048576 1048576 (by decide)).1 a
  exact ⟨_, rfl, by omega, by omega⟩
theorem own_b1 (c : Int32) (h0 : 128 ≤ c.toInt) (h1 : c.toInt < 2048) : ∃ a b : Int32, ((((192 : Int32) ||| (c >>> ((6 : Int32) &&& 31))).toInt8.toInt32).toInt8.toInt32) = a ∧ ((((128 : Int32) ||| (c &&& (63 : Int32))).toInt8.toInt32).toInt8.toInt32) = b ∧ own_gc (own_lo c) (own_hi c) = (c.toUInt32.toUInt16.toUInt32.toInt32) ∧ ((∃ w : Int32, own_HL a b w ∧ own_l1 w = (c.toUInt32.toUInt16.toUInt32.toInt32)) ∨ own_H1 a b c) := by
  have a := c_ishr c 6 6 (by decide)
  have b := c_mask c 63 6 (by decide) (by decide)
  generalize hx : (c >>> ((6 : Int32) &&& 31)) = x at *
  generalize hy : (c &&& (63 : Int32)) = y at *
  have fa := own_fA x (by omega) (by omega)
  have fb := own_fB y (by omega) (by omega)
  have e := own_x2 x.toInt.toNat (by omega) y.toInt.toNat (by omega)
  rw [← own_ofN x (by omega), ← own_ofN y (by omega)] at e
  have e2 : Int32.ofNat (64 * x.toInt.toNat + y.toInt.toNat) = c := by
    apply Int32.toInt_inj.mp
    rw [Int32.toInt_ofNat_small (by omega)]; omega
  rw [e2] at e
  refine ⟨_, _, rfl, rfl, by rw [own_nc c (by omega) (by omega)]; exact own_gcv c (by omega) (by omega), ?_⟩
  by_cases q : (((((192 : Int32) ||| x).toInt8.toInt32).toInt8.toInt32) &&& (254 : Int32)) = (194 : Int32)
  · have lt := fa.2.2.2 q
    refine Or.inl ⟨_, ⟨fa.1, q, fb.1, rfl⟩, ?_⟩
    rw [e]
    apply Int32.toInt_inj.mp
    unfold own_l1
    have k1 := c_i2b c; have k2 := c_i2b (c.toInt8.toInt32)
    have k3 := c_mask ((c.toInt8.toInt32).toInt8.toInt32) 255 8 (by decide) (by decide)
    have k4 := c_i2c (((c.toInt8.toInt32).toInt8.toInt32) &&& (255 : Int32))
    have k5 := c_i2c (((c.toInt8.toInt32).toInt8.toInt32) &&& (255 : Int32)).toUInt32.toUInt16.toUInt32.toInt32
    have k6 := c_i2c c
    omega
  · exact Or.inr ⟨fa.1, q, fa.2.1, fa.2.2.1, fb.2.1, e⟩
theorem own_b2 (c : Int32) (h0 : 2048 ≤ c.toInt) (h1 : c.toInt < 65536) (hs : c.toInt < 55296 ∨ 57344 ≤ c.toInt) : ∃ a b d : Int32, ((((224 : Int32) ||| (c >>> ((12 : Int32) &&& 31))).toInt8.toInt32).toInt8.toInt32) = a ∧ ((((128 : Int32) ||| ((c >>> ((6 : Int32) &&& 31)) &&& (63 : Int32))).toInt8.toInt32).toInt8.toInt32) = b ∧ ((((128 : Int32) ||| (c &&& (63 : Int32))).toInt8.toInt32).toInt8.toInt32) = d ∧ own_H2 a b d c ∧ own_gc (own_lo c) (own_hi c) = (c.toUInt32.toUInt16.toUInt32.toInt32) := by
  have a := c_ishr c 12 12 (by decide)
  have b0 := c_ishr c 6 6 (by decide)
  have b1 := c_mask (c >>> ((6 : Int32) &&& 31)) 63 6 (by decide) (by decide)
  have d := c_mask c 63 6 (by decide) (by decide)
  generalize hx : (c >>> ((12 : Int32) &&& 31)) = x at *
  generalize hy0 : (c >>> ((6 : Int32) &&& 31)) = y0 at *
  generalize hy : (y0 &&& (63 : Int32)) = y at *
  generalize hw : (c &&& (63 : Int32)) = w at *
  have fe := own_fE x (by omega) (by omega)
  have fb := own_fB y (by omega) (by omega)
  have fd := own_fB w (by omega) (by omega)
  have e := own_x3 x.toInt.toNat (by omega) y.toInt.toNat (by omega)
  rw [← own_ofN x (by omega), ← own_ofN y (by omega)] at e
  have e2 : (Int32.ofNat (4096 * x.toInt.toNat + 64 * y.toInt.toNat)).toInt = 4096 * x.toInt + 64 * y.toInt := by
    rw [Int32.toInt_ofNat_small (by omega)]; omega
  have e3 : Int32.ofNat (4096 * x.toInt.toNat + 64 * y.toInt.toNat) ^^^ w = c := by
    apply Int32.toInt_inj.mp
    rw [own_xor6 _ _ (by omega) (by omega) (by omega) (by omega)]; omega
  have e4 : own_d3 ((((224 : Int32) ||| x).toInt8.toInt32).toInt8.toInt32) ((((128 : Int32) ||| y).toInt8.toInt32).toInt8.toInt32) ((((128 : Int32) ||| w).toInt8.toInt32).toInt8.toInt32) = c := by
    unfold own_d3
    rw [e, fd.2.2.2.1, own_xx, e3, own_cc]; exact own_nc c (by omega) h1
  have z1 : (55296 : Int32).toInt = 55296 := by decide
  have z2 : (57344 : Int32).toInt = 57344 := by decide
  refine ⟨_, _, _, rfl, rfl, rfl, ⟨fe.1, fe.2.1, fe.2.2.1, fe.2.2.2.1, fun q1 q2 => ?_, fb.2.1, fd.2.1, e4, ?_⟩, by rw [own_nc c (by omega) h1]; exact own_gcv c (by omega) h1⟩
  · have := fe.2.2.2.2 q1; have := fb.2.2.1 q2; omega
  · rw [Int32.lt_iff_toInt_lt, Int32.lt_iff_toInt_lt]; omega
theorem own_hsv (u c : Int32) (h0 : 0 ≤ u.toInt) (h1 : u.toInt < 1048576) (hc : c.toInt = 65536 + u.toInt) : own_hs c = (((55296 : Int32) + (u >>> ((10 : Int32) &&& 31))).toUInt32.toUInt16.toUInt32.toInt32) := by
  have s1 := c_iushr c 10 10 (by decide) (by decide)
  have s2 := c_iadd ((c.toUInt32 >>> ((10 : Int32) &&& 31).toUInt32).toInt32) 55232
  have s3 := c_i2c (((c.toUInt32 >>> ((10 : Int32) &&& 31).toUInt32).toInt32) + (55232 : Int32))
  have s4 := c_i2c (((c.toUInt32 >>> ((10 : Int32) &&& 31).toUInt32).toInt32) + (55232 : Int32)).toUInt32.toUInt16.toUInt32.toInt32
  have s5 := c_ishr u 10 10 (by decide)
  have s6 := c_iadd 55296 (u >>> ((10 : Int32) &&& 31))
  have s7 := c_i2c ((55296 : Int32) + (u >>> ((10 : Int32) &&& 31)))
  have z2 : (55232 : Int32).toInt = 55232 := by decide
  have z3 : (55296 : Int32).toInt = 55296 := by decide
  apply Int32.toInt_inj.mp
  unfold own_hs
  omega
theorem own_lsv (u c : Int32) (h0 : 0 ≤ u.toInt) (h1 : u.toInt < 1048576) (hc : c.toInt = 65536 + u.toInt) : own_ls c = (((56320 : Int32) + (u &&& (1023 : Int32))).toUInt32.toUInt16.toUInt32.toInt32) := by
  have t1 := c_mask c 1023 10 (by decide) (by decide)
  have t2 := c_iadd (c &&& (1023 : Int32)) 56320
  have t3 := c_i2c ((c &&& (1023 : Int32)) + (56320 : Int32))
  have t4 := c_i2c ((c &&& (1023 : Int32)) + (56320 : Int32)).toUInt32.toUInt16.toUInt32.toInt32
  have t5 := c_mask u 1023 10 (by decide) (by decide)
  have t6 := c_iadd 56320 (u &&& (1023 : Int32))
  have t7 := c_i2c ((56320 : Int32) + (u &&& (1023 : Int32)))
  have z4 : (56320 : Int32).toInt = 56320 := by decide
  apply Int32.toInt_inj.mp
  unfold own_ls
  omega
theorem own_b3 (u : Int32) (h0 : 0 ≤ u.toInt) (h1 : u.toInt < 1048576) : ∃ c a0 a1 a2 a3 c0 c1 : Int32, ((65536 : Int32) + u) = c ∧ ((((240 : Int32) ||| (c >>> ((18 : Int32) &&& 31))).toInt8.toInt32).toInt8.toInt32) = a0 ∧ ((((128 : Int32) ||| ((c >>> ((12 : Int32) &&& 31)) &&& (63 : Int32))).toInt8.toInt32).toInt8.toInt32) = a1 ∧ ((((128 : Int32) ||| ((c >>> ((6 : Int32) &&& 31)) &&& (63 : Int32))).toInt8.toInt32).toInt8.toInt32) = a2 ∧ ((((128 : Int32) ||| (c &&& (63 : Int32))).toInt8.toInt32).toInt8.toInt32) = a3 ∧ own_H3 a0 a1 a2 a3 c c0 c1 ∧ own_gc (own_lo c0) (own_hi c0) = (((55296 : Int32) + (u >>> ((10 : Int32) &&& 31))).toUInt32.toUInt16.toUInt32.toInt32) ∧ own_gc (own_lo c1) (own_hi c1) = (((56320 : Int32) + (u &&& (1023 : Int32))).toUInt32.toUInt16.toUInt32.toInt32) := by
  have k0 := c_iadd 65536 u
  have z : (65536 : Int32).toInt = 65536 := by decide
  have z1 : (1114112 : Int32).toInt = 1114112 := by decide
  have r := rng32 ((65536 : Int32) + u)
  refine ⟨((65536 : Int32) + u), ?_⟩
  generalize hc : ((65536 : Int32) + u) = c at *
  have a := c_ishr c 18 18 (by decide)
  have b0 := c_ishr c 12 12 (by decide)
  have b1 := c_mask (c >>> ((12 : Int32) &&& 31)) 63 6 (by decide) (by decide)
  have d0 := c_ishr c 6 6 (by decide)
  have d1 := c_mask (c >>> ((6 : Int32) &&& 31)) 63 6 (by decide) (by decide)
  have d := c_mask c 63 6 (by decide) (by decide)
  generalize hx : (c >>> ((18 : Int32) &&& 31)) = x at *
  generalize hy0 : (c >>> ((12 : Int32) &&& 31)) = y0 at *
  generalize hy : (y0 &&& (63 : Int32)) = y at *
  generalize hv0 : (c >>> ((6 : Int32) &&& 31)) = v0 at *
  generalize hv : (v0 &&& (63 : Int32)) = v at *
  generalize hw : (c &&& (63 : Int32)) = w at *
  have ff := own_fF x (by omega) (by omega)
  have fb := own_fB y (by omega) (by omega)
  have fv := own_fB v (by omega) (by omega)
  have f6 := own_fB6 v (by omega) (by omega)
  have fd := own_fB w (by omega) (by omega)
  have e := own_x4 x.toInt.toNat (by omega) y.toInt.toNat (by omega)
  rw [← own_ofN x (by omega), ← own_ofN y (by omega)] at e
  have e2 : (Int32.ofNat (262144 * x.toInt.toNat + 4096 * y.toInt.toNat)).toInt = 262144 * x.toInt + 4096 * y.toInt := by
    rw [Int32.toInt_ofNat_small (by omega)]; omega
  have e2' : (Int32.ofNat (64 * v.toInt.toNat)).toInt = 64 * v.toInt := by
    rw [Int32.toInt_ofNat_small (by omega)]; omega
  have e3 := own_xor12 (Int32.ofNat (262144 * x.toInt.toNat + 4096 * y.toInt.toNat)) (Int32.ofNat (64 * v.toInt.toNat)) (by omega) (by omega) (by omega) (by omega)
  have e4 := own_xor6 (Int32.ofNat (262144 * x.toInt.toNat + 4096 * y.toInt.toNat) ^^^ Int32.ofNat (64 * v.toInt.toNat)) w (by omega) (by omega) (by omega) (by omega)
  have e5 : own_d4 ((((240 : Int32) ||| x).toInt8.toInt32).toInt8.toInt32) ((((128 : Int32) ||| y).toInt8.toInt32).toInt8.toInt32) ((((128 : Int32) ||| v).toInt8.toInt32).toInt8.toInt32) ((((128 : Int32) ||| w).toInt8.toInt32).toInt8.toInt32) = c := by
    unfold own_d4
    rw [e, f6, fd.2.2.2.2]
    generalize Int32.ofNat (262144 * x.toInt.toNat + 4096 * y.toInt.toNat) = g1 at *
    generalize Int32.ofNat (64 * v.toInt.toNat) = g2 at *
    have e6 : (g1 ^^^ (3670016 : Int32)) ^^^ (g2 ^^^ (-8192 : Int32)) = (g1 ^^^ g2) ^^^ (-3678208 : Int32) := by
      rw [show (-3678208 : Int32) = (3670016 : Int32) ^^^ (-8192 : Int32) by decide, Int32.xor_assoc g1, ← Int32.xor_assoc _ g2, Int32.xor_comm _ g2, Int32.xor_assoc g2, ← Int32.xor_assoc g1]
    rw [e6, own_xx]
    apply Int32.toInt_inj.mp
    omega
  refine ⟨_, _, _, _, _, _, rfl, rfl, rfl, rfl, rfl, ⟨ff.1, ff.2.1, ff.2.2.1, ff.2.2.2.1, ff.2.2.2.2, fb.2.1, fv.2.1, fd.2.1, e5, ?_, ?_, rfl, rfl⟩, ?_, ?_⟩
  · rw [Int32.lt_iff_toInt_lt]; omega
  · rw [Int32.lt_iff_toInt_lt]; omega
  · rw [own_hsv u c h0 h1 (by omega)]; have q := c_i2c ((55296 : Int32) + (u >>> ((10 : Int32) &&& 31))); exact own_gcv _ q.2.1 q.2.2
  · rw [own_lsv u c h0 h1 (by omega)]; have q := c_i2c ((56320 : Int32) + (u &&& (1023 : Int32))); exact own_gcv _ q.2.1 q.2.2
theorem own_gcc (a b : Int32) : ((own_gc a b).toUInt32.toUInt16.toUInt32.toInt32) = own_gc a b := own_cc _
theorem own_l1c (a : Int32) : ((own_l1 a).toUInt32.toUInt16.toUInt32.toInt32) = own_l1 a := own_cc _
theorem own_j2 (c : Int32) (h0 : 2048 ≤ c.toInt) (h1 : c.toInt < 63488) : (c < (55296 : Int32) → 2048 ≤ c.toInt ∧ c.toInt < 65536 ∧ (c.toInt < 55296 ∨ 57344 ≤ c.toInt)) ∧ (¬ c < (55296 : Int32) → 2048 ≤ (c + (2048 : Int32)).toInt ∧ (c + (2048 : Int32)).toInt < 65536 ∧ ((c + (2048 : Int32)).toInt < 55296 ∨ 57344 ≤ (c + (2048 : Int32)).toInt)) := by
  have z1 : (55296 : Int32).toInt = 55296 := by decide
  have z2 : (2048 : Int32).toInt = 2048 := by decide
  have a := c_iadd c 2048
  have r := rng32 (c + 2048)
  rw [Int32.lt_iff_toInt_lt]
  constructor <;> intro h <;> omega

/-- the place p of a UTF-16 value array of nn bytes holds the bytes a, b -/
def own_at (p nn : Int32) (vs : List Value) (a b : Int32) : Prop := (¬ p < 0 ∧ p < (nn >>> ((1 : Int32) &&& 31))) ∧ (¬ (p <<< ((1 : Int32) &&& 31)) < 0 ∧ (p <<< ((1 : Int32) &&& 31)) < nn) ∧ (¬ ((p <<< ((1 : Int32) &&& 31)) + (1 : Int32)) < 0 ∧ ((p <<< ((1 : Int32) &&& 31)) + (1 : Int32)) < nn) ∧ vs.getD (p <<< ((1 : Int32) &&& 31)).toNatClampNeg (.int 0) = .int a ∧ vs.getD ((p <<< ((1 : Int32) &&& 31)) + (1 : Int32)).toNatClampNeg (.int 0) = .int b
theorem own_at4_0 (x0 x1 x2 x3 : Int32) : own_at (0 : Int32) (4 : Int32) [(.int x0), (.int x1), (.int x2), (.int x3)] x0 x1 := by
  refine ⟨⟨by decide, by decide⟩, ⟨by decide, by decide⟩, ⟨by decide, by decide⟩, ?_, ?_⟩
  · rw [show ((0 : Int32) <<< ((1 : Int32) &&& 31)).toNatClampNeg = 0 from by decide]; rfl
  · rw [show (((0 : Int32) <<< ((1 : Int32) &&& 31)) + (1 : Int32)).toNatClampNeg = 1 from by decide]; rfl
theorem own_at4_1 (x0 x1 x2 x3 : Int32) : own_at (1 : Int32) (4 : Int32) [(.int x0), (.int x1), (.int x2), (.int x3)] x2 x3 := by
  refine ⟨⟨by decide, by decide⟩, ⟨by decide, by decide⟩, ⟨by decide, by decide⟩, ?_, ?_⟩
  · rw [show ((1 : Int32) <<< ((1 : Int32) &&& 31)).toNatClampNeg = 2 from by decide]; rfl
  · rw [show (((1 : Int32) <<< ((1 : Int32) &&& 31)) + (1 : Int32)).toNatClampNeg = 3 from by decide]; rfl
theorem own_at6_0 (x0 x1 x2 x3 x4 x5 : Int32) : own_at (0 : Int32) (6 : Int32) [(.int x0), (.int x1), (.int x2), (.int x3), (.int x4), (.int x5)] x0 x1 := by
  refine ⟨⟨by decide, by decide⟩, ⟨by decide, by decide⟩, ⟨by decide, by decide⟩, ?_, ?_⟩
  · rw [show ((0 : Int32) <<< ((1 : Int32) &&& 31)).toNatClampNeg = 0 from by decide]; rfl
  · rw [show (((0 : Int32) <<< ((1 : Int32) &&& 31)) + (1 : Int32)).toNatClampNeg = 1 from by decide]; rfl
theorem own_at6_1 (x0 x1 x2 x3 x4 x5 : Int32) : own_at (1 : Int32) (6 : Int32) [(.int x0), (.int x1), (.int x2), (.int x3), (.int x4), (.int x5)] x2 x3 := by
  refine ⟨⟨by decide, by decide⟩, ⟨by decide, by decide⟩, ⟨by decide, by decide⟩, ?_, ?_⟩
  · rw [show ((1 : Int32) <<< ((1 : Int32) &&& 31)).toNatClampNeg = 2 from by decide]; rfl
  · rw [show (((1 : Int32) <<< ((1 : Int32) &&& 31)) + (1 : Int32)).toNatClampNeg = 3 from by decide]; rfl
theorem own_at6_2 (x0 x1 x2 x3 x4 x5 : Int32) : own_at (2 : Int32) (6 : Int32) [(.int x0), (.int x1), (.int x2), (.int x3), (.int x4), (.int x5)] x4 x5 := by
  refine ⟨⟨by decide, by decide⟩, ⟨by decide, by decide⟩, ⟨by decide, by decide⟩, ?_, ?_⟩
  · rw [show ((2 : Int32) <<< ((1 : Int32) &&& 31)).toNatClampNeg = 4 from by decide]; rfl
  · rw [show (((2 : Int32) <<< ((1 : Int32) &&& 31)) + (1 : Int32)).toNatClampNeg = 5 from by decide]; rfl
theorem d3_0 : oD3 0 (.aload_n 0) 1 := by decide +kernel
theorem d3_1 : oD3 1 (.ifnonnull 11) 3 := by decide +kernel
theorem d3_12 : oD3 12 (.aload_n 0) 1 := by decide +kernel
theorem d3_13 : oD3 13 .areturn 1 := by decide +kernel
theorem pn_java_util_Objects : plainName "java/util/Objects" = true := by first | (simp [plainName, overriddenIn]; done) | decide +kernel
def Q3 (Z : State) (a0 : Addr) (h0 : Heap) (n0 : Nat) (v : Option Value) (h : Heap) (L : List Loc) : Prop := v = some (.ref a0) ∧ Fr n0 L ∧ h = h0
def P3 (Z : State) (a0 : Addr) (h0 : Heap) (n0 : Nat) (s : State) (o : Outcome) (U' : State) : Prop := ∃ v L, o = .returned v ∧ Q3 Z a0 h0 n0 v U'.heap L ∧ FrameEnd s o U' L oR0.cells oR0.slots
set_option maxRecDepth 65536 in
set_option maxHeartbeats 40000000 in
theorem rm3 (l : Launch) (Z : State) (aV : Array Value) (hw : ∀ d ∈ tables_1, d.before aV Z = true) (ws : List Jvm.Cond) (a0 : Addr) (h0 : Heap) (n0 : Nat) (Z0 : n0 ≤ h0.size) :
    MetFree l oM0 (head1 (Jvm.Cond.code oM0 jdk_31_method_10_code 1 (some (.object "java/lang/Object")) :: ws) oR0) (fun a U => a = #[(.ref a0)] ∧ Z.Warmed39 U.vm ∧ U.heap = h0) (fun _ _ _ _ _ => True) (fun _ U o U' => ∃ v L, o = .returned v ∧ Q3 Z a0 h0 n0 v U'.heap L ∧ FrameEnd U o U' L oR0.cells oR0.slots) := by
  refine MetFree.of_bodySF (plainFor_of_name pn_java_util_Objects) hisR ?_
  intro p e s m args below meth c s₁ Bd hml0 hP hK
  obtain ⟨rfl, hZ, hh⟩ := hP
  have hx := Bd.exec
  have hby := Bd.bytes
  have hml : c.maxLocals = 1 := hml0
  have hown : s.vm.findClass "java/util/Objects" = some m.cls := findClass_of_methodNamed Bd.named
  have hnm := (name_of_methodNamed Bd.named Bd.method).1
  have X0 : Stand p l e oR0 s m #[(.ref a0)] below meth c s₁ [] 0 0 := Stand.of_body Bd
  have e0 : s₁.heap = h0 := by rw [← hh, Bd.state]; rfl
  have efx : entryFrame m #[(.ref a0)] 1 = mkF m 0 #[.val (.ref a0)] [] := by first | (simp [entryFrame, mkF, argsToLocals, Value.category]; done) | rfl
  have N0 := Fr.nil n0
  have K0 : Keep h0 h0 [] := Keep.refl h0 _
  refine OGo.start (g' := mkF m 0 #[.val (.ref a0)] []) (efx) ?_
  show OGo p.tables e below (P3 Z a0 h0 n0 s) (s₁.setTop (mkF m 0 #[.val (.ref a0)] []))
  refine og (s₁.setTop (mkF m 13 #[.val (.ref a0)] [(.ref a0)])) ?_ (fun tX kX => XS.aloadN X0.here hx rfl (hb hby d3_0) rfl rfl (XS.ifnonnullYes X0.here hx rfl (pc0 := 1) (pc' := 12) rfl (hb hby d3_1) rfl (by decide) (by decide) (XS.aloadN X0.here hx rfl (hb hby d3_12) rfl rfl kX)))
  refine OGo.ret X0 (v := (some (.ref a0))) (fun h => by rw [Bd.returns] at h; cases h) (BodyLoose.notSynchronized Bd) (fun fs hr => retOut X0 hx Bd.returns rfl (Or.inr (Or.inr (Or.inr (Or.inr ⟨rfl, rfl, rfl⟩)))) (hb hby d3_13) hr) (Q := Q3 Z a0 h0 n0) ?_ (by decide) (by decide)
  show Q3 Z a0 h0 n0 _ s₁.heap _
  rw [e0]
  exact ⟨rfl, N0, rfl⟩
theorem d16_0 : oD16 0 (.iload_n 0) 1 := by decide +kernel
theorem d16_1 : oD16 1 (.bipush 6) 2 := by decide +kernel
theorem d16_3 : oD16 3 .ishl 1 := by decide +kernel
theorem d16_4 : oD16 4 (.iload_n 1) 1 := by decide +kernel
theorem d16_5 : oD16 5 .ixor 1 := by decide +kernel
theorem d16_6 : oD16 6 (.sipush 3968) 3 := by decide +kernel
theorem d16_9 : oD16 9 .ixor 1 := by decide +kernel
theorem d16_10 : oD16 10 .i2c 1 := by decide +kernel
theorem d16_11 : oD16 11 .ireturn 1 := by decide +kernel
theorem pn_java_lang_String : plainName "java/lang/String" = true := by first | (simp [plainName, overriddenIn]; done) | decide +kernel
def Q16 (Z : State) (p0 : Int32) (p1 : Int32) (h0 : Heap) (n0 : Nat) (v : Option Value) (h : Heap) (L : List Loc) : Prop := v = some (.int (own_d2 p0 p1)) ∧ Fr n0 L ∧ h = h0
def P16 (Z : State) (p0 : Int32) (p1 : Int32) (h0 : Heap) (n0 : Nat) (s : State) (o : Outcome) (U' : State) : Prop := ∃ v L, o = .returned v ∧ Q16 Z p0 p1 h0 n0 v U'.heap L ∧ FrameEnd s o U' L oR0.cells oR0.slots
set_option maxRecDepth 65536 in
set_option maxHeartbeats 40000000 in
theorem rm16 (l : Launch) (Z : State) (aV : Array Value) (hw : ∀ d ∈ tables_1, d.before aV Z = true) (ws : List Jvm.Cond) (p0 : Int32) (p1 : Int32) (h0 : Heap) (n0 : Nat) (Z0 : n0 ≤ h0.size) :
    MetFree l oM1 (head1 (Jvm.Cond.code oM1 jdk_42_method_35_code 2 (some .char) :: ws) oR0) (fun a U => a = #[(.int p0), (.int p1)] ∧ Z.Warmed39 U.vm ∧ U.heap = h0) (fun _ _ _ _ _ => True) (fun _ U o U' => ∃ v L, o = .returned v ∧ Q16 Z p0 p1 h0 n0 v U'.heap L ∧ FrameEnd U o U' L oR0.cells oR0.slots) := by
  refine MetFree.of_bodySF (plainFor_of_name pn_java_lang_String) hisR ?_
  intro p e s m args below meth c s₁ Bd hml0 hP hK
  obtain ⟨rfl, hZ, hh⟩ := hP
  have hx := Bd.exec
  have hby := Bd.bytes
  have hml : c.maxLocals = 2 := hml0
  have hown : s.vm.findClass "java/lang/String" = some m.cls := findClass_of_methodNamed Bd.named
  have hnm := (name_of_methodNamed Bd.named Bd.method).1
  have X0 : Stand p l e oR0 s m #[(.int p0), (.int p1)] below meth c s₁ [] 0 0 := Stand.of_body Bd
  have e0 : s₁.heap = h0 := by rw [← hh, Bd.state]; rfl
  have efx : entryFrame m #[(.int p0), (.int p1)] 2 = mkF m 0 #[.val (.int p0), .val (.int p1)] [] := by first | (simp [entryFrame, mkF, argsToLocals, Value.category]; done) | rfl
  have N0 := Fr.nil n0
  have K0 : Keep h0 h0 [] := Keep.refl h0 _
  refine OGo.start (g' := mkF m 0 #[.val (.int p0), .val (.int p1)] []) (efx) ?_
  show OGo p.tables e below (P16 Z p0 p1 h0 n0 s) (s₁.setTop (mkF m 0 #[.val (.int p0), .val (.int p1)] []))
  refine og (s₁.setTop (mkF m 9 #[.val (.int p0), .val (.int p1)] [(.int 3968), (.int ((p0 <<< ((6 : Int32) &&& 31)) ^^^ p1))])) ?_ (fun tX kX => XS.iloadN X0.here hx rfl (hb hby d16_0) rfl (XS.bipush X0.here hx rfl (hb hby d16_1) (XS.ishl X0.here hx rfl (hb hby d16_3) rfl (XS.iloadN X0.here hx rfl (hb hby d16_4) rfl (XS.ixor X0.here hx rfl (hb hby d16_5) rfl (XS.sipush X0.here hx rfl (hb hby d16_6) kX))))))
  refine og (s₁.setTop (mkF m 11 #[.val (.int p0), .val (.int p1)] [(.int ((((p0 <<< ((6 : Int32) &&& 31)) ^^^ p1) ^^^ (3968 : Int32)).toUInt32.toUInt16.toUInt32.toInt32))])) ?_ (fun tX kX => XS.ixor X0.here hx rfl (hb hby d16_9) rfl (XS.i2c X0.here hx rfl (hb hby d16_10) rfl kX))
  refine OGo.ret X0 (v := (some (.int (((((p0 <<< ((6 : Int32) &&& 31)) ^^^ p1) ^^^ (3968 : Int32)).toUInt32.toUInt16.toUInt32.toInt32).toUInt32.toUInt16.toUInt32.toInt32)))) (fun h => by rw [Bd.returns] at h; cases h) (BodyLoose.notSynchronized Bd) (fun fs hr => retN X0 hx (t := .char) (z := ((((p0 <<< ((6 : Int32) &&& 31)) ^^^ p1) ^^^ (3968 : Int32)).toUInt32.toUInt16.toUInt32.toInt32)) Bd.returns (by simp) (hb hby d16_11) hr) (Q := Q16 Z p0 p1 h0 n0) ?_ (by decide) (by decide)
  show Q16 Z p0 p1 h0 n0 _ s₁.heap _
  rw [e0]
  exact ⟨rfl, N0, rfl⟩
theorem d29_0 : oD29 0 (.iload_n 0) 1 := by decide +kernel
theorem d29_1 : oD29 1 (.bipush 12) 2 := by decide +kernel
theorem d29_3 : oD29 3 .ishl 1 := by decide +kernel
theorem d29_4 : oD29 4 (.iload_n 1) 1 := by decide +kernel
theorem d29_5 : oD29 5 (.bipush 6) 2 := by decide +kernel
theorem d29_7 : oD29 7 .ishl 1 := by decide +kernel
theorem d29_8 : oD29 8 .ixor 1 := by decide +kernel
theorem d29_9 : oD29 9 (.iload_n 2) 1 := by decide +kernel
theorem d29_10 : oD29 10 (.ldc_w 383) 3 := by decide +kernel
theorem d29_13 : oD29 13 .ixor 1 := by decide +kernel
theorem d29_14 : oD29 14 .ixor 1 := by decide +kernel
theorem d29_15 : oD29 15 .i2c 1 := by decide +kernel
theorem d29_16 : oD29 16 .ireturn 1 := by decide +kernel
def Q29 (Z : State) (p0 : Int32) (p1 : Int32) (p2 : Int32) (h0 : Heap) (n0 : Nat) (v : Option Value) (h : Heap) (L : List Loc) : Prop := v = some (.int (own_d3 p0 p1 p2)) ∧ Fr n0 L ∧ h = h0
def P29 (Z : State) (p0 : Int32) (p1 : Int32) (p2 : Int32) (h0 : Heap) (n0 : Nat) (s : State) (o : Outcome) (U' : State) : Prop := ∃ v L, o = .returned v ∧ Q29 Z p0 p1 p2 h0 n0 v U'.heap L ∧ FrameEnd s o U' L oR0.cells oR0.slots
set_option maxRecDepth 65536 in
set_option maxHeartbeats 40000000 in
theorem rm29 (l : Launch) (Z : State) (aV : Array Value) (hw : ∀ d ∈ tables_1, d.before aV Z = true) (ws : List Jvm.Cond) (p0 : Int32) (p1 : Int32) (p2 : Int32) (h0 : Heap) (n0 : Nat) (Z0 : n0 ≤ h0.size) :
    MetFree l oM2 (head1 (Jvm.Cond.code oM2 jdk_42_method_36_code 3 (some .char) :: ws) oR0) (fun a U => a = #[(.int p0), (.int p1), (.int p2)] ∧ Z.Warmed39 U.vm ∧ U.heap = h0) (fun _ _ _ _ _ => True) (fun _ U o U' => ∃ v L, o = .returned v ∧ Q29 Z p0 p1 p2 h0 n0 v U'.heap L ∧ FrameEnd U o U' L oR0.cells oR0.slots) := by
  refine MetFree.of_bodySF (plainFor_of_name pn_java_lang_String) hisR ?_
  intro p e s m args below meth c s₁ Bd hml0 hP hK
  obtain ⟨rfl, hZ, hh⟩ := hP
  have hx := Bd.exec
  have hby := Bd.bytes
  have hml : c.maxLocals = 3 := hml0
  have hown : s.vm.findClass "java/lang/String" = some m.cls := findClass_of_methodNamed Bd.named
  have hnm := (name_of_methodNamed Bd.named Bd.method).1
  have X0 : Stand p l e oR0 s m #[(.int p0), (.int p1), (.int p2)] below meth c s₁ [] 0 0 := Stand.of_body Bd
  have e0 : s₁.heap = h0 := by rw [← hh, Bd.state]; rfl
  have efx : entryFrame m #[(.int p0), (.int p1), (.int p2)] 3 = mkF m 0 #[.val (.int p0), .val (.int p1), .val (.int p2)] [] := by first | (simp [entryFrame, mkF, argsToLocals, Value.category]; done) | rfl
  have N0 := Fr.nil n0
  have K0 : Keep h0 h0 [] := Keep.refl h0 _
  refine OGo.start (g' := mkF m 0 #[.val (.int p0), .val (.int p1), .val (.int p2)] []) (efx) ?_
  show OGo p.tables e below (P29 Z p0 p1 p2 h0 n0 s) (s₁.setTop (mkF m 0 #[.val (.int p0), .val (.int p1), .val (.int p2)] []))
  refine og (s₁.setTop (mkF m 8 #[.val (.int p0), .val (.int p1), .val (.int p2)] [(.int (p1 <<< ((6 : Int32) &&& 31))), (.int (p0 <<< ((12 : Int32) &&& 31)))])) ?_ (fun tX kX => XS.iloadN X0.here hx rfl (hb hby d29_0) rfl (XS.bipush X0.here hx rfl (hb hby d29_1) (XS.ishl X0.here hx rfl (hb hby d29_3) rfl (XS.iloadN X0.here hx rfl (hb hby d29_4) rfl (XS.bipush X0.here hx rfl (hb hby d29_5) (XS.ishl X0.here hx rfl (hb hby d29_7) rfl kX))))))
  refine og (s₁.setTop (mkF m 16 #[.val (.int p0), .val (.int p1), .val (.int p2)] [(.int ((((p0 <<< ((12 : Int32) &&& 31)) ^^^ (p1 <<< ((6 : Int32) &&& 31))) ^^^ (p2 ^^^ (-123008 : Int32))).toUInt32.toUInt16.toUInt32.toInt32))])) ?_ (fun tX kX => XS.ixor X0.here hx rfl (hb hby d29_8) rfl (XS.iloadN X0.here hx rfl (hb hby d29_9) rfl (X0.ldcwInt hx hown (mvT hZ (oW hw 139 rfl)) (g := (mkF m 10 #[.val (.int p0), .val (.int p1), .val (.int p2)] [(.int p2), (.int ((p0 <<< ((12 : Int32) &&& 31)) ^^^ (p1 <<< ((6 : Int32) &&& 31))))])) rfl (hb hby d29_10) _ (XS.ixor X0.here hx rfl (hb hby d29_13) rfl (XS.ixor X0.here hx rfl (hb hby d29_14) rfl (XS.i2c X0.here hx rfl (hb hby d29_15) rfl kX))))))
  refine OGo.ret X0 (v := (some (.int (((((p0 <<< ((12 : Int32) &&& 31)) ^^^ (p1 <<< ((6 : Int32) &&& 31))) ^^^ (p2 ^^^ (-123008 : Int32))).toUInt32.toUInt16.toUInt32.toInt32).toUInt32.toUInt16.toUInt32.toInt32)))) (fun h => by rw [Bd.returns] at h; cases h) (BodyLoose.notSynchronized Bd) (fun fs hr => retN X0 hx (t := .char) (z := ((((p0 <<< ((12 : Int32) &&& 31)) ^^^ (p1 <<< ((6 : Int32) &&& 31))) ^^^ (p2 ^^^ (-123008 : Int32))).toUInt32.toUInt16.toUInt32.toInt32)) Bd.returns (by simp) (hb hby d29_16) hr) (Q := Q29 Z p0 p1 p2 h0 n0) ?_ (by decide) (by decide)
  show Q29 Z p0 p1 p2 h0 n0 _ s₁.heap _
  rw [e0]
  exact ⟨rfl, N0, rfl⟩
theorem d37_0 : oD37 0 (.iload_n 0) 1 := by decide +kernel
theorem d37_1 : oD37 1 (.bipush 18) 2 := by decide +kernel
theorem d37_3 : oD37 3 .ishl 1 := by decide +kernel
theorem d37_4 : oD37 4 (.iload_n 1) 1 := by decide +kernel
theorem d37_5 : oD37 5 (.bipush 12) 2 := by decide +kernel
theorem d37_7 : oD37 7 .ishl 1 := by decide +kernel
theorem d37_8 : oD37 8 .ixor 1 := by decide +kernel
theorem d37_9 : oD37 9 (.iload_n 2) 1 := by decide +kernel
theorem d37_10 : oD37 10 (.bipush 6) 2 := by decide +kernel
theorem d37_12 : oD37 12 .ishl 1 := by decide +kernel
theorem d37_13 : oD37 13 .ixor 1 := by decide +kernel
theorem d37_14 : oD37 14 (.iload_n 3) 1 := by decide +kernel
theorem d37_15 : oD37 15 (.ldc_w 384) 3 := by decide +kernel
theorem d37_18 : oD37 18 .ixor 1 := by decide +kernel
theorem d37_19 : oD37 19 .ixor 1 := by decide +kernel
theorem d37_20 : oD37 20 .ireturn 1 := by decide +kernel
def Q37 (Z : State) (p0 : Int32) (p1 : Int32) (p2 : Int32) (p3 : Int32) (h0 : Heap) (n0 : Nat) (v : Option Value) (h : Heap) (L : List Loc) : Prop := v = some (.int (own_d4 p0 p1 p2 p3)) ∧ Fr n0 L ∧ h = h0
def P37 (Z : State) (p0 : Int32) (p1 : Int32) (p2 : Int32) (p3 : Int32) (h0 : Heap) (n0 : Nat) (s : State) (o : Outcome) (U' : State) : Prop := ∃ v L, o = .returned v ∧ Q37 Z p0 p1 p2 p3 h0 n0 v U'.heap L ∧ FrameEnd s o U' L oR0.cells oR0.slots
set_option maxRecDepth 65536 in
set_option maxHeartbeats 40000000 in
theorem rm37 (l : Launch) (Z : State) (aV : Array Value) (hw : ∀ d ∈ tables_1, d.before aV Z = true) (ws : List Jvm.Cond) (p0 : Int32) (p1 : Int32) (p2 : Int32) (p3 : Int32) (h0 : Heap) (n0 : Nat) (Z0 : n0 ≤ h0.size) :
    MetFree l oM3 (head1 (Jvm.Cond.code oM3 jdk_42_method_37_code 4 (some .int) :: ws) oR0) (fun a U => a = #[(.int p0), (.int p1), (.int p2), (.int p3)] ∧ Z.Warmed39 U.vm ∧ U.heap = h0) (fun _ _ _ _ _ => True) (fun _ U o U' => ∃ v L, o = .returned v ∧ Q37 Z p0 p1 p2 p3 h0 n0 v U'.heap L ∧ FrameEnd U o U' L oR0.cells oR0.slots) := by
  refine MetFree.of_bodySF (plainFor_of_name pn_java_lang_String) hisR ?_
  intro p e s m args below meth c s₁ Bd hml0 hP hK
  obtain ⟨rfl, hZ, hh⟩ := hP
  have hx := Bd.exec
  have hby := Bd.bytes
  have hml : c.maxLocals = 4 := hml0
  have hown : s.vm.findClass "java/lang/String" = some m.cls := findClass_of_methodNamed Bd.named
  have hnm := (name_of_methodNamed Bd.named Bd.method).1
  have X0 : Stand p l e oR0 s m #[(.int p0), (.int p1), (.int p2), (.int p3)] below meth c s₁ [] 0 0 := Stand.of_body Bd
  have e0 : s₁.heap = h0 := by rw [← hh, Bd.state]; rfl
  have efx : entryFrame m #[(.int p0), (.int p1), (.int p2), (.int p3)] 4 = mkF m 0 #[.val (.int p0), .val (.int p1), .val (.int p2), .val (.int p3)] [] := by first | (simp [entryFrame, mkF, argsToLocals, Value.category]; done) | rfl
  have N0 := Fr.nil n0
  have K0 : Keep h0 h0 [] := Keep.refl h0 _
  refine OGo.start (g' := mkF m 0 #[.val (.int p0), .val (.int p1), .val (.int p2), .val (.int p3)] []) (efx) ?_
  show OGo p.tables e below (P37 Z p0 p1 p2 p3 h0 n0 s) (s₁.setTop (mkF m 0 #[.val (.int p0), .val (.int p1), .val (.int p2), .val (.int p3)] []))
  refine og (s₁.setTop (mkF m 8 #[.val (.int p0), .val (.int p1), .val (.int p2), .val (.int p3)] [(.int (p1 <<< ((12 : Int32) &&& 31))), (.int (p0 <<< ((18 : Int32) &&& 31)))])) ?_ (fun tX kX => XS.iloadN X0.here hx rfl (hb hby d37_0) rfl (XS.bipush X0.here hx rfl (hb hby d37_1) (XS.ishl X0.here hx rfl (hb hby d37_3) rfl (XS.iloadN X0.here hx rfl (hb hby d37_4) rfl (XS.bipush X0.here hx rfl (hb hby d37_5) (XS.ishl X0.here hx rfl (hb hby d37_7) rfl kX))))))
  refine og (s₁.setTop (mkF m 15 #[.val (.int p0), .val (.int p1), .val (.int p2), .val (.int p3)] [(.int p3), (.int (((p0 <<< ((18 : Int32) &&& 31)) ^^^ (p1 <<< ((12 : Int32) &&& 31))) ^^^ (p2 <<< ((6 : Int32) &&& 31))))])) ?_ (fun tX kX => XS.ixor X0.here hx rfl (hb hby d37_8) rfl (XS.iloadN X0.here hx rfl (hb hby d37_9) rfl (XS.bipush X0.here hx rfl (hb hby d37_10) (XS.ishl X0.here hx rfl (hb hby d37_12) rfl (XS.ixor X0.here hx rfl (hb hby d37_13) rfl (XS.iloadN X0.here hx rfl (hb hby d37_14) rfl kX))))))
  refine og (s₁.setTop (mkF m 20 #[.val (.int p0), .val (.int p1), .val (.int p2), .val (.int p3)] [(.int ((((p0 <<< ((18 : Int32) &&& 31)) ^^^ (p1 <<< ((12 : Int32) &&& 31))) ^^^ (p2 <<< ((6 : Int32) &&& 31))) ^^^ (p3 ^^^ (3678080 : Int32))))])) ?_ (fun tX kX => X0.ldcwInt hx hown (mvT hZ (oW hw 180 rfl)) (g := (mkF m 15 #[.val (.int p0), .val (.int p1), .val (.int p2), .val (.int p3)] [(.int p3), (.int (((p0 <<< ((18 : Int32) &&& 31)) ^^^ (p1 <<< ((12 : Int32) &&& 31))) ^^^ (p2 <<< ((6 : Int32) &&& 31))))])) rfl (hb hby d37_15) _ (XS.ixor X0.here hx rfl (hb hby d37_18) rfl (XS.ixor X0.here hx rfl (hb hby d37_19) rfl kX)))
  refine OGo.ret X0 (v := (some (.int ((((p0 <<< ((18 : Int32) &&& 31)) ^^^ (p1 <<< ((12 : Int32) &&& 31))) ^^^ (p2 <<< ((6 : Int32) &&& 31))) ^^^ (p3 ^^^ (3678080 : Int32)))))) (fun h => by rw [Bd.returns] at h; cases h) (BodyLoose.notSynchronized Bd) (fun fs hr => retOut X0 hx Bd.returns rfl (Or.inl ⟨rfl, Or.inl rfl, _, rfl⟩) (hb hby d37_20) hr) (Q := Q37 Z p0 p1 p2 p3 h0 n0) ?_ (by decide) (by decide)
  show Q37 Z p0 p1 p2 p3 h0 n0 _ s₁.heap _
  rw [e0]
  exact ⟨rfl, N0, rfl⟩
theorem d40_0 : oD40 0 (.iload_n 0) 1 := by decide +kernel
theorem d40_1 : oD40 1 (.bipush 10) 2 := by decide +kernel
theorem d40_3 : oD40 3 .iushr 1 := by decide +kernel
theorem d40_4 : oD40 4 (.ldc 110) 2 := by decide +kernel
theorem d40_6 : oD40 6 .iadd 1 := by decide +kernel
theorem d40_7 : oD40 7 .i2c 1 := by decide +kernel
theorem d40_8 : oD40 8 .ireturn 1 := by decide +kernel
theorem pn_java_lang_Character : plainName "java/lang/Character" = true := by first | (simp [plainName, overriddenIn]; done) | decide +kernel
def Q40 (Z : State) (p0 : Int32) (h0 : Heap) (n0 : Nat) (v : Option Value) (h : Heap) (L : List Loc) : Prop := v = some (.int (own_hs p0)) ∧ Fr n0 L ∧ h = h0
def P40 (Z : State) (p0 : Int32) (h0 : Heap) (n0 : Nat) (s : State) (o : Outcome) (U' : State) : Prop := ∃ v L, o = .returned v ∧ Q40 Z p0 h0 n0 v U'.heap L ∧ FrameEnd s o U' L oR0.cells oR0.slots
set_option maxRecDepth 65536 in
set_option maxHeartbeats 40000000 in
theorem rm40 (l : Launch) (Z : State) (aV : Array Value) (hw : ∀ d ∈ tables_1, d.before aV Z = true) (ws : List Jvm.Cond) (p0 : Int32) (h0 : Heap) (n0 : Nat) (Z0 : n0 ≤ h0.size) :
    MetFree l oM4 (head1 (Jvm.Cond.code oM4 jdk_89_method_28_code 1 (some .char) :: ws) oR0) (fun a U => a = #[(.int p0)] ∧ Z.Warmed39 U.vm ∧ U.heap = h0) (fun _ _ _ _ _ => True) (fun _ U o U' => ∃ v L, o = .returned v ∧ Q40 Z p0 h0 n0 v U'.heap L ∧ FrameEnd U o U' L oR0.cells oR0.slots) := by
  refine MetFree.of_bodySF (plainFor_of_name pn_java_lang_Character) hisR ?_
  intro p e s m args below meth c s₁ Bd hml0 hP hK
  obtain ⟨rfl, hZ, hh⟩ := hP
  have hx := Bd.exec
  have hby := Bd.bytes
  have hml : c.maxLocals = 1 := hml0
  have hown : s.vm.findClass "java/lang/Character" = some m.cls := findClass_of_methodNamed Bd.named
  have hnm := (name_of_methodNamed Bd.named Bd.method).1
  have X0 : Stand p l e oR0 s m #[(.int p0)] below meth c s₁ [] 0 0 := Stand.of_body Bd
  have e0 : s₁.heap = h0 := by rw [← hh, Bd.state]; rfl
  have efx : entryFrame m #[(.int p0)] 1 = mkF m 0 #[.val (.int p0)] [] := by first | (simp [entryFrame, mkF, argsToLocals, Value.category]; done) | rfl
  have N0 := Fr.nil n0
  have K0 : Keep h0 h0 [] := Keep.refl h0 _
  refine OGo.start (g' := mkF m 0 #[.val (.int p0)] []) (efx) ?_
  show OGo p.tables e below (P40 Z p0 h0 n0 s) (s₁.setTop (mkF m 0 #[.val (.int p0)] []))
  refine og (s₁.setTop (mkF m 8 #[.val (.int p0)] [(.int ((((p0.toUInt32 >>> ((10 : Int32) &&& 31).toUInt32).toInt32) + (55232 : Int32)).toUInt32.toUInt16.toUInt32.toInt32))])) ?_ (fun tX kX => XS.iloadN X0.here hx rfl (hb hby d40_0) rfl (XS.bipush X0.here hx rfl (hb hby d40_1) (XS.iushr X0.here hx rfl (hb hby d40_3) rfl (X0.ldcInt hx hown (mvT hZ (oW hw 192 rfl)) (g := (mkF m 4 #[.val (.int p0)] [(.int ((p0.toUInt32 >>> ((10 : Int32) &&& 31).toUInt32).toInt32))])) rfl (hb hby d40_4) _ (XS.iadd X0.here hx rfl (hb hby d40_6) rfl (XS.i2c X0.here hx rfl (hb hby d40_7) rfl kX))))))
  refine OGo.ret X0 (v := (some (.int (((((p0.toUInt32 >>> ((10 : Int32) &&& 31).toUInt32).toInt32) + (55232 : Int32)).toUInt32.toUInt16.toUInt32.toInt32).toUInt32.toUInt16.toUInt32.toInt32)))) (fun h => by rw [Bd.returns] at h; cases h) (BodyLoose.notSynchronized Bd) (fun fs hr => retN X0 hx (t := .char) (z := ((((p0.toUInt32 >>> ((10 : Int32) &&& 31).toUInt32).toInt32) + (55232 : Int32)).toUInt32.toUInt16.toUInt32.toInt32)) Bd.returns (by simp) (hb hby d40_8) hr) (Q := Q40 Z p0 h0 n0) ?_ (by decide) (by decide)
  show Q40 Z p0 h0 n0 _ s₁.heap _
  rw [e0]
  exact ⟨rfl, N0, rfl⟩
theorem d41_0 : oD41 0 (.iload_n 0) 1 := by decide +kernel
theorem d41_1 : oD41 1 (.sipush 1023) 3 := by decide +kernel
theorem d41_4 : oD41 4 .iand 1 := by decide +kernel
theorem d41_5 : oD41 5 (.ldc 76) 2 := by decide +kernel
theorem d41_7 : oD41 7 .iadd 1 := by decide +kernel
theorem d41_8 : oD41 8 .i2c 1 := by decide +kernel
theorem d41_9 : oD41 9 .ireturn 1 := by decide +kernel
def Q41 (Z : State) (p0 : Int32) (h0 : Heap) (n0 : Nat) (v : Option Value) (h : Heap) (L : List Loc) : Prop := v = some (.int (own_ls p0)) ∧ Fr n0 L ∧ h = h0
def P41 (Z : State) (p0 : Int32) (h0 : Heap) (n0 : Nat) (s : State) (o : Outcome) (U' : State) : Prop := ∃ v L, o = .returned v ∧ Q41 Z p0 h0 n0 v U'.heap L ∧ FrameEnd s o U' L oR0.cells oR0.slots
set_option maxRecDepth 65536 in
set_option maxHeartbeats 40000000 in
theorem rm41 (l : Launch) (Z : State) (aV : Array Value) (hw : ∀ d ∈ tables_1, d.before aV Z = true) (ws : List Jvm.Cond) (p0 : Int32) (h0 : Heap) (n0 : Nat) (Z0 : n0 ≤ h0.size) :
    MetFree l oM5 (head1 (Jvm.Cond.code oM5 jdk_89_method_29_code 1 (some .char) :: ws) oR0) (fun a U => a = #[(.int p0)] ∧ Z.Warmed39 U.vm ∧ U.heap = h0) (fun _ _ _ _ _ => True) (fun _ U o U' => ∃ v L, o = .returned v ∧ Q41 Z p0 h0 n0 v U'.heap L ∧ FrameEnd U o U' L oR0.cells oR0.slots) := by
  refine MetFree.of_bodySF (plainFor_of_name pn_java_lang_Character) hisR ?_
  intro p e s m args below meth c s₁ Bd hml0 hP hK
  obtain ⟨rfl, hZ, hh⟩ := hP
  have hx := Bd.exec
  have hby := Bd.bytes
  have hml : c.maxLocals = 1 := hml0
  have hown : s.vm.findClass "java/lang/Character" = some m.cls := findClass_of_methodNamed Bd.named
  have hnm := (name_of_methodNamed Bd.named Bd.method).1
  have X0 : Stand p l e oR0 s m #[(.int p0)] below meth c s₁ [] 0 0 := Stand.of_body Bd
  have e0 : s₁.heap = h0 := by rw [← hh, Bd.state]; rfl
  have efx : entryFrame m #[(.int p0)] 1 = mkF m 0 #[.val (.int p0)] [] := by first | (simp [entryFrame, mkF, argsToLocals, Value.category]; done) | rfl
  have N0 := Fr.nil n0
  have K0 : Keep h0 h0 [] := Keep.refl h0 _
  refine OGo.start (g' := mkF m 0 #[.val (.int p0)] []) (efx) ?_
  show OGo p.tables e below (P41 Z p0 h0 n0 s) (s₁.setTop (mkF m 0 #[.val (.int p0)] []))
  refine og (s₁.setTop (mkF m 9 #[.val (.int p0)] [(.int (((p0 &&& (1023 : Int32)) + (56320 : Int32)).toUInt32.toUInt16.toUInt32.toInt32))])) ?_ (fun tX kX => XS.iloadN X0.here hx rfl (hb hby d41_0) rfl (XS.sipush X0.here hx rfl (hb hby d41_1) (XS.iand X0.here hx rfl (hb hby d41_4) rfl (X0.ldcInt hx hown (mvT hZ (oW hw 196 rfl)) (g := (mkF m 5 #[.val (.int p0)] [(.int (p0 &&& (1023 : Int32)))])) rfl (hb hby d41_5) _ (XS.iadd X0.here hx rfl (hb hby d41_7) rfl (XS.i2c X0.here hx rfl (hb hby d41_8) rfl kX))))))
  refine OGo.ret X0 (v := (some (.int ((((p0 &&& (1023 : Int32)) + (56320 : Int32)).toUInt32.toUInt16.toUInt32.toInt32).toUInt32.toUInt16.toUInt32.toInt32)))) (fun h => by rw [Bd.returns] at h; cases h) (BodyLoose.notSynchronized Bd) (fun fs hr => retN X0 hx (t := .char) (z := (((p0 &&& (1023 : Int32)) + (56320 : Int32)).toUInt32.toUInt16.toUInt32.toInt32)) Bd.returns (by simp) (hb hby d41_9) hr) (Q := Q41 Z p0 h0 n0) ?_ (by decide) (by decide)
  show Q41 Z p0 h0 n0 _ s₁.heap _
  rw [e0]
  exact ⟨rfl, N0, rfl⟩
theorem d42_0 : oD42 0 (.iload_n 0) 1 := by decide +kernel
theorem d42_1 : oD42 1 (.sipush 192) 3 := by decide +kernel
theorem d42_4 : oD42 4 .iand 1 := by decide +kernel
theorem d42_5 : oD42 5 (.sipush 128) 3 := by decide +kernel
theorem d42_8 : oD42 8 (.if_icmp .eq 7) 3 := by decide +kernel
theorem d42_11 : oD42 11 (.iconst 1) 1 := by decide +kernel
theorem d42_12 : oD42 12 (.goto 4) 3 := by decide +kernel
theorem d42_16 : oD42 16 .ireturn 1 := by decide +kernel
def Q42t (Z : State) (p0 : Int32) (h0 : Heap) (n0 : Nat) (v : Option Value) (h : Heap) (L : List Loc) : Prop := v = some (.int 1) ∧ Fr n0 L ∧ h = h0
def P42t (Z : State) (p0 : Int32) (h0 : Heap) (n0 : Nat) (s : State) (o : Outcome) (U' : State) : Prop := ∃ v L, o = .returned v ∧ Q42t Z p0 h0 n0 v U'.heap L ∧ FrameEnd s o U' L oR0.cells oR0.slots
set_option maxRecDepth 65536 in
set_option maxHeartbeats 40000000 in
theorem rm42t (l : Launch) (Z : State) (aV : Array Value) (hw : ∀ d ∈ tables_1, d.before aV Z = true) (ws : List Jvm.Cond) (p0 : Int32) (h0 : Heap) (n0 : Nat) (Z0 : n0 ≤ h0.size) (hq : ¬ (p0 &&& (192 : Int32)) = (128 : Int32)) :
    MetFree l oM6 (head1 (Jvm.Cond.code oM6 jdk_42_method_29_code 1 (some .boolean) :: ws) oR0) (fun a U => a = #[(.int p0)] ∧ Z.Warmed39 U.vm ∧ U.heap = h0) (fun _ _ _ _ _ => True) (fun _ U o U' => ∃ v L, o = .returned v ∧ Q42t Z p0 h0 n0 v U'.heap L ∧ FrameEnd U o U' L oR0.cells oR0.slots) := by
  refine MetFree.of_bodySF (plainFor_of_name pn_java_lang_String) hisR ?_
  intro p e s m args below meth c s₁ Bd hml0 hP hK
  obtain ⟨rfl, hZ, hh⟩ := hP
  have hx := Bd.exec
  have hby := Bd.bytes
  have hml : c.maxLocals = 1 := hml0
  have hown : s.vm.findClass "java/lang/String" = some m.cls := findClass_of_methodNamed Bd.named
  have hnm := (name_of_methodNamed Bd.named Bd.method).1
  have X0 : Stand p l e oR0 s m #[(.int p0)] below meth c s₁ [] 0 0 := Stand.of_body Bd
  have e0 : s₁.heap = h0 := by rw [← hh, Bd.state]; rfl
  have efx : entryFrame m #[(.int p0)] 1 = mkF m 0 #[.val (.int p0)] [] := by first | (simp [entryFrame, mkF, argsToLocals, Value.category]; done) | rfl
  have N0 := Fr.nil n0
  have K0 : Keep h0 h0 [] := Keep.refl h0 _
  refine OGo.start (g' := mkF m 0 #[.val (.int p0)] []) (efx) ?_
  show OGo p.tables e below (P42t Z p0 h0 n0 s) (s₁.setTop (mkF m 0 #[.val (.int p0)] []))
  refine og (s₁.setTop (mkF m 12 #[.val (.int p0)] [(.int 1)])) ?_ (fun tX kX => XS.iloadN X0.here hx rfl (hb hby d42_0) rfl (XS.sipush X0.here hx rfl (hb hby d42_1) (XS.iand X0.here hx rfl (hb hby d42_4) rfl (XS.sipush X0.here hx rfl (hb hby d42_5) (XS.icmpNo X0.here hx rfl (hb hby d42_8) rfl (feq hq).1 (XS.iconst X0.here hx rfl (hb hby d42_11) kX))))))
  refine og (s₁.setTop (mkF m 16 #[.val (.int p0)] [(.int 1)])) ?_ (fun tX kX => XS.goto X0.here hx rfl (pc0 := 12) (pc' := 16) rfl (hb hby d42_12) (by decide) (by decide) kX)
  refine OGo.ret X0 (v := (some (.int 1))) (fun h => by rw [Bd.returns] at h; cases h) (BodyLoose.notSynchronized Bd) (fun fs hr => retN X0 hx (t := .boolean) (z := (1 : Int32)) Bd.returns (by simp) (hb hby d42_16) hr) (Q := Q42t Z p0 h0 n0) ?_ (by decide) (by decide)
  show Q42t Z p0 h0 n0 _ s₁.heap _
  rw [e0]
  exact ⟨rfl, N0, rfl⟩
theorem d42_15 : oD42 15 (.iconst 0) 1 := by decide +kernel
def Q42f (Z : State) (p0 : Int32) (h0 : Heap) (n0 : Nat) (v : Option Value) (h : Heap) (L : List Loc) : Prop := v = some (.int 0) ∧ Fr n0 L ∧ h = h0
def P42f (Z : State) (p0 : Int32) (h0 : Heap) (n0 : Nat) (s : State) (o : Outcome) (U' : State) : Prop := ∃ v L, o = .returned v ∧ Q42f Z p0 h0 n0 v U'.heap L ∧ FrameEnd s o U' L oR0.cells oR0.slots
set_option maxRecDepth 65536 in
set_option maxHeartbeats 40000000 in
theorem rm42f (l : Launch) (Z : State) (aV : Array Value) (hw : ∀ d ∈ tables_1, d.before aV Z = true) (ws : List Jvm.Cond) (p0 : Int32) (h0 : Heap) (n0 : Nat) (Z0 : n0 ≤ h0.size) (hq : (p0 &&& (192 : Int32)) = (128 : Int32)) :
    MetFree l oM6 (head1 (Jvm.Cond.code oM6 jdk_42_method_29_code 1 (some .boolean) :: ws) oR0) (fun a U => a = #[(.int p0)] ∧ Z.Warmed39 U.vm ∧ U.heap = h0) (fun _ _ _ _ _ => True) (fun _ U o U' => ∃ v L, o = .returned v ∧ Q42f Z p0 h0 n0 v U'.heap L ∧ FrameEnd U o U' L oR0.cells oR0.slots) := by
  refine MetFree.of_bodySF (plainFor_of_name pn_java_lang_String) hisR ?_
  intro p e s m args below meth c s₁ Bd hml0 hP hK
  obtain ⟨rfl, hZ, hh⟩ := hP
  have hx := Bd.exec
  have hby := Bd.bytes
  have hml : c.maxLocals = 1 := hml0
  have hown : s.vm.findClass "java/lang/String" = some m.cls := findClass_of_methodNamed Bd.named
  have hnm := (name_of_methodNamed Bd.named Bd.method).1
  have X0 : Stand p l e oR0 s m #[(.int p0)] below meth c s₁ [] 0 0 := Stand.of_body Bd
  have e0 : s₁.heap = h0 := by rw [← hh, Bd.state]; rfl
  have efx : entryFrame m #[(.int p0)] 1 = mkF m 0 #[.val (.int p0)] [] := by first | (simp [entryFrame, mkF, argsToLocals, Value.category]; done) | rfl
  have N0 := Fr.nil n0
  have K0 : Keep h0 h0 [] := Keep.refl h0 _
  refine OGo.start (g' := mkF m 0 #[.val (.int p0)] []) (efx) ?_
  show OGo p.tables e below (P42f Z p0 h0 n0 s) (s₁.setTop (mkF m 0 #[.val (.int p0)] []))
  refine og (s₁.setTop (mkF m 16 #[.val (.int p0)] [(.int 0)])) ?_ (fun tX kX => XS.iloadN X0.here hx rfl (hb hby d42_0) rfl (XS.sipush X0.here hx rfl (hb hby d42_1) (XS.iand X0.here hx rfl (hb hby d42_4) rfl (XS.sipush X0.here hx rfl (hb hby d42_5) (XS.icmpYes X0.here hx rfl (pc0 := 8) (pc' := 15) rfl (hb hby d42_8) rfl (teq hq).1 (by decide) (by decide) (XS.iconst X0.here hx rfl (hb hby d42_15) kX))))))
  refine OGo.ret X0 (v := (some (.int 0))) (fun h => by rw [Bd.returns] at h; cases h) (BodyLoose.notSynchronized Bd) (fun fs hr => retN X0 hx (t := .boolean) (z := (0 : Int32)) Bd.returns (by simp) (hb hby d42_16) hr) (Q := Q42f Z p0 h0 n0) ?_ (by decide) (by decide)
  show Q42f Z p0 h0 n0 _ s₁.heap _
  rw [e0]
  exact ⟨rfl, N0, rfl⟩
theorem d36_0 : oD36 0 (.iload_n 0) 1 := by decide +kernel
theorem d36_1 : oD36 1 (.bipush (-32)) 2 := by decide +kernel
theorem d36_3 : oD36 3 (.if_icmp .ne 14) 3 := by decide +kernel
theorem d36_6 : oD36 6 (.iload_n 1) 1 := by decide +kernel
theorem d36_7 : oD36 7 (.sipush 224) 3 := by decide +kernel
theorem d36_10 : oD36 10 .iand 1 := by decide +kernel
theorem d36_11 : oD36 11 (.sipush 128) 3 := by decide +kernel
theorem d36_14 : oD36 14 (.if_icmp .eq 14) 3 := by decide +kernel
theorem d36_28 : oD36 28 (.iconst 1) 1 := by decide +kernel
theorem d36_29 : oD36 29 (.goto 4) 3 := by decide +kernel
theorem d36_33 : oD36 33 .ireturn 1 := by decide +kernel
theorem d36_17 : oD36 17 (.iload_n 1) 1 := by decide +kernel
theorem d36_18 : oD36 18 (.sipush 192) 3 := by decide +kernel
theorem d36_21 : oD36 21 .iand 1 := by decide +kernel
theorem d36_22 : oD36 22 (.sipush 128) 3 := by decide +kernel
theorem d36_25 : oD36 25 (.if_icmp .eq 7) 3 := by decide +kernel
def Q36 (Z : State) (p0 : Int32) (p1 : Int32) (h0 : Heap) (n0 : Nat) (v : Option Value) (h : Heap) (L : List Loc) : Prop := v = some (.int 1) ∧ Fr n0 L ∧ h = h0
def P36 (Z : State) (p0 : Int32) (p1 : Int32) (h0 : Heap) (n0 : Nat) (s : State) (o : Outcome) (U' : State) : Prop := ∃ v L, o = .returned v ∧ Q36 Z p0 p1 h0 n0 v U'.heap L ∧ FrameEnd s o U' L oR0.cells oR0.slots
set_option maxRecDepth 65536 in
set_option maxHeartbeats 40000000 in
theorem rm36 (l : Launch) (Z : State) (aV : Array Value) (hw : ∀ d ∈ tables_1, d.before aV Z = true) (ws : List Jvm.Cond) (p0 : Int32) (p1 : Int32) (h0 : Heap) (n0 : Nat) (Z0 : n0 ≤ h0.size) (hq : ¬ (p1 &&& (192 : Int32)) = (128 : Int32)) :
    MetFree l oM7 (head1 (Jvm.Cond.code oM7 jdk_42_method_31_code 2 (some .boolean) :: ws) oR0) (fun a U => a = #[(.int p0), (.int p1)] ∧ Z.Warmed39 U.vm ∧ U.heap = h0) (fun _ _ _ _ _ => True) (fun _ U o U' => ∃ v L, o = .returned v ∧ Q36 Z p0 p1 h0 n0 v U'.heap L ∧ FrameEnd U o U' L oR0.cells oR0.slots) := by
  refine MetFree.of_bodySF (plainFor_of_name pn_java_lang_String) hisR ?_
  intro p e s m args below meth c s₁ Bd hml0 hP hK
  obtain ⟨rfl, hZ, hh⟩ := hP
  have hx := Bd.exec
  have hby := Bd.bytes
  have hml : c.maxLocals = 2 := hml0
  have hown : s.vm.findClass "java/lang/String" = some m.cls := findClass_of_methodNamed Bd.named
  have hnm := (name_of_methodNamed Bd.named Bd.method).1
  have X0 : Stand p l e oR0 s m #[(.int p0), (.int p1)] below meth c s₁ [] 0 0 := Stand.of_body Bd
  have e0 : s₁.heap = h0 := by rw [← hh, Bd.state]; rfl
  have efx : entryFrame m #[(.int p0), (.int p1)] 2 = mkF m 0 #[.val (.int p0), .val (.int p1)] [] := by first | (simp [entryFrame, mkF, argsToLocals, Value.category]; done) | rfl
  have N0 := Fr.nil n0
  have K0 : Keep h0 h0 [] := Keep.refl h0 _
  refine OGo.start (g' := mkF m 0 #[.val (.int p0), .val (.int p1)] []) (efx) ?_
  show OGo p.tables e below (P36 Z p0 p1 h0 n0 s) (s₁.setTop (mkF m 0 #[.val (.int p0), .val (.int p1)] []))
  refine og (s₁.setTop (mkF m 3 #[.val (.int p0), .val (.int p1)] [(.int (-32)), (.int p0)])) ?_ (fun tX kX => XS.iloadN X0.here hx rfl (hb hby d36_0) rfl (XS.bipush X0.here hx rfl (hb hby d36_1) kX))
  by_cases hc3 : p0 = (-32 : Int32)
  ·
    refine og (s₁.setTop (mkF m 14 #[.val (.int p0), .val (.int p1)] [(.int 128), (.int (p1 &&& (224 : Int32)))])) ?_ (fun tX kX => XS.icmpNo X0.here hx rfl (hb hby d36_3) rfl (teq hc3).2 (XS.iloadN X0.here hx rfl (hb hby d36_6) rfl (XS.sipush X0.here hx rfl (hb hby d36_7) (XS.iand X0.here hx rfl (hb hby d36_10) rfl (XS.sipush X0.here hx rfl (hb hby d36_11) kX)))))
    by_cases hc14 : (p1 &&& (224 : Int32)) = (128 : Int32)
    ·
      refine og (s₁.setTop (mkF m 33 #[.val (.int p0), .val (.int p1)] [(.int 1)])) ?_ (fun tX kX => XS.icmpYes X0.here hx rfl (pc0 := 14) (pc' := 28) rfl (hb hby d36_14) rfl (teq hc14).1 (by decide) (by decide) (XS.iconst X0.here hx rfl (hb hby d36_28) (XS.goto X0.here hx rfl (pc0 := 29) (pc' := 33) rfl (hb hby d36_29) (by decide) (by decide) kX)))
      refine OGo.ret X0 (v := (some (.int 1))) (fun h => by rw [Bd.returns] at h; cases h) (BodyLoose.notSynchronized Bd) (fun fs hr => retN X0 hx (t := .boolean) (z := (1 : Int32)) Bd.returns (by simp) (hb hby d36_33) hr) (Q := Q36 Z p0 p1 h0 n0) ?_ (by decide) (by decide)
      show Q36 Z p0 p1 h0 n0 _ s₁.heap _
      rw [e0]
      exact ⟨rfl, N0, rfl⟩
    ·
      refine og (s₁.setTop (mkF m 28 #[.val (.int p0), .val (.int p1)] [])) ?_ (fun tX kX => XS.icmpNo X0.here hx rfl (hb hby d36_14) rfl (feq hc14).1 (XS.iloadN X0.here hx rfl (hb hby d36_17) rfl (XS.sipush X0.here hx rfl (hb hby d36_18) (XS.iand X0.here hx rfl (hb hby d36_21) rfl (XS.sipush X0.here hx rfl (hb hby d36_22) (XS.icmpNo X0.here hx rfl (hb hby d36_25) rfl (feq hq).1 kX))))))
      refine og (s₁.setTop (mkF m 33 #[.val (.int p0), .val (.int p1)] [(.int 1)])) ?_ (fun tX kX => XS.iconst X0.here hx rfl (hb hby d36_28) (XS.goto X0.here hx rfl (pc0 := 29) (pc' := 33) rfl (hb hby d36_29) (by decide) (by decide) kX))
      refine OGo.ret X0 (v := (some (.int 1))) (fun h => by rw [Bd.returns] at h; cases h) (BodyLoose.notSynchronized Bd) (fun fs hr => retN X0 hx (t := .boolean) (z := (1 : Int32)) Bd.returns (by simp) (hb hby d36_33) hr) (Q := Q36 Z p0 p1 h0 n0) ?_ (by decide) (by decide)
      show Q36 Z p0 p1 h0 n0 _ s₁.heap _
      rw [e0]
      exact ⟨rfl, N0, rfl⟩
  ·
    refine og (s₁.setTop (mkF m 28 #[.val (.int p0), .val (.int p1)] [])) ?_ (fun tX kX => XS.icmpYes X0.here hx rfl (pc0 := 3) (pc' := 17) rfl (hb hby d36_3) rfl (feq hc3).2 (by decide) (by decide) (XS.iloadN X0.here hx rfl (hb hby d36_17) rfl (XS.sipush X0.here hx rfl (hb hby d36_18) (XS.iand X0.here hx rfl (hb hby d36_21) rfl (XS.sipush X0.here hx rfl (hb hby d36_22) (XS.icmpNo X0.here hx rfl (hb hby d36_25) rfl (feq hq).1 kX))))))
    refine og (s₁.setTop (mkF m 33 #[.val (.int p0), .val (.int p1)] [(.int 1)])) ?_ (fun tX kX => XS.iconst X0.here hx rfl (hb hby d36_28) (XS.goto X0.here hx rfl (pc0 := 29) (pc' := 33) rfl (hb hby d36_29) (by decide) (by decide) kX))
    refine OGo.ret X0 (v := (some (.int 1))) (fun h => by rw [Bd.returns] at h; cases h) (BodyLoose.notSynchronized Bd) (fun fs hr => retN X0 hx (t := .boolean) (z := (1 : Int32)) Bd.returns (by simp) (hb hby d36_33) hr) (Q := Q36 Z p0 p1 h0 n0) ?_ (by decide) (by decide)
    show Q36 Z p0 p1 h0 n0 _ s₁.heap _
    rw [e0]
    exact ⟨rfl, N0, rfl⟩
theorem d43_0 : oD43 0 (.iload_n 0) 1 := by decide +kernel
theorem d43_1 : oD43 1 (.sipush 240) 3 := by decide +kernel
theorem d43_4 : oD43 4 (.if_icmp .ne 17) 3 := by decide +kernel
theorem d43_7 : oD43 7 (.iload_n 1) 1 := by decide +kernel
theorem d43_8 : oD43 8 (.sipush 144) 3 := by decide +kernel
theorem d43_11 : oD43 11 (.if_icmp .lt 39) 3 := by decide +kernel
theorem d43_50 : oD43 50 (.iconst 1) 1 := by decide +kernel
theorem d43_51 : oD43 51 (.goto 4) 3 := by decide +kernel
theorem d43_55 : oD43 55 .ireturn 1 := by decide +kernel
theorem d43_21 : oD43 21 (.iload_n 0) 1 := by decide +kernel
theorem d43_22 : oD43 22 (.sipush 244) 3 := by decide +kernel
theorem d43_25 : oD43 25 (.if_icmp .ne 14) 3 := by decide +kernel
theorem d43_28 : oD43 28 (.iload_n 1) 1 := by decide +kernel
theorem d43_29 : oD43 29 (.sipush 240) 3 := by decide +kernel
theorem d43_32 : oD43 32 .iand 1 := by decide +kernel
theorem d43_33 : oD43 33 (.sipush 128) 3 := by decide +kernel
theorem d43_36 : oD43 36 (.if_icmp .ne 14) 3 := by decide +kernel
theorem d43_39 : oD43 39 (.iload_n 1) 1 := by decide +kernel
theorem d43_40 : oD43 40 (.sipush 192) 3 := by decide +kernel
theorem d43_43 : oD43 43 .iand 1 := by decide +kernel
theorem d43_44 : oD43 44 (.sipush 128) 3 := by decide +kernel
theorem d43_47 : oD43 47 (.if_icmp .eq 7) 3 := by decide +kernel
def Q43 (Z : State) (p0 : Int32) (p1 : Int32) (h0 : Heap) (n0 : Nat) (v : Option Value) (h : Heap) (L : List Loc) : Prop := v = some (.int 1) ∧ Fr n0 L ∧ h = h0
def P43 (Z : State) (p0 : Int32) (p1 : Int32) (h0 : Heap) (n0 : Nat) (s : State) (o : Outcome) (U' : State) : Prop := ∃ v L, o = .returned v ∧ Q43 Z p0 p1 h0 n0 v U'.heap L ∧ FrameEnd s o U' L oR0.cells oR0.slots
set_option maxRecDepth 65536 in
set_option maxHeartbeats 40000000 in
theorem rm43 (l : Launch) (Z : State) (aV : Array Value) (hw : ∀ d ∈ tables_1, d.before aV Z = true) (ws : List Jvm.Cond) (p0 : Int32) (p1 : Int32) (h0 : Heap) (n0 : Nat) (Z0 : n0 ≤ h0.size) (ht : p1 < (144 : Int32)) (hq : ¬ (p1 &&& (192 : Int32)) = (128 : Int32)) :
    MetFree l oM8 (head1 (Jvm.Cond.code oM8 jdk_42_method_33_code 2 (some .boolean) :: ws) oR0) (fun a U => a = #[(.int p0), (.int p1)] ∧ Z.Warmed39 U.vm ∧ U.heap = h0) (fun _ _ _ _ _ => True) (fun _ U o U' => ∃ v L, o = .returned v ∧ Q43 Z p0 p1 h0 n0 v U'.heap L ∧ FrameEnd U o U' L oR0.cells oR0.slots) := by
  refine MetFree.of_bodySF (plainFor_of_name pn_java_lang_String) hisR ?_
  intro p e s m args below meth c s₁ Bd hml0 hP hK
  obtain ⟨rfl, hZ, hh⟩ := hP
  have hx := Bd.exec
  have hby := Bd.bytes
  have hml : c.maxLocals = 2 := hml0
  have hown : s.vm.findClass "java/lang/String" = some m.cls := findClass_of_methodNamed Bd.named
  have hnm := (name_of_methodNamed Bd.named Bd.method).1
  have X0 : Stand p l e oR0 s m #[(.int p0), (.int p1)] below meth c s₁ [] 0 0 := Stand.of_body Bd
  have e0 : s₁.heap = h0 := by rw [← hh, Bd.state]; rfl
  have efx : entryFrame m #[(.int p0), (.int p1)] 2 = mkF m 0 #[.val (.int p0), .val (.int p1)] [] := by first | (simp [entryFrame, mkF, argsToLocals, Value.category]; done) | rfl
  have N0 := Fr.nil n0
  have K0 : Keep h0 h0 [] := Keep.refl h0 _
  refine OGo.start (g' := mkF m 0 #[.val (.int p0), .val (.int p1)] []) (efx) ?_
  show OGo p.tables e below (P43 Z p0 p1 h0 n0 s) (s₁.setTop (mkF m 0 #[.val (.int p0), .val (.int p1)] []))
  refine og (s₁.setTop (mkF m 4 #[.val (.int p0), .val (.int p1)] [(.int 240), (.int p0)])) ?_ (fun tX kX => XS.iloadN X0.here hx rfl (hb hby d43_0) rfl (XS.sipush X0.here hx rfl (hb hby d43_1) kX))
  by_cases hc4 : p0 = (240 : Int32)
  ·
    refine og (s₁.setTop (mkF m 55 #[.val (.int p0), .val (.int p1)] [(.int 1)])) ?_ (fun tX kX => XS.icmpNo X0.here hx rfl (hb hby d43_4) rfl (teq hc4).2 (XS.iloadN X0.here hx rfl (hb hby d43_7) rfl (XS.sipush X0.here hx rfl (hb hby d43_8) (XS.icmpYes X0.here hx rfl (pc0 := 11) (pc' := 50) rfl (hb hby d43_11) rfl (tlt ht).1 (by decide) (by decide) (XS.iconst X0.here hx rfl (hb hby d43_50) (XS.goto X0.here hx rfl (pc0 := 51) (pc' := 55) rfl (hb hby d43_51) (by decide) (by decide) kX))))))
    refine OGo.ret X0 (v := (some (.int 1))) (fun h => by rw [Bd.returns] at h; cases h) (BodyLoose.notSynchronized Bd) (fun fs hr => retN X0 hx (t := .boolean) (z := (1 : Int32)) Bd.returns (by simp) (hb hby d43_55) hr) (Q := Q43 Z p0 p1 h0 n0) ?_ (by decide) (by decide)
    show Q43 Z p0 p1 h0 n0 _ s₁.heap _
    rw [e0]
    exact ⟨rfl, N0, rfl⟩
  ·
    refine og (s₁.setTop (mkF m 25 #[.val (.int p0), .val (.int p1)] [(.int 244), (.int p0)])) ?_ (fun tX kX => XS.icmpYes X0.here hx rfl (pc0 := 4) (pc' := 21) rfl (hb hby d43_4) rfl (feq hc4).2 (by decide) (by decide) (XS.iloadN X0.here hx rfl (hb hby d43_21) rfl (XS.sipush X0.here hx rfl (hb hby d43_22) kX)))
    by_cases hc25 : p0 = (244 : Int32)
    ·
      refine og (s₁.setTop (mkF m 36 #[.val (.int p0), .val (.int p1)] [(.int 128), (.int (p1 &&& (240 : Int32)))])) ?_ (fun tX kX => XS.icmpNo X0.here hx rfl (hb hby d43_25) rfl (teq hc25).2 (XS.iloadN X0.here hx rfl (hb hby d43_28) rfl (XS.sipush X0.here hx rfl (hb hby d43_29) (XS.iand X0.here hx rfl (hb hby d43_32) rfl (XS.sipush X0.here hx rfl (hb hby d43_33) kX)))))
      by_cases hc36 : (p1 &&& (240 : Int32)) = (128 : Int32)
      ·
        refine og (s₁.setTop (mkF m 50 #[.val (.int p0), .val (.int p1)] [])) ?_ (fun tX kX => XS.icmpNo X0.here hx rfl (hb hby d43_36) rfl (teq hc36).2 (XS.iloadN X0.here hx rfl (hb hby d43_39) rfl (XS.sipush X0.here hx rfl (hb hby d43_40) (XS.iand X0.here hx rfl (hb hby d43_43) rfl (XS.sipush X0.here hx rfl (hb hby d43_44) (XS.icmpNo X0.here hx rfl (hb hby d43_47) rfl (feq hq).1 kX))))))
        refine og (s₁.setTop (mkF m 55 #[.val (.int p0), .val (.int p1)] [(.int 1)])) ?_ (fun tX kX => XS.iconst X0.here hx rfl (hb hby d43_50) (XS.goto X0.here hx rfl (pc0 := 51) (pc' := 55) rfl (hb hby d43_51) (by decide) (by decide) kX))
        refine OGo.ret X0 (v := (some (.int 1))) (fun h => by rw [Bd.returns] at h; cases h) (BodyLoose.notSynchronized Bd) (fun fs hr => retN X0 hx (t := .boolean) (z := (1 : Int32)) Bd.returns (by simp) (hb hby d43_55) hr) (Q := Q43 Z p0 p1 h0 n0) ?_ (by decide) (by decide)
        show Q43 Z p0 p1 h0 n0 _ s₁.heap _
        rw [e0]
        exact ⟨rfl, N0, rfl⟩
      ·
        refine og (s₁.setTop (mkF m 55 #[.val (.int p0), .val (.int p1)] [(.int 1)])) ?_ (fun tX kX => XS.icmpYes X0.here hx rfl (pc0 := 36) (pc' := 50) rfl (hb hby d43_36) rfl (feq hc36).2 (by decide) (by decide) (XS.iconst X0.here hx rfl (hb hby d43_50) (XS.goto X0.here hx rfl (pc0 := 51) (pc' := 55) rfl (hb hby d43_51) (by decide) (by decide) kX)))
        refine OGo.ret X0 (v := (some (.int 1))) (fun h => by rw [Bd.returns] at h; cases h) (BodyLoose.notSynchronized Bd) (fun fs hr => retN X0 hx (t := .boolean) (z := (1 : Int32)) Bd.returns (by simp) (hb hby d43_55) hr) (Q := Q43 Z p0 p1 h0 n0) ?_ (by decide) (by decide)
        show Q43 Z p0 p1 h0 n0 _ s₁.heap _
        rw [e0]
        exact ⟨rfl, N0, rfl⟩
    ·
      refine og (s₁.setTop (mkF m 50 #[.val (.int p0), .val (.int p1)] [])) ?_ (fun tX kX => XS.icmpYes X0.here hx rfl (pc0 := 25) (pc' := 39) rfl (hb hby d43_25) rfl (feq hc25).2 (by decide) (by decide) (XS.iloadN X0.here hx rfl (hb hby d43_39) rfl (XS.sipush X0.here hx rfl (hb hby d43_40) (XS.iand X0.here hx rfl (hb hby d43_43) rfl (XS.sipush X0.here hx rfl (hb hby d43_44) (XS.icmpNo X0.here hx rfl (hb hby d43_47) rfl (feq hq).1 kX))))))
      refine og (s₁.setTop (mkF m 55 #[.val (.int p0), .val (.int p1)] [(.int 1)])) ?_ (fun tX kX => XS.iconst X0.here hx rfl (hb hby d43_50) (XS.goto X0.here hx rfl (pc0 := 51) (pc' := 55) rfl (hb hby d43_51) (by decide) (by decide) kX))
      refine OGo.ret X0 (v := (some (.int 1))) (fun h => by rw [Bd.returns] at h; cases h) (BodyLoose.notSynchronized Bd) (fun fs hr => retN X0 hx (t := .boolean) (z := (1 : Int32)) Bd.returns (by simp) (hb hby d43_55) hr) (Q := Q43 Z p0 p1 h0 n0) ?_ (by decide) (by decide)
      show Q43 Z p0 p1 h0 n0 _ s₁.heap _
      rw [e0]
      exact ⟨rfl, N0, rfl⟩
theorem d28_0 : oD28 0 (.iload_n 0) 1 := by decide +kernel
theorem d28_1 : oD28 1 (.bipush (-32)) 2 := by decide +kernel
theorem d28_3 : oD28 3 (.if_icmp .ne 14) 3 := by decide +kernel
theorem d28_6 : oD28 6 (.iload_n 1) 1 := by decide +kernel
theorem d28_7 : oD28 7 (.sipush 224) 3 := by decide +kernel
theorem d28_10 : oD28 10 .iand 1 := by decide +kernel
theorem d28_11 : oD28 11 (.sipush 128) 3 := by decide +kernel
theorem d28_14 : oD28 14 (.if_icmp .eq 25) 3 := by decide +kernel
theorem d28_17 : oD28 17 (.iload_n 1) 1 := by decide +kernel
theorem d28_18 : oD28 18 (.sipush 192) 3 := by decide +kernel
theorem d28_21 : oD28 21 .iand 1 := by decide +kernel
theorem d28_22 : oD28 22 (.sipush 128) 3 := by decide +kernel
theorem d28_25 : oD28 25 (.if_icmp .ne 14) 3 := by decide +kernel
theorem d28_28 : oD28 28 (.iload_n 2) 1 := by decide +kernel
theorem d28_29 : oD28 29 (.sipush 192) 3 := by decide +kernel
theorem d28_32 : oD28 32 .iand 1 := by decide +kernel
theorem d28_33 : oD28 33 (.sipush 128) 3 := by decide +kernel
theorem d28_36 : oD28 36 (.if_icmp .eq 7) 3 := by decide +kernel
theorem d28_43 : oD28 43 (.iconst 0) 1 := by decide +kernel
theorem d28_44 : oD28 44 .ireturn 1 := by decide +kernel
def Q28 (Z : State) (p0 : Int32) (p1 : Int32) (p2 : Int32) (h0 : Heap) (n0 : Nat) (v : Option Value) (h : Heap) (L : List Loc) : Prop := v = some (.int 0) ∧ Fr n0 L ∧ h = h0
def P28 (Z : State) (p0 : Int32) (p1 : Int32) (p2 : Int32) (h0 : Heap) (n0 : Nat) (s : State) (o : Outcome) (U' : State) : Prop := ∃ v L, o = .returned v ∧ Q28 Z p0 p1 p2 h0 n0 v U'.heap L ∧ FrameEnd s o U' L oR0.cells oR0.slots
set_option maxRecDepth 65536 in
set_option maxHeartbeats 40000000 in
theorem rm28 (l : Launch) (Z : State) (aV : Array Value) (hw : ∀ d ∈ tables_1, d.before aV Z = true) (ws : List Jvm.Cond) (p0 : Int32) (p1 : Int32) (p2 : Int32) (h0 : Heap) (n0 : Nat) (Z0 : n0 ≤ h0.size) (hm : p0 = (-32 : Int32) → ¬ (p1 &&& (224 : Int32)) = (128 : Int32)) (hq1 : (p1 &&& (192 : Int32)) = (128 : Int32)) (hq2 : (p2 &&& (192 : Int32)) = (128 : Int32)) :
    MetFree l oM9 (head1 (Jvm.Cond.code oM9 jdk_42_method_30_code 3 (some .boolean) :: ws) oR0) (fun a U => a = #[(.int p0), (.int p1), (.int p2)] ∧ Z.Warmed39 U.vm ∧ U.heap = h0) (fun _ _ _ _ _ => True) (fun _ U o U' => ∃ v L, o = .returned v ∧ Q28 Z p0 p1 p2 h0 n0 v U'.heap L ∧ FrameEnd U o U' L oR0.cells oR0.slots) := by
  refine MetFree.of_bodySF (plainFor_of_name pn_java_lang_String) hisR ?_
  intro p e s m args below meth c s₁ Bd hml0 hP hK
  obtain ⟨rfl, hZ, hh⟩ := hP
  have hx := Bd.exec
  have hby := Bd.bytes
  have hml : c.maxLocals = 3 := hml0
  have hown : s.vm.findClass "java/lang/String" = some m.cls := findClass_of_methodNamed Bd.named
  have hnm := (name_of_methodNamed Bd.named Bd.method).1
  have X0 : Stand p l e oR0 s m #[(.int p0), (.int p1), (.int p2)] below meth c s₁ [] 0 0 := Stand.of_body Bd
  have e0 : s₁.heap = h0 := by rw [← hh, Bd.state]; rfl
  have efx : entryFrame m #[(.int p0), (.int p1), (.int p2)] 3 = mkF m 0 #[.val (.int p0), .val (.int p1), .val (.int p2)] [] := by first | (simp [entryFrame, mkF, argsToLocals, Value.category]; done) | rfl
  have N0 := Fr.nil n0
  have K0 : Keep h0 h0 [] := Keep.refl h0 _
  refine OGo.start (g' := mkF m 0 #[.val (.int p0), .val (.int p1), .val (.int p2)] []) (efx) ?_
  show OGo p.tables e below (P28 Z p0 p1 p2 h0 n0 s) (s₁.setTop (mkF m 0 #[.val (.int p0), .val (.int p1), .val (.int p2)] []))
  refine og (s₁.setTop (mkF m 3 #[.val (.int p0), .val (.int p1), .val (.int p2)] [(.int (-32)), (.int p0)])) ?_ (fun tX kX => XS.iloadN X0.here hx rfl (hb hby d28_0) rfl (XS.bipush X0.here hx rfl (hb hby d28_1) kX))
  by_cases hc3 : p0 = (-32 : Int32)
  ·
    refine og (s₁.setTop (mkF m 17 #[.val (.int p0), .val (.int p1), .val (.int p2)] [])) ?_ (fun tX kX => XS.icmpNo X0.here hx rfl (hb hby d28_3) rfl (teq hc3).2 (XS.iloadN X0.here hx rfl (hb hby d28_6) rfl (XS.sipush X0.here hx rfl (hb hby d28_7) (XS.iand X0.here hx rfl (hb hby d28_10) rfl (XS.sipush X0.here hx rfl (hb hby d28_11) (XS.icmpNo X0.here hx rfl (hb hby d28_14) rfl (feq (hm hc3)).1 kX))))))
    refine og (s₁.setTop (mkF m 29 #[.val (.int p0), .val (.int p1), .val (.int p2)] [(.int p2)])) ?_ (fun tX kX => XS.iloadN X0.here hx rfl (hb hby d28_17) rfl (XS.sipush X0.here hx rfl (hb hby d28_18) (XS.iand X0.here hx rfl (hb hby d28_21) rfl (XS.sipush X0.here hx rfl (hb hby d28_22) (XS.icmpNo X0.here hx rfl (hb hby d28_25) rfl (teq hq1).2 (XS.iloadN X0.here hx rfl (hb hby d28_28) rfl kX))))))
    refine og (s₁.setTop (mkF m 44 #[.val (.int p0), .val (.int p1), .val (.int p2)] [(.int 0)])) ?_ (fun tX kX => XS.sipush X0.here hx rfl (hb hby d28_29) (XS.iand X0.here hx rfl (hb hby d28_32) rfl (XS.sipush X0.here hx rfl (hb hby d28_33) (XS.icmpYes X0.here hx rfl (pc0 := 36) (pc' := 43) rfl (hb hby d28_36) rfl (teq hq2).1 (by decide) (by decide) (XS.iconst X0.here hx rfl (hb hby d28_43) kX)))))
    refine OGo.ret X0 (v := (some (.int 0))) (fun h => by rw [Bd.returns] at h; cases h) (BodyLoose.notSynchronized Bd) (fun fs hr => retN X0 hx (t := .boolean) (z := (0 : Int32)) Bd.returns (by simp) (hb hby d28_44) hr) (Q := Q28 Z p0 p1 p2 h0 n0) ?_ (by decide) (by decide)
    show Q28 Z p0 p1 p2 h0 n0 _ s₁.heap _
    rw [e0]
    exact ⟨rfl, N0, rfl⟩
  ·
    refine og (s₁.setTop (mkF m 28 #[.val (.int p0), .val (.int p1), .val (.int p2)] [])) ?_ (fun tX kX => XS.icmpYes X0.here hx rfl (pc0 := 3) (pc' := 17) rfl (hb hby d28_3) rfl (feq hc3).2 (by decide) (by decide) (XS.iloadN X0.here hx rfl (hb hby d28_17) rfl (XS.sipush X0.here hx rfl (hb hby d28_18) (XS.iand X0.here hx rfl (hb hby d28_21) rfl (XS.sipush X0.here hx rfl (hb hby d28_22) (XS.icmpNo X0.here hx rfl (hb hby d28_25) rfl (teq hq1).2 kX))))))
    refine og (s₁.setTop (mkF m 44 #[.val (.int p0), .val (.int p1), .val (.int p2)] [(.int 0)])) ?_ (fun tX kX => XS.iloadN X0.here hx rfl (hb hby d28_28) rfl (XS.sipush X0.here hx rfl (hb hby d28_29) (XS.iand X0.here hx rfl (hb hby d28_32) rfl (XS.sipush X0.here hx rfl (hb hby d28_33) (XS.icmpYes X0.here hx rfl (pc0 := 36) (pc' := 43) rfl (hb hby d28_36) rfl (teq hq2).1 (by decide) (by decide) (XS.iconst X0.here hx rfl (hb hby d28_43) kX))))))
    refine OGo.ret X0 (v := (some (.int 0))) (fun h => by rw [Bd.returns] at h; cases h) (BodyLoose.notSynchronized Bd) (fun fs hr => retN X0 hx (t := .boolean) (z := (0 : Int32)) Bd.returns (by simp) (hb hby d28_44) hr) (Q := Q28 Z p0 p1 p2 h0 n0) ?_ (by decide) (by decide)
    show Q28 Z p0 p1 p2 h0 n0 _ s₁.heap _
    rw [e0]
    exact ⟨rfl, N0, rfl⟩
theorem d30_0 : oD30 0 (.iload_n 0) 1 := by decide +kernel
theorem d30_1 : oD30 1 (.ldc 75) 2 := by decide +kernel
theorem d30_3 : oD30 3 (.if_icmp .lt 13) 3 := by decide +kernel
theorem d30_16 : oD30 16 (.iconst 0) 1 := by decide +kernel
theorem d30_17 : oD30 17 .ireturn 1 := by decide +kernel
theorem d30_6 : oD30 6 (.iload_n 0) 1 := by decide +kernel
theorem d30_7 : oD30 7 (.ldc 77) 2 := by decide +kernel
theorem d30_9 : oD30 9 (.if_icmp .ge 7) 3 := by decide +kernel
def Q30 (Z : State) (p0 : Int32) (h0 : Heap) (n0 : Nat) (v : Option Value) (h : Heap) (L : List Loc) : Prop := v = some (.int 0) ∧ Fr n0 L ∧ h = h0
def P30 (Z : State) (p0 : Int32) (h0 : Heap) (n0 : Nat) (s : State) (o : Outcome) (U' : State) : Prop := ∃ v L, o = .returned v ∧ Q30 Z p0 h0 n0 v U'.heap L ∧ FrameEnd s o U' L oR0.cells oR0.slots
set_option maxRecDepth 65536 in
set_option maxHeartbeats 40000000 in
theorem rm30 (l : Launch) (Z : State) (aV : Array Value) (hw : ∀ d ∈ tables_1, d.before aV Z = true) (ws : List Jvm.Cond) (p0 : Int32) (h0 : Heap) (n0 : Nat) (Z0 : n0 ≤ h0.size) (hd : ¬ p0 < (55296 : Int32) → ¬ p0 < (57344 : Int32)) :
    MetFree l oM10 (head1 (Jvm.Cond.code oM10 jdk_89_method_16_code 1 (some .boolean) :: ws) oR0) (fun a U => a = #[(.int p0)] ∧ Z.Warmed39 U.vm ∧ U.heap = h0) (fun _ _ _ _ _ => True) (fun _ U o U' => ∃ v L, o = .returned v ∧ Q30 Z p0 h0 n0 v U'.heap L ∧ FrameEnd U o U' L oR0.cells oR0.slots) := by
  refine MetFree.of_bodySF (plainFor_of_name pn_java_lang_Character) hisR ?_
  intro p e s m args below meth c s₁ Bd hml0 hP hK
  obtain ⟨rfl, hZ, hh⟩ := hP
  have hx := Bd.exec
  have hby := Bd.bytes
  have hml : c.maxLocals = 1 := hml0
  have hown : s.vm.findClass "java/lang/Character" = some m.cls := findClass_of_methodNamed Bd.named
  have hnm := (name_of_methodNamed Bd.named Bd.method).1
  have X0 : Stand p l e oR0 s m #[(.int p0)] below meth c s₁ [] 0 0 := Stand.of_body Bd
  have e0 : s₁.heap = h0 := by rw [← hh, Bd.state]; rfl
  have efx : entryFrame m #[(.int p0)] 1 = mkF m 0 #[.val (.int p0)] [] := by first | (simp [entryFrame, mkF, argsToLocals, Value.category]; done) | rfl
  have N0 := Fr.nil n0
  have K0 : Keep h0 h0 [] := Keep.refl h0 _
  refine OGo.start (g' := mkF m 0 #[.val (.int p0)] []) (efx) ?_
  show OGo p.tables e below (P30 Z p0 h0 n0 s) (s₁.setTop (mkF m 0 #[.val (.int p0)] []))
  refine og (s₁.setTop (mkF m 3 #[.val (.int p0)] [(.int 55296), (.int p0)])) ?_ (fun tX kX => XS.iloadN X0.here hx rfl (hb hby d30_0) rfl (X0.ldcInt hx hown (mvT hZ (oW hw 144 rfl)) (g := (mkF m 1 #[.val (.int p0)] [(.int p0)])) rfl (hb hby d30_1) _ kX))
  by_cases hc3 : p0 < (55296 : Int32)
  ·
    refine og (s₁.setTop (mkF m 17 #[.val (.int p0)] [(.int 0)])) ?_ (fun tX kX => XS.icmpYes X0.here hx rfl (pc0 := 3) (pc' := 16) rfl (hb hby d30_3) rfl (tlt hc3).1 (by decide) (by decide) (XS.iconst X0.here hx rfl (hb hby d30_16) kX))
    refine OGo.ret X0 (v := (some (.int 0))) (fun h => by rw [Bd.returns] at h; cases h) (BodyLoose.notSynchronized Bd) (fun fs hr => retN X0 hx (t := .boolean) (z := (0 : Int32)) Bd.returns (by simp) (hb hby d30_17) hr) (Q := Q30 Z p0 h0 n0) ?_ (by decide) (by decide)
    show Q30 Z p0 h0 n0 _ s₁.heap _
    rw [e0]
    exact ⟨rfl, N0, rfl⟩
  ·
    refine og (s₁.setTop (mkF m 17 #[.val (.int p0)] [(.int 0)])) ?_ (fun tX kX => XS.icmpNo X0.here hx rfl (hb hby d30_3) rfl (flt hc3).1 (XS.iloadN X0.here hx rfl (hb hby d30_6) rfl (X0.ldcInt hx hown (mvT hZ (oW hw 174 rfl)) (g := (mkF m 7 #[.val (.int p0)] [(.int p0)])) rfl (hb hby d30_7) _ (XS.icmpYes X0.here hx rfl (pc0 := 9) (pc' := 16) rfl (hb hby d30_9) rfl (flt (hd hc3)).2.1 (by decide) (by decide) (XS.iconst X0.here hx rfl (hb hby d30_16) kX)))))
    refine OGo.ret X0 (v := (some (.int 0))) (fun h => by rw [Bd.returns] at h; cases h) (BodyLoose.notSynchronized Bd) (fun fs hr => retN X0 hx (t := .boolean) (z := (0 : Int32)) Bd.returns (by simp) (hb hby d30_17) hr) (Q := Q30 Z p0 h0 n0) ?_ (by decide) (by decide)
    show Q30 Z p0 h0 n0 _ s₁.heap _
    rw [e0]
    exact ⟨rfl, N0, rfl⟩
theorem d38_0 : oD38 0 (.iload_n 0) 1 := by decide +kernel
theorem d38_1 : oD38 1 (.sipush 192) 3 := by decide +kernel
theorem d38_4 : oD38 4 .iand 1 := by decide +kernel
theorem d38_5 : oD38 5 (.sipush 128) 3 := by decide +kernel
theorem d38_8 : oD38 8 (.if_icmp .ne 25) 3 := by decide +kernel
theorem d38_11 : oD38 11 (.iload_n 1) 1 := by decide +kernel
theorem d38_12 : oD38 12 (.sipush 192) 3 := by decide +kernel
theorem d38_15 : oD38 15 .iand 1 := by decide +kernel
theorem d38_16 : oD38 16 (.sipush 128) 3 := by decide +kernel
theorem d38_19 : oD38 19 (.if_icmp .ne 14) 3 := by decide +kernel
theorem d38_22 : oD38 22 (.iload_n 2) 1 := by decide +kernel
theorem d38_23 : oD38 23 (.sipush 192) 3 := by decide +kernel
theorem d38_26 : oD38 26 .iand 1 := by decide +kernel
theorem d38_27 : oD38 27 (.sipush 128) 3 := by decide +kernel
theorem d38_30 : oD38 30 (.if_icmp .eq 7) 3 := by decide +kernel
theorem d38_37 : oD38 37 (.iconst 0) 1 := by decide +kernel
theorem d38_38 : oD38 38 .ireturn 1 := by decide +kernel
def Q38 (Z : State) (p0 : Int32) (p1 : Int32) (p2 : Int32) (h0 : Heap) (n0 : Nat) (v : Option Value) (h : Heap) (L : List Loc) : Prop := v = some (.int 0) ∧ Fr n0 L ∧ h = h0
def P38 (Z : State) (p0 : Int32) (p1 : Int32) (p2 : Int32) (h0 : Heap) (n0 : Nat) (s : State) (o : Outcome) (U' : State) : Prop := ∃ v L, o = .returned v ∧ Q38 Z p0 p1 p2 h0 n0 v U'.heap L ∧ FrameEnd s o U' L oR0.cells oR0.slots
set_option maxRecDepth 65536 in
set_option maxHeartbeats 40000000 in
theorem rm38 (l : Launch) (Z : State) (aV : Array Value) (hw : ∀ d ∈ tables_1, d.before aV Z = true) (ws : List Jvm.Cond) (p0 : Int32) (p1 : Int32) (p2 : Int32) (h0 : Heap) (n0 : Nat) (Z0 : n0 ≤ h0.size) (hq0 : (p0 &&& (192 : Int32)) = (128 : Int32)) (hq1 : (p1 &&& (192 : Int32)) = (128 : Int32)) (hq2 : (p2 &&& (192 : Int32)) = (128 : Int32)) :
    MetFree l oM11 (head1 (Jvm.Cond.code oM11 jdk_42_method_32_code 3 (some .boolean) :: ws) oR0) (fun a U => a = #[(.int p0), (.int p1), (.int p2)] ∧ Z.Warmed39 U.vm ∧ U.heap = h0) (fun _ _ _ _ _ => True) (fun _ U o U' => ∃ v L, o = .returned v ∧ Q38 Z p0 p1 p2 h0 n0 v U'.heap L ∧ FrameEnd U o U' L oR0.cells oR0.slots) := by
  refine MetFree.of_bodySF (plainFor_of_name pn_java_lang_String) hisR ?_
  intro p e s m args below meth c s₁ Bd hml0 hP hK
  obtain ⟨rfl, hZ, hh⟩ := hP
  have hx := Bd.exec
  have hby := Bd.bytes
  have hml : c.maxLocals = 3 := hml0
  have hown : s.vm.findClass "java/lang/String" = some m.cls := findClass_of_methodNamed Bd.named
  have hnm := (name_of_methodNamed Bd.named Bd.method).1
  have X0 : Stand p l e oR0 s m #[(.int p0), (.int p1), (.int p2)] below meth c s₁ [] 0 0 := Stand.of_body Bd
  have e0 : s₁.heap = h0 := by rw [← hh, Bd.state]; rfl
  have efx : entryFrame m #[(.int p0), (.int p1), (.int p2)] 3 = mkF m 0 #[.val (.int p0), .val (.int p1), .val (.int p2)] [] := by first | (simp [entryFrame, mkF, argsToLocals, Value.category]; done) | rfl
  have N0 := Fr.nil n0
  have K0 : Keep h0 h0 [] := Keep.refl h0 _
  refine OGo.start (g' := mkF m 0 #[.val (.int p0), .val (.int p1), .val (.int p2)] []) (efx) ?_
  show OGo p.tables e below (P38 Z p0 p1 p2 h0 n0 s) (s₁.setTop (mkF m 0 #[.val (.int p0), .val (.int p1), .val (.int p2)] []))
  refine og (s₁.setTop (mkF m 12 #[.val (.int p0), .val (.int p1), .val (.int p2)] [(.int p1)])) ?_ (fun tX kX => XS.iloadN X0.here hx rfl (hb hby d38_0) rfl (XS.sipush X0.here hx rfl (hb hby d38_1) (XS.iand X0.here hx rfl (hb hby d38_4) rfl (XS.sipush X0.here hx rfl (hb hby d38_5) (XS.icmpNo X0.here hx rfl (hb hby d38_8) rfl (teq hq0).2 (XS.iloadN X0.here hx rfl (hb hby d38_11) rfl kX))))))
  refine og (s₁.setTop (mkF m 26 #[.val (.int p0), .val (.int p1), .val (.int p2)] [(.int 192), (.int p2)])) ?_ (fun tX kX => XS.sipush X0.here hx rfl (hb hby d38_12) (XS.iand X0.here hx rfl (hb hby d38_15) rfl (XS.sipush X0.here hx rfl (hb hby d38_16) (XS.icmpNo X0.here hx rfl (hb hby d38_19) rfl (teq hq1).2 (XS.iloadN X0.here hx rfl (hb hby d38_22) rfl (XS.sipush X0.here hx rfl (hb hby d38_23) kX))))))
  refine og (s₁.setTop (mkF m 38 #[.val (.int p0), .val (.int p1), .val (.int p2)] [(.int 0)])) ?_ (fun tX kX => XS.iand X0.here hx rfl (hb hby d38_26) rfl (XS.sipush X0.here hx rfl (hb hby d38_27) (XS.icmpYes X0.here hx rfl (pc0 := 30) (pc' := 37) rfl (hb hby d38_30) rfl (teq hq2).1 (by decide) (by decide) (XS.iconst X0.here hx rfl (hb hby d38_37) kX))))
  refine OGo.ret X0 (v := (some (.int 0))) (fun h => by rw [Bd.returns] at h; cases h) (BodyLoose.notSynchronized Bd) (fun fs hr => retN X0 hx (t := .boolean) (z := (0 : Int32)) Bd.returns (by simp) (hb hby d38_38) hr) (Q := Q38 Z p0 p1 p2 h0 n0) ?_ (by decide) (by decide)
  show Q38 Z p0 p1 p2 h0 n0 _ s₁.heap _
  rw [e0]
  exact ⟨rfl, N0, rfl⟩
theorem d39_0 : oD39 0 (.iload_n 0) 1 := by decide +kernel
theorem d39_1 : oD39 1 (.ldc 73) 2 := by decide +kernel
theorem d39_3 : oD39 3 (.if_icmp .lt 13) 3 := by decide +kernel
theorem d39_6 : oD39 6 (.iload_n 0) 1 := by decide +kernel
theorem d39_7 : oD39 7 (.ldc 74) 2 := by decide +kernel
theorem d39_9 : oD39 9 (.if_icmp .ge 7) 3 := by decide +kernel
theorem d39_12 : oD39 12 (.iconst 1) 1 := by decide +kernel
theorem d39_13 : oD39 13 (.goto 4) 3 := by decide +kernel
theorem d39_17 : oD39 17 .ireturn 1 := by decide +kernel
def Q39 (Z : State) (p0 : Int32) (h0 : Heap) (n0 : Nat) (v : Option Value) (h : Heap) (L : List Loc) : Prop := v = some (.int 1) ∧ Fr n0 L ∧ h = h0
def P39 (Z : State) (p0 : Int32) (h0 : Heap) (n0 : Nat) (s : State) (o : Outcome) (U' : State) : Prop := ∃ v L, o = .returned v ∧ Q39 Z p0 h0 n0 v U'.heap L ∧ FrameEnd s o U' L oR0.cells oR0.slots
set_option maxRecDepth 65536 in
set_option maxHeartbeats 40000000 in
theorem rm39 (l : Launch) (Z : State) (aV : Array Value) (hw : ∀ d ∈ tables_1, d.before aV Z = true) (ws : List Jvm.Cond) (p0 : Int32) (h0 : Heap) (n0 : Nat) (Z0 : n0 ≤ h0.size) (hq1 : ¬ p0 < (65536 : Int32)) (hq2 : p0 < (1114112 : Int32)) :
    MetFree l oM12 (head1 (Jvm.Cond.code oM12 jdk_89_method_13_code 1 (some .boolean) :: ws) oR0) (fun a U => a = #[(.int p0)] ∧ Z.Warmed39 U.vm ∧ U.heap = h0) (fun _ _ _ _ _ => True) (fun _ U o U' => ∃ v L, o = .returned v ∧ Q39 Z p0 h0 n0 v U'.heap L ∧ FrameEnd U o U' L oR0.cells oR0.slots) := by
  refine MetFree.of_bodySF (plainFor_of_name pn_java_lang_Character) hisR ?_
  intro p e s m args below meth c s₁ Bd hml0 hP hK
  obtain ⟨rfl, hZ, hh⟩ := hP
  have hx := Bd.exec
  have hby := Bd.bytes
  have hml : c.maxLocals = 1 := hml0
  have hown : s.vm.findClass "java/lang/Character" = some m.cls := findClass_of_methodNamed Bd.named
  have hnm := (name_of_methodNamed Bd.named Bd.method).1
  have X0 : Stand p l e oR0 s m #[(.int p0)] below meth c s₁ [] 0 0 := Stand.of_body Bd
  have e0 : s₁.heap = h0 := by rw [← hh, Bd.state]; rfl
  have efx : entryFrame m #[(.int p0)] 1 = mkF m 0 #[.val (.int p0)] [] := by first | (simp [entryFrame, mkF, argsToLocals, Value.category]; done) | rfl
  have N0 := Fr.nil n0
  have K0 : Keep h0 h0 [] := Keep.refl h0 _
  refine OGo.start (g' := mkF m 0 #[.val (.int p0)] []) (efx) ?_
  show OGo p.tables e below (P39 Z p0 h0 n0 s) (s₁.setTop (mkF m 0 #[.val (.int p0)] []))
  refine og (s₁.setTop (mkF m 12 #[.val (.int p0)] [])) ?_ (fun tX kX => XS.iloadN X0.here hx rfl (hb hby d39_0) rfl (X0.ldcInt hx hown (mvT hZ (oW hw 187 rfl)) (g := (mkF m 1 #[.val (.int p0)] [(.int p0)])) rfl (hb hby d39_1) _ (XS.icmpNo X0.here hx rfl (hb hby d39_3) rfl (flt hq1).1 (XS.iloadN X0.here hx rfl (hb hby d39_6) rfl (X0.ldcInt hx hown (mvT hZ (oW hw 188 rfl)) (g := (mkF m 7 #[.val (.int p0)] [(.int p0)])) rfl (hb hby d39_7) _ (XS.icmpNo X0.here hx rfl (hb hby d39_9) rfl (tlt hq2).2.1 kX))))))
  refine og (s₁.setTop (mkF m 17 #[.val (.int p0)] [(.int 1)])) ?_ (fun tX kX => XS.iconst X0.here hx rfl (hb hby d39_12) (XS.goto X0.here hx rfl (pc0 := 13) (pc' := 17) rfl (hb hby d39_13) (by decide) (by decide) kX))
  refine OGo.ret X0 (v := (some (.int 1))) (fun h => by rw [Bd.returns] at h; cases h) (BodyLoose.notSynchronized Bd) (fun fs hr => retN X0 hx (t := .boolean) (z := (1 : Int32)) Bd.returns (by simp) (hb hby d39_17) hr) (Q := Q39 Z p0 h0 n0) ?_ (by decide) (by decide)
  show Q39 Z p0 h0 n0 _ s₁.heap _
  rw [e0]
  exact ⟨rfl, N0, rfl⟩
theorem d18_0 : oD18 0 (.iload_n 0) 1 := by decide +kernel
theorem d18_1 : oD18 1 (.iload_n 1) 1 := by decide +kernel
theorem d18_2 : oD18 2 (.if_icmp .gt 7) 3 := by decide +kernel
theorem d18_9 : oD18 9 (.iload_n 1) 1 := by decide +kernel
theorem d18_10 : oD18 10 .ireturn 1 := by decide +kernel
def Q18 (Z : State) (p0 : Int32) (p1 : Int32) (h0 : Heap) (n0 : Nat) (v : Option Value) (h : Heap) (L : List Loc) : Prop := v = some (.int p1) ∧ Fr n0 L ∧ h = h0
def P18 (Z : State) (p0 : Int32) (p1 : Int32) (h0 : Heap) (n0 : Nat) (s : State) (o : Outcome) (U' : State) : Prop := ∃ v L, o = .returned v ∧ Q18 Z p0 p1 h0 n0 v U'.heap L ∧ FrameEnd s o U' L oR0.cells oR0.slots
set_option maxRecDepth 65536 in
set_option maxHeartbeats 40000000 in
theorem rm18 (l : Launch) (Z : State) (aV : Array Value) (hw : ∀ d ∈ tables_1, d.before aV Z = true) (ws : List Jvm.Cond) (p0 : Int32) (p1 : Int32) (h0 : Heap) (n0 : Nat) (Z0 : n0 ≤ h0.size) (hm : p1 < p0) :
    MetFree l oM13 (head1 (Jvm.Cond.code oM13 jdk_29_method_69_code 2 (some .int) :: ws) oR0) (fun a U => a = #[(.int p0), (.int p1)] ∧ Z.Warmed39 U.vm ∧ U.heap = h0) (fun _ _ _ _ _ => True) (fun _ U o U' => ∃ v L, o = .returned v ∧ Q18 Z p0 p1 h0 n0 v U'.heap L ∧ FrameEnd U o U' L oR0.cells oR0.slots) := by
  refine MetFree.of_bodySF (Jvm.Free.JP.mathPlain rfl (by decide +kernel)) hisR ?_
  intro p e s m args below meth c s₁ Bd hml0 hP hK
  obtain ⟨rfl, hZ, hh⟩ := hP
  have hx := Bd.exec
  have hby := Bd.bytes
  have hml : c.maxLocals = 2 := hml0
  have hown : s.vm.findClass "java/lang/Math" = some m.cls := findClass_of_methodNamed Bd.named
  have hnm := (name_of_methodNamed Bd.named Bd.method).1
  have X0 : Stand p l e oR0 s m #[(.int p0), (.int p1)] below meth c s₁ [] 0 0 := Stand.of_body Bd
  have e0 : s₁.heap = h0 := by rw [← hh, Bd.state]; rfl
  have efx : entryFrame m #[(.int p0), (.int p1)] 2 = mkF m 0 #[.val (.int p0), .val (.int p1)] [] := by first | (simp [entryFrame, mkF, argsToLocals, Value.category]; done) | rfl
  have N0 := Fr.nil n0
  have K0 : Keep h0 h0 [] := Keep.refl h0 _
  refine OGo.start (g' := mkF m 0 #[.val (.int p0), .val (.int p1)] []) (efx) ?_
  show OGo p.tables e below (P18 Z p0 p1 h0 n0 s) (s₁.setTop (mkF m 0 #[.val (.int p0), .val (.int p1)] []))
  refine og (s₁.setTop (mkF m 10 #[.val (.int p0), .val (.int p1)] [(.int p1)])) ?_ (fun tX kX => XS.iloadN X0.here hx rfl (hb hby d18_0) rfl (XS.iloadN X0.here hx rfl (hb hby d18_1) rfl (XS.icmpYes X0.here hx rfl (pc0 := 2) (pc' := 9) rfl (hb hby d18_2) rfl (tlt hm).2.2.1 (by decide) (by decide) (XS.iloadN X0.here hx rfl (hb hby d18_9) rfl kX))))
  refine OGo.ret X0 (v := (some (.int p1))) (fun h => by rw [Bd.returns] at h; cases h) (BodyLoose.notSynchronized Bd) (fun fs hr => retOut X0 hx Bd.returns rfl (Or.inl ⟨rfl, Or.inl rfl, _, rfl⟩) (hb hby d18_10) hr) (Q := Q18 Z p0 p1 h0 n0) ?_ (by decide) (by decide)
  show Q18 Z p0 p1 h0 n0 _ s₁.heap _
  rw [e0]
  exact ⟨rfl, N0, rfl⟩
theorem d10_0 : oD10 0 (.getstatic 38) 3 := by decide +kernel
theorem d10_3 : oD10 3 (.ifCond .eq 10) 3 := by decide +kernel
theorem d10_6 : oD10 6 (.aload_n 0) 1 := by decide +kernel
theorem d10_7 : oD10 7 (.getfield 15) 3 := by decide +kernel
theorem d10_10 : oD10 10 (.goto 4) 3 := by decide +kernel
theorem d10_14 : oD10 14 .ireturn 1 := by decide +kernel
def Q10 (Z : State) (a0 : Addr) (cd : Int32) (cs : Int32) (h0 : Heap) (n0 : Nat) (v : Option Value) (h : Heap) (L : List Loc) : Prop := v = some (.int cd) ∧ Fr n0 L ∧ h = h0
def P10 (Z : State) (a0 : Addr) (cd : Int32) (cs : Int32) (h0 : Heap) (n0 : Nat) (s : State) (o : Outcome) (U' : State) : Prop := ∃ v L, o = .returned v ∧ Q10 Z a0 cd cs h0 n0 v U'.heap L ∧ FrameEnd s o U' L oR0.cells oR0.slots
set_option maxRecDepth 65536 in
set_option maxHeartbeats 40000000 in
theorem rm10 (l : Launch) (Z : State) (aV : Array Value) (hw : ∀ d ∈ tables_1, d.before aV Z = true) (ws : List Jvm.Cond) (a0 : Addr) (cd : Int32) (cs : Int32) (h0 : Heap) (n0 : Nat) (Z0 : n0 ≤ h0.size) (F_coder_a0 : Fld Z h0 a0 "java/lang/String" "coder" "B" (.int cd)) (S_COMPACT_STRINGS : Sta Z h0 "java/lang/String" "COMPACT_STRINGS" "Z" (.int cs)) (hcs : ¬ cs = 0) (hcd : (cd.toInt8.toInt32) = cd) :
    MetFree l oM14 (head1 (Jvm.Cond.code oM14 jdk_42_method_152_code 1 (some .byte) :: ws) oR0) (fun a U => a = #[(.ref a0)] ∧ Z.Warmed39 U.vm ∧ U.heap = h0) (fun _ _ _ _ _ => True) (fun _ U o U' => ∃ v L, o = .returned v ∧ Q10 Z a0 cd cs h0 n0 v U'.heap L ∧ FrameEnd U o U' L oR0.cells oR0.slots) := by
  refine MetFree.of_bodySF (plainFor_of_name pn_java_lang_String) hisR ?_
  intro p e s m args below meth c s₁ Bd hml0 hP hK
  obtain ⟨rfl, hZ, hh⟩ := hP
  have hx := Bd.exec
  have hby := Bd.bytes
  have hml : c.maxLocals = 1 := hml0
  have hown : s.vm.findClass "java/lang/String" = some m.cls := findClass_of_methodNamed Bd.named
  have hnm := (name_of_methodNamed Bd.named Bd.method).1
  have X0 : Stand p l e oR0 s m #[(.ref a0)] below meth c s₁ [] 0 0 := Stand.of_body Bd
  have e0 : s₁.heap = h0 := by rw [← hh, Bd.state]; rfl
  have efx : entryFrame m #[(.ref a0)] 1 = mkF m 0 #[.val (.ref a0)] [] := by first | (simp [entryFrame, mkF, argsToLocals, Value.category]; done) | rfl
  have N0 := Fr.nil n0
  have K0 : Keep h0 h0 [] := Keep.refl h0 _
  refine OGo.start (g' := mkF m 0 #[.val (.ref a0)] []) (efx) ?_
  show OGo p.tables e below (P10 Z a0 cd cs h0 n0 s) (s₁.setTop (mkF m 0 #[.val (.ref a0)] []))
  obtain ⟨T1, X1, e1, st1⟩ := getS2 X0 hx hZ hown (host := "") (Or.inl (oW hw 30 rfl)) Via.refl e0 S_COMPACT_STRINGS (g := (mkF m 0 #[.val (.ref a0)] [])) rfl (hb hby d10_0)
  refine og (T1.setTop (mkF m 3 #[.val (.ref a0)] [(.int cs)])) ?_ st1
  refine og (T1.setTop (mkF m 7 #[.val (.ref a0)] [(.ref a0)])) ?_ (fun tX kX => XS.ifNo X1.here hx rfl (hb hby d10_3) rfl ((if0 _ _).trans (feq hcs).1) (XS.aloadN X1.here hx rfl (hb hby d10_6) rfl rfl kX))
  obtain ⟨T2, X2, e2, st2⟩ := getF X1 hx hZ hown (host := "") (Or.inl (oW hw 50 rfl)) Via.refl e1 F_coder_a0 (g := (mkF m 7 #[.val (.ref a0)] [(.ref a0)])) rfl rfl (hb hby d10_7)
  refine og (T2.setTop (mkF m 10 #[.val (.ref a0)] [(.int cd)])) ?_ st2
  refine og (T2.setTop (mkF m 14 #[.val (.ref a0)] [(.int cd)])) ?_ (fun tX kX => XS.goto X2.here hx rfl (pc0 := 10) (pc' := 14) rfl (hb hby d10_10) (by decide) (by decide) kX)
  refine OGo.ret X2 (v := (some (.int (cd.toInt8.toInt32)))) (fun h => by rw [Bd.returns] at h; cases h) (BodyLoose.notSynchronized Bd) (fun fs hr => retN X2 hx (t := .byte) (z := cd) Bd.returns (by simp) (hb hby d10_14) hr) (Q := Q10 Z a0 cd cs h0 n0) ?_ (by decide) (by decide)
  show Q10 Z a0 cd cs h0 n0 _ T2.heap _
  rw [e2]
  exact ⟨(congrArg (fun z => some (Value.int z)) hcd), N0, rfl⟩
theorem d9_0 : oD9 0 (.aload_n 0) 1 := by decide +kernel
theorem d9_1 : oD9 1 (.getfield 9) 3 := by decide +kernel
theorem d9_4 : oD9 4 .arraylength 1 := by decide +kernel
theorem d9_5 : oD9 5 (.aload_n 0) 1 := by decide +kernel
theorem d9_6 : oD9 6 (.invokevirtual 335) 3 := by decide +kernel
theorem pd___B : parseMethodDescriptor "()B" = some ⟨[], some .byte⟩ := by decide +kernel
theorem d9_9 : oD9 9 .ishr 1 := by decide +kernel
theorem d9_10 : oD9 10 .ireturn 1 := by decide +kernel
def Q9 (Z : State) (a0 : Addr) (vb : Addr) (kb : ClassId) (nn : Int32) (vs : List Value) (cd : Int32) (cs : Int32) (h0 : Heap) (n0 : Nat) (v : Option Value) (h : Heap) (L : List Loc) : Prop := v = some (.int (nn >>> (cd &&& 31))) ∧ Fr n0 L ∧ h = h0
def P9 (Z : State) (a0 : Addr) (vb : Addr) (kb : ClassId) (nn : Int32) (vs : List Value) (cd : Int32) (cs : Int32) (h0 : Heap) (n0 : Nat) (s : State) (o : Outcome) (U' : State) : Prop := ∃ v L, o = .returned v ∧ Q9 Z a0 vb kb nn vs cd cs h0 n0 v U'.heap L ∧ FrameEnd s o U' L oR1.cells oR1.slots
set_option maxRecDepth 65536 in
set_option maxHeartbeats 40000000 in
theorem rm9 (l : Launch) (Z : State) (aV : Array Value) (hw : ∀ d ∈ tables_1, d.before aV Z = true) (ws : List Jvm.Cond) (a0 : Addr) (vb : Addr) (kb : ClassId) (nn : Int32) (vs : List Value) (cd : Int32) (cs : Int32) (h0 : Heap) (n0 : Nat) (Z0 : n0 ≤ h0.size) (E_a0 : Exa Z h0 a0 "java/lang/String") (F_value_a0 : Fld Z h0 a0 "java/lang/String" "value" "[B" (.ref vb)) (F_coder_a0 : Fld Z h0 a0 "java/lang/String" "coder" "B" (.int cd)) (V_vb : Arv Z h0 vb kb .byte nn vs (.int 0)) (S_COMPACT_STRINGS : Sta Z h0 "java/lang/String" "COMPACT_STRINGS" "Z" (.int cs)) (hcs : ¬ cs = 0) (hcd : (cd.toInt8.toInt32) = cd) :
    MetFree l oM15 (head1 (Jvm.Cond.code oM15 jdk_42_method_54_code 1 (some .int) :: ws) oR1) (fun a U => a = #[(.ref a0)] ∧ Z.Warmed39 U.vm ∧ U.heap = h0) (fun _ _ _ _ _ => True) (fun _ U o U' => ∃ v L, o = .returned v ∧ Q9 Z a0 vb kb nn vs cd cs h0 n0 v U'.heap L ∧ FrameEnd U o U' L oR1.cells oR1.slots) := by
  refine MetFree.of_bodySF (plainFor_of_name pn_java_lang_String) hisR ?_
  intro p e s m args below meth c s₁ Bd hml0 hP hK
  obtain ⟨rfl, hZ, hh⟩ := hP
  have hx := Bd.exec
  have hby := Bd.bytes
  have hml : c.maxLocals = 1 := hml0
  have hown : s.vm.findClass "java/lang/String" = some m.cls := findClass_of_methodNamed Bd.named
  have hnm := (name_of_methodNamed Bd.named Bd.method).1
  have X0 : Stand p l e oR1 s m #[(.ref a0)] below meth c s₁ [] 0 0 := Stand.of_body Bd
  have e0 : s₁.heap = h0 := by rw [← hh, Bd.state]; rfl
  have efx : entryFrame m #[(.ref a0)] 1 = mkF m 0 #[.val (.ref a0)] [] := by first | (simp [entryFrame, mkF, argsToLocals, Value.category]; done) | rfl
  have N0 := Fr.nil n0
  have K0 : Keep h0 h0 [] := Keep.refl h0 _
  refine OGo.start (g' := mkF m 0 #[.val (.ref a0)] []) (efx) ?_
  show OGo p.tables e below (P9 Z a0 vb kb nn vs cd cs h0 n0 s) (s₁.setTop (mkF m 0 #[.val (.ref a0)] []))
  refine og (s₁.setTop (mkF m 1 #[.val (.ref a0)] [(.ref a0)])) ?_ (fun tX kX => XS.aloadN X0.here hx rfl (hb hby d9_0) rfl rfl kX)
  obtain ⟨T1, X1, e1, st1⟩ := getF X0 hx hZ hown (host := "") (Or.inl (oW hw 48 rfl)) Via.refl e0 F_value_a0 (g := (mkF m 1 #[.val (.ref a0)] [(.ref a0)])) rfl rfl (hb hby d9_1)
  refine og (T1.setTop (mkF m 4 #[.val (.ref a0)] [(.ref vb)])) ?_ st1
  obtain ⟨cl2, Ar2, qa2, S2, N2', H2, G2⟩ := id V_vb
  refine OGo.go (B := T1.setTop (mkF m 5 #[.val (.ref a0)] [(.int nn)])) ?_ (fun tX kX => X1.arraylength hx (by rw [e1]; exact Ar2.1) (State.isArrayOf_alike hZ.alike Ar2.2.1) (g := (mkF m 4 #[.val (.ref a0)] [(.ref vb)])) rfl rfl (hb hby d9_4) _ (by rw [len_of S2 N2']; exact kX))
  refine og (T1.setTop (mkF m 6 #[.val (.ref a0)] [(.ref a0), (.int nn)])) ?_ (fun tX kX => XS.aloadN X1.here hx rfl (hb hby d9_5) rfl rfl kX)
  obtain ⟨cq3, kq3, q3a, q3b, q3c⟩ := isOf hZ e1 E_a0
  obtain ⟨_, _, ⟨T3, L3, k3, n3⟩, -, X3, ⟨Lc3, hQ3, l3, y3, z3⟩, st3⟩ := X1.virtualBack hx (y := oM14) (z := oM14) hown (mvT hZ (oW hw 61 rfl)) (mvT hZ (oW hw 62 rfl)) (notFace_of_selects (args := #[]) (mvT hZ (oW hw 64 rfl))) (mvT hZ (oW hw 64 rfl)) (mvT hZ (oW hw 63 rfl)) (by decide) (backOf (W := 1) (rm10 l Z aV hw [] a0 cd cs h0 n0 Z0 F_coder_a0 S_COMPACT_STRINGS hcs hcd) hZ (oW hw 65 rfl) (oW hw 9 rfl) (by decide) (by decide)) q3a q3c (g := (mkF m 6 #[.val (.ref a0)] [(.ref a0), (.int nn)])) rfl (by rw [hml]; rfl) (Steps.refl _) (argsL := []) (rest := [(.int nn)]) (lenOf pd___B rfl) rfl (by show 2 * 0 + _ ≤ _; exact Nat.le_of_eq rfl) (hb hby d9_6) (fun _ _ => ⟨rfl, e1, (by decide : 0 + 0 ≤ _), (by decide : 0 + 0 ≤ _)⟩)
  dsimp only [Pt.U, Pt.locs, Pt.cells, Pt.slots] at X3 l3 y3 z3 st3 hQ3
  subst l3 y3 z3
  obtain ⟨rfl, N3q, e3⟩ := hQ3
  have N3 := Fr.app N0 N3q
  refine og (T3.setTop (mkF m 9 #[.val (.ref a0)] [(.int cd), (.int nn)])) ?_ (fun tX kX => st3.trans kX)
  refine og (T3.setTop (mkF m 10 #[.val (.ref a0)] [(.int (nn >>> (cd &&& 31)))])) ?_ (fun tX kX => XS.ishr X3.here hx rfl (hb hby d9_9) rfl kX)
  refine OGo.ret X3 (v := (some (.int (nn >>> (cd &&& 31))))) (fun h => by rw [Bd.returns] at h; cases h) (BodyLoose.notSynchronized Bd) (fun fs hr => retOut X3 hx Bd.returns rfl (Or.inl ⟨rfl, Or.inl rfl, _, rfl⟩) (hb hby d9_10) hr) (Q := Q9 Z a0 vb kb nn vs cd cs h0 n0) ?_ (by decide) (by decide)
  show Q9 Z a0 vb kb nn vs cd cs h0 n0 _ T3.heap _
  rw [e3]
  exact ⟨rfl, N3, rfl⟩
theorem d12_0 : oD12 0 (.getstatic 38) 3 := by decide +kernel
theorem d12_3 : oD12 3 (.ifCond .eq 14) 3 := by decide +kernel
theorem d12_6 : oD12 6 (.aload_n 0) 1 := by decide +kernel
theorem d12_7 : oD12 7 (.getfield 15) 3 := by decide +kernel
theorem d12_10 : oD12 10 (.ifCond .ne 7) 3 := by decide +kernel
theorem d12_13 : oD12 13 (.iconst 1) 1 := by decide +kernel
theorem d12_14 : oD12 14 (.goto 4) 3 := by decide +kernel
theorem d12_18 : oD12 18 .ireturn 1 := by decide +kernel
def Q12k0 (Z : State) (a0 : Addr) (cs : Int32) (h0 : Heap) (n0 : Nat) (v : Option Value) (h : Heap) (L : List Loc) : Prop := v = some (.int 1) ∧ Fr n0 L ∧ h = h0
def P12k0 (Z : State) (a0 : Addr) (cs : Int32) (h0 : Heap) (n0 : Nat) (s : State) (o : Outcome) (U' : State) : Prop := ∃ v L, o = .returned v ∧ Q12k0 Z a0 cs h0 n0 v U'.heap L ∧ FrameEnd s o U' L oR0.cells oR0.slots
set_option maxRecDepth 65536 in
set_option maxHeartbeats 40000000 in
theorem rm12k0 (l : Launch) (Z : State) (aV : Array Value) (hw : ∀ d ∈ tables_1, d.before aV Z = true) (ws : List Jvm.Cond) (a0 : Addr) (cs : Int32) (h0 : Heap) (n0 : Nat) (Z0 : n0 ≤ h0.size) (F_coder_a0 : Fld Z h0 a0 "java/lang/String" "coder" "B" (.int 0)) (S_COMPACT_STRINGS : Sta Z h0 "java/lang/String" "COMPACT_STRINGS" "Z" (.int cs)) (hcs : ¬ cs = 0) :
    MetFree l oM16 (head1 (Jvm.Cond.code oM16 jdk_42_method_154_code 1 (some .boolean) :: ws) oR0) (fun a U => a = #[(.ref a0)] ∧ Z.Warmed39 U.vm ∧ U.heap = h0) (fun _ _ _ _ _ => True) (fun _ U o U' => ∃ v L, o = .returned v ∧ Q12k0 Z a0 cs h0 n0 v U'.heap L ∧ FrameEnd U o U' L oR0.cells oR0.slots) := by
  refine MetFree.of_bodySF (plainFor_of_name pn_java_lang_String) hisR ?_
  intro p e s m args below meth c s₁ Bd hml0 hP hK
  obtain ⟨rfl, hZ, hh⟩ := hP
  have hx := Bd.exec
  have hby := Bd.bytes
  have hml : c.maxLocals = 1 := hml0
  have hown : s.vm.findClass "java/lang/String" = some m.cls := findClass_of_methodNamed Bd.named
  have hnm := (name_of_methodNamed Bd.named Bd.method).1
  have X0 : Stand p l e oR0 s m #[(.ref a0)] below meth c s₁ [] 0 0 := Stand.of_body Bd
  have e0 : s₁.heap = h0 := by rw [← hh, Bd.state]; rfl
  have efx : entryFrame m #[(.ref a0)] 1 = mkF m 0 #[.val (.ref a0)] [] := by first | (simp [entryFrame, mkF, argsToLocals, Value.category]; done) | rfl
  have N0 := Fr.nil n0
  have K0 : Keep h0 h0 [] := Keep.refl h0 _
  refine OGo.start (g' := mkF m 0 #[.val (.ref a0)] []) (efx) ?_
  show OGo p.tables e below (P12k0 Z a0 cs h0 n0 s) (s₁.setTop (mkF m 0 #[.val (.ref a0)] []))
  obtain ⟨T1, X1, e1, st1⟩ := getS2 X0 hx hZ hown (host := "") (Or.inl (oW hw 30 rfl)) Via.refl e0 S_COMPACT_STRINGS (g := (mkF m 0 #[.val (.ref a0)] [])) rfl (hb hby d12_0)
  refine og (T1.setTop (mkF m 3 #[.val (.ref a0)] [(.int cs)])) ?_ st1
  refine og (T1.setTop (mkF m 7 #[.val (.ref a0)] [(.ref a0)])) ?_ (fun tX kX => XS.ifNo X1.here hx rfl (hb hby d12_3) rfl ((if0 _ _).trans (feq hcs).1) (XS.aloadN X1.here hx rfl (hb hby d12_6) rfl rfl kX))
  obtain ⟨T2, X2, e2, st2⟩ := getF X1 hx hZ hown (host := "") (Or.inl (oW hw 50 rfl)) Via.refl e1 F_coder_a0 (g := (mkF m 7 #[.val (.ref a0)] [(.ref a0)])) rfl rfl (hb hby d12_7)
  refine og (T2.setTop (mkF m 10 #[.val (.ref a0)] [(.int 0)])) ?_ st2
  refine og (T2.setTop (mkF m 18 #[.val (.ref a0)] [(.int 1)])) ?_ (fun tX kX => XS.ifNo X2.here hx rfl (hb hby d12_10) rfl ((if0 _ _).trans (teq (by decide)).2) (XS.iconst X2.here hx rfl (hb hby d12_13) (XS.goto X2.here hx rfl (pc0 := 14) (pc' := 18) rfl (hb hby d12_14) (by decide) (by decide) kX)))
  refine OGo.ret X2 (v := (some (.int 1))) (fun h => by rw [Bd.returns] at h; cases h) (BodyLoose.notSynchronized Bd) (fun fs hr => retN X2 hx (t := .boolean) (z := (1 : Int32)) Bd.returns (by simp) (hb hby d12_18) hr) (Q := Q12k0 Z a0 cs h0 n0) ?_ (by decide) (by decide)
  show Q12k0 Z a0 cs h0 n0 _ T2.heap _
  rw [e2]
  exact ⟨rfl, N0, rfl⟩
theorem d12_17 : oD12 17 (.iconst 0) 1 := by decide +kernel
def Q12k1 (Z : State) (a0 : Addr) (cs : Int32) (h0 : Heap) (n0 : Nat) (v : Option Value) (h : Heap) (L : List Loc) : Prop := v = some (.int 0) ∧ Fr n0 L ∧ h = h0
def P12k1 (Z : State) (a0 : Addr) (cs : Int32) (h0 : Heap) (n0 : Nat) (s : State) (o : Outcome) (U' : State) : Prop := ∃ v L, o = .returned v ∧ Q12k1 Z a0 cs h0 n0 v U'.heap L ∧ FrameEnd s o U' L oR0.cells oR0.slots
set_option maxRecDepth 65536 in
set_option maxHeartbeats 40000000 in
theorem rm12k1 (l : Launch) (Z : State) (aV : Array Value) (hw : ∀ d ∈ tables_1, d.before aV Z = true) (ws : List Jvm.Cond) (a0 : Addr) (cs : Int32) (h0 : Heap) (n0 : Nat) (Z0 : n0 ≤ h0.size) (F_coder_a0 : Fld Z h0 a0 "java/lang/String" "coder" "B" (.int 1)) (S_COMPACT_STRINGS : Sta Z h0 "java/lang/String" "COMPACT_STRINGS" "Z" (.int cs)) (hcs : ¬ cs = 0) :
    MetFree l oM16 (head1 (Jvm.Cond.code oM16 jdk_42_method_154_code 1 (some .boolean) :: ws) oR0) (fun a U => a = #[(.ref a0)] ∧ Z.Warmed39 U.vm ∧ U.heap = h0) (fun _ _ _ _ _ => True) (fun _ U o U' => ∃ v L, o = .returned v ∧ Q12k1 Z a0 cs h0 n0 v U'.heap L ∧ FrameEnd U o U' L oR0.cells oR0.slots) := by
  refine MetFree.of_bodySF (plainFor_of_name pn_java_lang_String) hisR ?_
  intro p e s m args below meth c s₁ Bd hml0 hP hK
  obtain ⟨rfl, hZ, hh⟩ := hP
  have hx := Bd.exec
  have hby := Bd.bytes
  have hml : c.maxLocals = 1 := hml0
  have hown : s.vm.findClass "java/lang/String" = some m.cls := findClass_of_methodNamed Bd.named
  have hnm := (name_of_methodNamed Bd.named Bd.method).1
  have X0 : Stand p l e oR0 s m #[(.ref a0)] below meth c s₁ [] 0 0 := Stand.of_body Bd
  have e0 : s₁.heap = h0 := by rw [← hh, Bd.state]; rfl
  have efx : entryFrame m #[(.ref a0)] 1 = mkF m 0 #[.val (.ref a0)] [] := by first | (simp [entryFrame, mkF, argsToLocals, Value.category]; done) | rfl
  have N0 := Fr.nil n0
  have K0 : Keep h0 h0 [] := Keep.refl h0 _
  refine OGo.start (g' := mkF m 0 #[.val (.ref a0)] []) (efx) ?_
  show OGo p.tables e below (P12k1 Z a0 cs h0 n0 s) (s₁.setTop (mkF m 0 #[.val (.ref a0)] []))
  obtain ⟨T1, X1, e1, st1⟩ := getS2 X0 hx hZ hown (host := "") (Or.inl (oW hw 30 rfl)) Via.refl e0 S_COMPACT_STRINGS (g := (mkF m 0 #[.val (.ref a0)] [])) rfl (hb hby d12_0)
  refine og (T1.setTop (mkF m 3 #[.val (.ref a0)] [(.int cs)])) ?_ st1
  refine og (T1.setTop (mkF m 7 #[.val (.ref a0)] [(.ref a0)])) ?_ (fun tX kX => XS.ifNo X1.here hx rfl (hb hby d12_3) rfl ((if0 _ _).trans (feq hcs).1) (XS.aloadN X1.here hx rfl (hb hby d12_6) rfl rfl kX))
  obtain ⟨T2, X2, e2, st2⟩ := getF X1 hx hZ hown (host := "") (Or.inl (oW hw 50 rfl)) Via.refl e1 F_coder_a0 (g := (mkF m 7 #[.val (.ref a0)] [(.ref a0)])) rfl rfl (hb hby d12_7)
  refine og (T2.setTop (mkF m 10 #[.val (.ref a0)] [(.int 1)])) ?_ st2
  refine og (T2.setTop (mkF m 18 #[.val (.ref a0)] [(.int 0)])) ?_ (fun tX kX => XS.ifYes X2.here hx rfl (pc0 := 10) (pc' := 17) rfl (hb hby d12_10) rfl ((if0 _ _).trans (feq (by decide)).2) (by decide) (by decide) (XS.iconst X2.here hx rfl (hb hby d12_17) kX))
  refine OGo.ret X2 (v := (some (.int 0))) (fun h => by rw [Bd.returns] at h; cases h) (BodyLoose.notSynchronized Bd) (fun fs hr => retN X2 hx (t := .boolean) (z := (0 : Int32)) Bd.returns (by simp) (hb hby d12_18) hr) (Q := Q12k1 Z a0 cs h0 n0) ?_ (by decide) (by decide)
  show Q12k1 Z a0 cs h0 n0 _ T2.heap _
  rw [e2]
  exact ⟨rfl, N0, rfl⟩
theorem d35_0 : oD35 0 (.aload_n 0) 1 := by decide +kernel
theorem d35_1 : oD35 1 (.getfield 9) 3 := by decide +kernel
theorem d35_4 : oD35 4 .arraylength 1 := by decide +kernel
theorem d35_5 : oD35 5 (.ifCond .ne 7) 3 := by decide +kernel
theorem d35_8 : oD35 8 (.iconst 1) 1 := by decide +kernel
theorem d35_9 : oD35 9 (.goto 4) 3 := by decide +kernel
theorem d35_13 : oD35 13 .ireturn 1 := by decide +kernel
def Q35 (Z : State) (a0 : Addr) (vb : Addr) (kb : ClassId) (h0 : Heap) (n0 : Nat) (v : Option Value) (h : Heap) (L : List Loc) : Prop := v = some (.int 1) ∧ Fr n0 L ∧ h = h0
def P35 (Z : State) (a0 : Addr) (vb : Addr) (kb : ClassId) (h0 : Heap) (n0 : Nat) (s : State) (o : Outcome) (U' : State) : Prop := ∃ v L, o = .returned v ∧ Q35 Z a0 vb kb h0 n0 v U'.heap L ∧ FrameEnd s o U' L oR0.cells oR0.slots
set_option maxRecDepth 65536 in
set_option maxHeartbeats 40000000 in
theorem rm35 (l : Launch) (Z : State) (aV : Array Value) (hw : ∀ d ∈ tables_1, d.before aV Z = true) (ws : List Jvm.Cond) (a0 : Addr) (vb : Addr) (kb : ClassId) (h0 : Heap) (n0 : Nat) (Z0 : n0 ≤ h0.size) (E_a0 : Exa Z h0 a0 "java/lang/String") (F_value_a0 : Fld Z h0 a0 "java/lang/String" "value" "[B" (.ref vb)) (F_coder_a0 : Fld Z h0 a0 "java/lang/String" "coder" "B" (.int 0)) (V_vb : Arv Z h0 vb kb .byte (0 : Int32) [] (.int 0)) :
    MetFree l oM17 (head1 (Jvm.Cond.code oM17 jdk_42_method_55_code 1 (some .boolean) :: ws) oR0) (fun a U => a = #[(.ref a0)] ∧ Z.Warmed39 U.vm ∧ U.heap = h0) (fun _ _ _ _ _ => True) (fun _ U o U' => ∃ v L, o = .returned v ∧ Q35 Z a0 vb kb h0 n0 v U'.heap L ∧ FrameEnd U o U' L oR0.cells oR0.slots) := by
  refine MetFree.of_bodySF (plainFor_of_name pn_java_lang_String) hisR ?_
  intro p e s m args below meth c s₁ Bd hml0 hP hK
  obtain ⟨rfl, hZ, hh⟩ := hP
  have hx := Bd.exec
  have hby := Bd.bytes
  have hml : c.maxLocals = 1 := hml0
  have hown : s.vm.findClass "java/lang/String" = some m.cls := findClass_of_methodNamed Bd.named
  have hnm := (name_of_methodNamed Bd.named Bd.method).1
  have X0 : Stand p l e oR0 s m #[(.ref a0)] below meth c s₁ [] 0 0 := Stand.of_body Bd
  have e0 : s₁.heap = h0 := by rw [← hh, Bd.state]; rfl
  have efx : entryFrame m #[(.ref a0)] 1 = mkF m 0 #[.val (.ref a0)] [] := by first | (simp [entryFrame, mkF, argsToLocals, Value.category]; done) | rfl
  have N0 := Fr.nil n0
  have K0 : Keep h0 h0 [] := Keep.refl h0 _
  refine OGo.start (g' := mkF m 0 #[.val (.ref a0)] []) (efx) ?_
  show OGo p.tables e below (P35 Z a0 vb kb h0 n0 s) (s₁.setTop (mkF m 0 #[.val (.ref a0)] []))
  refine og (s₁.setTop (mkF m 1 #[.val (.ref a0)] [(.ref a0)])) ?_ (fun tX kX => XS.aloadN X0.here hx rfl (hb hby d35_0) rfl rfl kX)
  obtain ⟨T1, X1, e1, st1⟩ := getF X0 hx hZ hown (host := "") (Or.inl (oW hw 48 rfl)) Via.refl e0 F_value_a0 (g := (mkF m 1 #[.val (.ref a0)] [(.ref a0)])) rfl rfl (hb hby d35_1)
  refine og (T1.setTop (mkF m 4 #[.val (.ref a0)] [(.ref vb)])) ?_ st1
  obtain ⟨cl2, Ar2, qa2, S2, N2', H2, G2⟩ := id V_vb
  refine OGo.go (B := T1.setTop (mkF m 5 #[.val (.ref a0)] [(.int 0)])) ?_ (fun tX kX => X1.arraylength hx (by rw [e1]; exact Ar2.1) (State.isArrayOf_alike hZ.alike Ar2.2.1) (g := (mkF m 4 #[.val (.ref a0)] [(.ref vb)])) rfl rfl (hb hby d35_4) _ (by rw [len_of S2 N2']; exact kX))
  refine og (T1.setTop (mkF m 13 #[.val (.ref a0)] [(.int 1)])) ?_ (fun tX kX => XS.ifNo X1.here hx rfl (hb hby d35_5) rfl ((if0 _ _).trans (teq (by decide)).2) (XS.iconst X1.here hx rfl (hb hby d35_8) (XS.goto X1.here hx rfl (pc0 := 9) (pc' := 13) rfl (hb hby d35_9) (by decide) (by decide) kX)))
  refine OGo.ret X1 (v := (some (.int 1))) (fun h => by rw [Bd.returns] at h; cases h) (BodyLoose.notSynchronized Bd) (fun fs hr => retN X1 hx (t := .boolean) (z := (1 : Int32)) Bd.returns (by simp) (hb hby d35_13) hr) (Q := Q35 Z a0 vb kb h0 n0) ?_ (by decide) (by decide)
  show Q35 Z a0 vb kb h0 n0 _ T1.heap _
  rw [e1]
  exact ⟨rfl, N0, rfl⟩
theorem d15_0 : oD15 0 (.iload_n 0) 1 := by decide +kernel
theorem d15_1 : oD15 1 (.ifCond .lt 8) 3 := by decide +kernel
theorem d15_4 : oD15 4 (.iload_n 0) 1 := by decide +kernel
theorem d15_5 : oD15 5 (.iload_n 1) 1 := by decide +kernel
theorem d15_6 : oD15 6 (.if_icmp .lt 10) 3 := by decide +kernel
theorem d15_16 : oD15 16 (.iload_n 0) 1 := by decide +kernel
theorem d15_17 : oD15 17 .ireturn 1 := by decide +kernel
theorem pn_jdk_internal_util_Preconditions : plainName "jdk/internal/util/Preconditions" = true := by first | (simp [plainName, overriddenIn]; done) | decide +kernel
def Q15n (Z : State) (p0 : Int32) (p1 : Int32) (h0 : Heap) (n0 : Nat) (v : Option Value) (h : Heap) (L : List Loc) : Prop := v = some (.int p0) ∧ Fr n0 L ∧ h = h0
def P15n (Z : State) (p0 : Int32) (p1 : Int32) (h0 : Heap) (n0 : Nat) (s : State) (o : Outcome) (U' : State) : Prop := ∃ v L, o = .returned v ∧ Q15n Z p0 p1 h0 n0 v U'.heap L ∧ FrameEnd s o U' L oR0.cells oR0.slots
set_option maxRecDepth 65536 in
set_option maxHeartbeats 40000000 in
theorem rm15n (l : Launch) (Z : State) (aV : Array Value) (hw : ∀ d ∈ tables_1, d.before aV Z = true) (ws : List Jvm.Cond) (p0 : Int32) (p1 : Int32) (h0 : Heap) (n0 : Nat) (Z0 : n0 ≤ h0.size) (hin : ¬ p0 < 0 ∧ p0 < p1) :
    MetFree l oM18 (head1 (Jvm.Cond.code oM18 jdk_41_method_11_code 3 (some .int) :: ws) oR0) (fun a U => a = #[(.int p0), (.int p1), .null] ∧ Z.Warmed39 U.vm ∧ U.heap = h0) (fun _ _ _ _ _ => True) (fun _ U o U' => ∃ v L, o = .returned v ∧ Q15n Z p0 p1 h0 n0 v U'.heap L ∧ FrameEnd U o U' L oR0.cells oR0.slots) := by
  refine MetFree.of_bodySF (plainFor_of_name pn_jdk_internal_util_Preconditions) hisR ?_
  intro p e s m args below meth c s₁ Bd hml0 hP hK
  obtain ⟨rfl, hZ, hh⟩ := hP
  have hx := Bd.exec
  have hby := Bd.bytes
  have hml : c.maxLocals = 3 := hml0
  have hown : s.vm.findClass "jdk/internal/util/Preconditions" = some m.cls := findClass_of_methodNamed Bd.named
  have hnm := (name_of_methodNamed Bd.named Bd.method).1
  have X0 : Stand p l e oR0 s m #[(.int p0), (.int p1), .null] below meth c s₁ [] 0 0 := Stand.of_body Bd
  have e0 : s₁.heap = h0 := by rw [← hh, Bd.state]; rfl
  have efx : entryFrame m #[(.int p0), (.int p1), .null] 3 = mkF m 0 #[.val (.int p0), .val (.int p1), .val .null] [] := by first | (simp [entryFrame, mkF, argsToLocals, Value.category]; done) | rfl
  have N0 := Fr.nil n0
  have K0 : Keep h0 h0 [] := Keep.refl h0 _
  refine OGo.start (g' := mkF m 0 #[.val (.int p0), .val (.int p1), .val .null] []) (efx) ?_
  show OGo p.tables e below (P15n Z p0 p1 h0 n0 s) (s₁.setTop (mkF m 0 #[.val (.int p0), .val (.int p1), .val .null] []))
  refine og (s₁.setTop (mkF m 17 #[.val (.int p0), .val (.int p1), .val .null] [(.int p0)])) ?_ (fun tX kX => XS.iloadN X0.here hx rfl (hb hby d15_0) rfl (XS.ifNo X0.here hx rfl (hb hby d15_1) rfl ((if0 _ _).trans (flt hin.1).1) (XS.iloadN X0.here hx rfl (hb hby d15_4) rfl (XS.iloadN X0.here hx rfl (hb hby d15_5) rfl (XS.icmpYes X0.here hx rfl (pc0 := 6) (pc' := 16) rfl (hb hby d15_6) rfl (tlt hin.2).1 (by decide) (by decide) (XS.iloadN X0.here hx rfl (hb hby d15_16) rfl kX))))))
  refine OGo.ret X0 (v := (some (.int p0))) (fun h => by rw [Bd.returns] at h; cases h) (BodyLoose.notSynchronized Bd) (fun fs hr => retOut X0 hx Bd.returns rfl (Or.inl ⟨rfl, Or.inl rfl, _, rfl⟩) (hb hby d15_17) hr) (Q := Q15n Z p0 p1 h0 n0) ?_ (by decide) (by decide)
  show Q15n Z p0 p1 h0 n0 _ s₁.heap _
  rw [e0]
  exact ⟨rfl, N0, rfl⟩
def Q15r (Z : State) (p0 : Int32) (p1 : Int32) (a2 : Addr) (h0 : Heap) (n0 : Nat) (v : Option Value) (h : Heap) (L : List Loc) : Prop := v = some (.int p0) ∧ Fr n0 L ∧ h = h0
def P15r (Z : State) (p0 : Int32) (p1 : Int32) (a2 : Addr) (h0 : Heap) (n0 : Nat) (s : State) (o : Outcome) (U' : State) : Prop := ∃ v L, o = .returned v ∧ Q15r Z p0 p1 a2 h0 n0 v U'.heap L ∧ FrameEnd s o U' L oR0.cells oR0.slots
set_option maxRecDepth 65536 in
set_option maxHeartbeats 40000000 in
theorem rm15r (l : Launch) (Z : State) (aV : Array Value) (hw : ∀ d ∈ tables_1, d.before aV Z = true) (ws : List Jvm.Cond) (p0 : Int32) (p1 : Int32) (a2 : Addr) (h0 : Heap) (n0 : Nat) (Z0 : n0 ≤ h0.size) (hin : ¬ p0 < 0 ∧ p0 < p1) :
    MetFree l oM18 (head1 (Jvm.Cond.code oM18 jdk_41_method_11_code 3 (some .int) :: ws) oR0) (fun a U => a = #[(.int p0), (.int p1), (.ref a2)] ∧ Z.Warmed39 U.vm ∧ U.heap = h0) (fun _ _ _ _ _ => True) (fun _ U o U' => ∃ v L, o = .returned v ∧ Q15r Z p0 p1 a2 h0 n0 v U'.heap L ∧ FrameEnd U o U' L oR0.cells oR0.slots) := by
  refine MetFree.of_bodySF (plainFor_of_name pn_jdk_internal_util_Preconditions) hisR ?_
  intro p e s m args below meth c s₁ Bd hml0 hP hK
  obtain ⟨rfl, hZ, hh⟩ := hP
  have hx := Bd.exec
  have hby := Bd.bytes
  have hml : c.maxLocals = 3 := hml0
  have hown : s.vm.findClass "jdk/internal/util/Preconditions" = some m.cls := findClass_of_methodNamed Bd.named
  have hnm := (name_of_methodNamed Bd.named Bd.method).1
  have X0 : Stand p l e oR0 s m #[(.int p0), (.int p1), (.ref a2)] below meth c s₁ [] 0 0 := Stand.of_body Bd
  have e0 : s₁.heap = h0 := by rw [← hh, Bd.state]; rfl
  have efx : entryFrame m #[(.int p0), (.int p1), (.ref a2)] 3 = mkF m 0 #[.val (.int p0), .val (.int p1), .val (.ref a2)] [] := by first | (simp [entryFrame, mkF, argsToLocals, Value.category]; done) | rfl
  have N0 := Fr.nil n0
  have K0 : Keep h0 h0 [] := Keep.refl h0 _
  refine OGo.start (g' := mkF m 0 #[.val (.int p0), .val (.int p1), .val (.ref a2)] []) (efx) ?_
  show OGo p.tables e below (P15r Z p0 p1 a2 h0 n0 s) (s₁.setTop (mkF m 0 #[.val (.int p0), .val (.int p1), .val (.ref a2)] []))
  refine og (s₁.setTop (mkF m 17 #[.val (.int p0), .val (.int p1), .val (.ref a2)] [(.int p0)])) ?_ (fun tX kX => XS.iloadN X0.here hx rfl (hb hby d15_0) rfl (XS.ifNo X0.here hx rfl (hb hby d15_1) rfl ((if0 _ _).trans (flt hin.1).1) (XS.iloadN X0.here hx rfl (hb hby d15_4) rfl (XS.iloadN X0.here hx rfl (hb hby d15_5) rfl (XS.icmpYes X0.here hx rfl (pc0 := 6) (pc' := 16) rfl (hb hby d15_6) rfl (tlt hin.2).1 (by decide) (by decide) (XS.iloadN X0.here hx rfl (hb hby d15_16) rfl kX))))))
  refine OGo.ret X0 (v := (some (.int p0))) (fun h => by rw [Bd.returns] at h; cases h) (BodyLoose.notSynchronized Bd) (fun fs hr => retOut X0 hx Bd.returns rfl (Or.inl ⟨rfl, Or.inl rfl, _, rfl⟩) (hb hby d15_17) hr) (Q := Q15r Z p0 p1 a2 h0 n0) ?_ (by decide) (by decide)
  show Q15r Z p0 p1 a2 h0 n0 _ s₁.heap _
  rw [e0]
  exact ⟨rfl, N0, rfl⟩
theorem d14_0 : oD14 0 (.iload_n 0) 1 := by decide +kernel
theorem d14_1 : oD14 1 (.iload_n 1) 1 := by decide +kernel
theorem d14_2 : oD14 2 (.getstatic 1053) 3 := by decide +kernel
theorem d14_5 : oD14 5 (.invokestatic 1059) 3 := by decide +kernel
theorem pd__IILjava_util_function_BiFunction__I : parseMethodDescriptor "(IILjava/util/function/BiFunction;)I" = some ⟨[.int, .int, (.object "java/util/function/BiFunction")], some .int⟩ := by decide +kernel
theorem d14_8 : oD14 8 .pop 1 := by decide +kernel
theorem d14_9 : oD14 9 .return_ 1 := by decide +kernel
def Q14 (Z : State) (p0 : Int32) (p1 : Int32) (fv : Value) (h0 : Heap) (n0 : Nat) (v : Option Value) (h : Heap) (L : List Loc) : Prop := v = none ∧ Fr n0 L ∧ h = h0
def P14 (Z : State) (p0 : Int32) (p1 : Int32) (fv : Value) (h0 : Heap) (n0 : Nat) (s : State) (o : Outcome) (U' : State) : Prop := ∃ v L, o = .returned v ∧ Q14 Z p0 p1 fv h0 n0 v U'.heap L ∧ FrameEnd s o U' L oR2.cells oR2.slots
set_option maxRecDepth 65536 in
set_option maxHeartbeats 40000000 in
theorem rm14 (l : Launch) (Z : State) (aV : Array Value) (hw : ∀ d ∈ tables_1, d.before aV Z = true) (ws : List Jvm.Cond) (p0 : Int32) (p1 : Int32) (fv : Value) (h0 : Heap) (n0 : Nat) (Z0 : n0 ≤ h0.size) (S_SIOOBE_FORMATTER : Sta Z h0 "jdk/internal/util/Preconditions" "SIOOBE_FORMATTER" "Ljava/util/function/BiFunction;" fv) (hfv : fv.isRef = true) (hin : ¬ p0 < 0 ∧ p0 < p1) :
    MetFree l oM19 (head1 (Jvm.Cond.code oM19 jdk_42_method_155_code 2 none :: ws) oR2) (fun a U => a = #[(.int p0), (.int p1)] ∧ Z.Warmed39 U.vm ∧ U.heap = h0) (fun _ _ _ _ _ => True) (fun _ U o U' => ∃ v L, o = .returned v ∧ Q14 Z p0 p1 fv h0 n0 v U'.heap L ∧ FrameEnd U o U' L oR2.cells oR2.slots) := by
  refine MetFree.of_bodySF (plainFor_of_name pn_java_lang_String) hisR ?_
  intro p e s m args below meth c s₁ Bd hml0 hP hK
  obtain ⟨rfl, hZ, hh⟩ := hP
  have hx := Bd.exec
  have hby := Bd.bytes
  have hml : c.maxLocals = 2 := hml0
  have hown : s.vm.findClass "java/lang/String" = some m.cls := findClass_of_methodNamed Bd.named
  have hnm := (name_of_methodNamed Bd.named Bd.method).1
  have X0 : Stand p l e oR2 s m #[(.int p0), (.int p1)] below meth c s₁ [] 0 0 := Stand.of_body Bd
  have e0 : s₁.heap = h0 := by rw [← hh, Bd.state]; rfl
  have efx : entryFrame m #[(.int p0), (.int p1)] 2 = mkF m 0 #[.val (.int p0), .val (.int p1)] [] := by first | (simp [entryFrame, mkF, argsToLocals, Value.category]; done) | rfl
  have N0 := Fr.nil n0
  have K0 : Keep h0 h0 [] := Keep.refl h0 _
  refine OGo.start (g' := mkF m 0 #[.val (.int p0), .val (.int p1)] []) (efx) ?_
  show OGo p.tables e below (P14 Z p0 p1 fv h0 n0 s) (s₁.setTop (mkF m 0 #[.val (.int p0), .val (.int p1)] []))
  rcases ref_cases hfv with hfe | ⟨fa, hfe⟩
  ·
    rw [hfe] at S_SIOOBE_FORMATTER
    refine og (s₁.setTop (mkF m 2 #[.val (.int p0), .val (.int p1)] [(.int p1), (.int p0)])) ?_ (fun tX kX => XS.iloadN X0.here hx rfl (hb hby d14_0) rfl (XS.iloadN X0.here hx rfl (hb hby d14_1) rfl kX))
    obtain ⟨T1, X1, e1, st1⟩ := getS2 X0 hx hZ hown (host := "") (Or.inl (oW hw 83 rfl)) Via.refl e0 S_SIOOBE_FORMATTER (g := (mkF m 2 #[.val (.int p0), .val (.int p1)] [(.int p1), (.int p0)])) rfl (hb hby d14_2)
    refine og (T1.setTop (mkF m 5 #[.val (.int p0), .val (.int p1)] [.null, (.int p1), (.int p0)])) ?_ st1
    obtain ⟨_, _, ⟨T2, L2, k2, n2⟩, -, X2, ⟨Lc2, hQ2, l2, y2, z2⟩, st2⟩ := Jvm.LawKit.callS X1 hx (y := oM18) hown (mvT hZ (oW hw 85 rfl)) (mvT hZ (oW hw 86 rfl)) (mvT hZ (oW hw 84 rfl)) (mvT hZ (oW hw 87 rfl)) (by decide) (backOf (W := 0) (rm15n l Z aV hw [] p0 p1 h0 n0 Z0 hin) hZ (oW hw 87 rfl) (oW hw 84 rfl) (by decide) (by decide)) (g := (mkF m 5 #[.val (.int p0), .val (.int p1)] [.null, (.int p1), (.int p0)])) rfl (by rw [hml]; rfl) (argsL := [(.int p0), (.int p1), .null]) (rest := []) (lenOf pd__IILjava_util_function_BiFunction__I rfl) rfl (by show 2 * 0 + _ ≤ _; exact Nat.le_of_eq rfl) (hb hby d14_5) (fun _ _ => ⟨rfl, e1, (by decide : 0 + 0 ≤ _), (by decide : 0 + 0 ≤ _)⟩)
    dsimp only [Pt.U, Pt.locs, Pt.cells, Pt.slots] at X2 l2 y2 z2 st2 hQ2
    subst l2 y2 z2
    obtain ⟨rfl, N2q, e2⟩ := hQ2
    have N2 := Fr.app N0 N2q
    refine og (T2.setTop (mkF m 8 #[.val (.int p0), .val (.int p1)] [(.int p0)])) ?_ st2
    refine og (T2.setTop (mkF m 9 #[.val (.int p0), .val (.int p1)] [])) ?_ (fun tX kX => XS.pop X2.here hx rfl (hb hby d14_8) rfl rfl kX)
    refine OGo.ret X2 (v := none) (fun _ => rfl) (BodyLoose.notSynchronized Bd) (fun fs hr => X2.returnOut hx Bd.returns (hb hby d14_9) hr) (Q := Q14 Z p0 p1 fv h0 n0) ?_ (by decide) (by decide)
    show Q14 Z p0 p1 fv h0 n0 _ T2.heap _
    rw [e2]
    exact ⟨rfl, N2, rfl⟩
  ·
    rw [hfe] at S_SIOOBE_FORMATTER
    refine og (s₁.setTop (mkF m 2 #[.val (.int p0), .val (.int p1)] [(.int p1), (.int p0)])) ?_ (fun tX kX => XS.iloadN X0.here hx rfl (hb hby d14_0) rfl (XS.iloadN X0.here hx rfl (hb hby d14_1) rfl kX))
    obtain ⟨T3, X3, e3, st3⟩ := getS2 X0 hx hZ hown (host := "") (Or.inl (oW hw 83 rfl)) Via.refl e0 S_SIOOBE_FORMATTER (g := (mkF m 2 #[.val (.int p0), .val (.int p1)] [(.int p1), (.int p0)])) rfl (hb hby d14_2)
    refine og (T3.setTop (mkF m 5 #[.val (.int p0), .val (.int p1)] [(.ref fa), (.int p1), (.int p0)])) ?_ st3
    obtain ⟨_, _, ⟨T4, L4, k4, n4⟩, -, X4, ⟨Lc4, hQ4, l4, y4, z4⟩, st4⟩ := Jvm.LawKit.callS X3 hx (y := oM18) hown (mvT hZ (oW hw 85 rfl)) (mvT hZ (oW hw 86 rfl)) (mvT hZ (oW hw 84 rfl)) (mvT hZ (oW hw 87 rfl)) (by decide) (backOf (W := 0) (rm15r l Z aV hw [] p0 p1 fa h0 n0 Z0 hin) hZ (oW hw 87 rfl) (oW hw 84 rfl) (by decide) (by decide)) (g := (mkF m 5 #[.val (.int p0), .val (.int p1)] [(.ref fa), (.int p1), (.int p0)])) rfl (by rw [hml]; rfl) (argsL := [(.int p0), (.int p1), (.ref fa)]) (rest := []) (lenOf pd__IILjava_util_function_BiFunction__I rfl) rfl (by show 2 * 0 + _ ≤ _; exact Nat.le_of_eq rfl) (hb hby d14_5) (fun _ _ => ⟨rfl, e3, (by decide : 0 + 0 ≤ _), (by decide : 0 + 0 ≤ _)⟩)
    dsimp only [Pt.U, Pt.locs, Pt.cells, Pt.slots] at X4 l4 y4 z4 st4 hQ4
    subst l4 y4 z4
    obtain ⟨rfl, N4q, e4⟩ := hQ4
    have N4 := Fr.app N0 N4q
    refine og (T4.setTop (mkF m 8 #[.val (.int p0), .val (.int p1)] [(.int p0)])) ?_ st4
    refine og (T4.setTop (mkF m 9 #[.val (.int p0), .val (.int p1)] [])) ?_ (fun tX kX => XS.pop X4.here hx rfl (hb hby d14_8) rfl rfl kX)
    refine OGo.ret X4 (v := none) (fun _ => rfl) (BodyLoose.notSynchronized Bd) (fun fs hr => X4.returnOut hx Bd.returns (hb hby d14_9) hr) (Q := Q14 Z p0 p1 fv h0 n0) ?_ (by decide) (by decide)
    show Q14 Z p0 p1 fv h0 n0 _ T4.heap _
    rw [e4]
    exact ⟨rfl, N4, rfl⟩
theorem d13_0 : oD13 0 (.iload_n 1) 1 := by decide +kernel
theorem d13_1 : oD13 1 (.aload_n 0) 1 := by decide +kernel
theorem d13_2 : oD13 2 .arraylength 1 := by decide +kernel
theorem d13_3 : oD13 3 (.invokestatic 9) 3 := by decide +kernel
theorem pd__II_V : parseMethodDescriptor "(II)V" = some ⟨[.int, .int], none⟩ := by decide +kernel
theorem d13_6 : oD13 6 (.aload_n 0) 1 := by decide +kernel
theorem d13_7 : oD13 7 (.iload_n 1) 1 := by decide +kernel
theorem d13_8 : oD13 8 .baload 1 := by decide +kernel
theorem d13_9 : oD13 9 (.sipush 255) 3 := by decide +kernel
theorem d13_12 : oD13 12 .iand 1 := by decide +kernel
theorem d13_13 : oD13 13 .i2c 1 := by decide +kernel
theorem d13_14 : oD13 14 .ireturn 1 := by decide +kernel
theorem pn_java_lang_StringLatin1 : plainName "java/lang/StringLatin1" = true := by first | (simp [plainName, overriddenIn]; done) | decide +kernel
def Q13 (Z : State) (a0 : Addr) (p1 : Int32) (kb : ClassId) (nn : Int32) (vs : List Value) (fv : Value) (ev : Int32) (h0 : Heap) (n0 : Nat) (v : Option Value) (h : Heap) (L : List Loc) : Prop := v = some (.int (own_l1 ev)) ∧ Fr n0 L ∧ h = h0
def P13 (Z : State) (a0 : Addr) (p1 : Int32) (kb : ClassId) (nn : Int32) (vs : List Value) (fv : Value) (ev : Int32) (h0 : Heap) (n0 : Nat) (s : State) (o : Outcome) (U' : State) : Prop := ∃ v L, o = .returned v ∧ Q13 Z a0 p1 kb nn vs fv ev h0 n0 v U'.heap L ∧ FrameEnd s o U' L oR3.cells oR3.slots
set_option maxRecDepth 65536 in
set_option maxHeartbeats 40000000 in
theorem rm13 (l : Launch) (Z : State) (aV : Array Value) (hw : ∀ d ∈ tables_1, d.before aV Z = true) (ws : List Jvm.Cond) (a0 : Addr) (p1 : Int32) (kb : ClassId) (nn : Int32) (vs : List Value) (fv : Value) (ev : Int32) (h0 : Heap) (n0 : Nat) (Z0 : n0 ≤ h0.size) (V_a0 : Arv Z h0 a0 kb .byte nn vs (.int 0)) (S_SIOOBE_FORMATTER : Sta Z h0 "jdk/internal/util/Preconditions" "SIOOBE_FORMATTER" "Ljava/util/function/BiFunction;" fv) (hfv : fv.isRef = true) (hin : ¬ p1 < 0 ∧ p1 < nn) (hev : vs.getD p1.toNatClampNeg (.int 0) = .int ev) :
    MetFree l oM20 (head1 (Jvm.Cond.code oM20 jdk_43_method_2_code 2 (some .char) :: ws) oR3) (fun a U => a = #[(.ref a0), (.int p1)] ∧ Z.Warmed39 U.vm ∧ U.heap = h0) (fun _ _ _ _ _ => True) (fun _ U o U' => ∃ v L, o = .returned v ∧ Q13 Z a0 p1 kb nn vs fv ev h0 n0 v U'.heap L ∧ FrameEnd U o U' L oR3.cells oR3.slots) := by
  refine MetFree.of_bodySF (plainFor_of_name pn_java_lang_StringLatin1) hisR ?_
  intro p e s m args below meth c s₁ Bd hml0 hP hK
  obtain ⟨rfl, hZ, hh⟩ := hP
  have hx := Bd.exec
  have hby := Bd.bytes
  have hml : c.maxLocals = 2 := hml0
  have hown : s.vm.findClass "java/lang/StringLatin1" = some m.cls := findClass_of_methodNamed Bd.named
  have hnm := (name_of_methodNamed Bd.named Bd.method).1
  have X0 : Stand p l e oR3 s m #[(.ref a0), (.int p1)] below meth c s₁ [] 0 0 := Stand.of_body Bd
  have e0 : s₁.heap = h0 := by rw [← hh, Bd.state]; rfl
  have efx : entryFrame m #[(.ref a0), (.int p1)] 2 = mkF m 0 #[.val (.ref a0), .val (.int p1)] [] := by first | (simp [entryFrame, mkF, argsToLocals, Value.category]; done) | rfl
  have N0 := Fr.nil n0
  have K0 : Keep h0 h0 [] := Keep.refl h0 _
  refine OGo.start (g' := mkF m 0 #[.val (.ref a0), .val (.int p1)] []) (efx) ?_
  show OGo p.tables e below (P13 Z a0 p1 kb nn vs fv ev h0 n0 s) (s₁.setTop (mkF m 0 #[.val (.ref a0), .val (.int p1)] []))
  refine og (s₁.setTop (mkF m 2 #[.val (.ref a0), .val (.int p1)] [(.ref a0), (.int p1)])) ?_ (fun tX kX => XS.iloadN X0.here hx rfl (hb hby d13_0) rfl (XS.aloadN X0.here hx rfl (hb hby d13_1) rfl rfl kX))
  obtain ⟨cl1, Ar1, qa1, S1, N1', H1, G1⟩ := id V_a0
  refine OGo.go (B := s₁.setTop (mkF m 3 #[.val (.ref a0), .val (.int p1)] [(.int nn), (.int p1)])) ?_ (fun tX kX => X0.arraylength hx (by rw [e0]; exact Ar1.1) (State.isArrayOf_alike hZ.alike Ar1.2.1) (g := (mkF m 2 #[.val (.ref a0), .val (.int p1)] [(.ref a0), (.int p1)])) rfl rfl (hb hby d13_2) _ (by rw [len_of S1 N1']; exact kX))
  obtain ⟨_, _, ⟨T2, L2, k2, n2⟩, -, X2, ⟨Lc2, hQ2, l2, y2, z2⟩, st2⟩ := Jvm.LawKit.callS X0 hx (y := oM19) hown (mvT hZ (oW hw 80 rfl)) (mvT hZ (oW hw 81 rfl)) (mvT hZ (oW hw 9 rfl)) (mvT hZ (oW hw 82 rfl)) (by decide) (backOf (W := 0) (rm14 l Z aV hw [] p1 nn fv h0 n0 Z0 S_SIOOBE_FORMATTER hfv hin) hZ (oW hw 82 rfl) (oW hw 9 rfl) (by decide) (by decide)) (g := (mkF m 3 #[.val (.ref a0), .val (.int p1)] [(.int nn), (.int p1)])) rfl (by rw [hml]; rfl) (argsL := [(.int p1), (.int nn)]) (rest := []) (lenOf pd__II_V rfl) rfl (by show 2 * 0 + _ ≤ _; exact Nat.le_of_eq rfl) (hb hby d13_3) (fun _ _ => ⟨rfl, e0, (by decide : 0 + 0 ≤ _), (by decide : 0 + 0 ≤ _)⟩)
  dsimp only [Pt.U, Pt.locs, Pt.cells, Pt.slots] at X2 l2 y2 z2 st2 hQ2
  subst l2 y2 z2
  obtain ⟨rfl, N2q, e2⟩ := hQ2
  have N2 := Fr.app N0 N2q
  refine og (T2.setTop (mkF m 6 #[.val (.ref a0), .val (.int p1)] [])) ?_ st2
  refine og (T2.setTop (mkF m 8 #[.val (.ref a0), .val (.int p1)] [(.int p1), (.ref a0)])) ?_ (fun tX kX => XS.aloadN X2.here hx rfl (hb hby d13_6) rfl rfl (XS.iloadN X2.here hx rfl (hb hby d13_7) rfl kX))
  obtain ⟨cl3, Ar3, qa3, S3, N3', H3, G3⟩ := id V_a0
  have hin3 := inb_of (j := p1) S3 hin
  have hat3 := H3.at (v := (.int ev)) hin3 hev
  refine og (T2.setTop (mkF m 14 #[.val (.ref a0), .val (.int p1)] [(.int ((ev &&& (255 : Int32)).toUInt32.toUInt16.toUInt32.toInt32))])) ?_ (fun tX kX => X2.baloadBytes hx (j := p1) (v := (.int ev)) (by rw [e2]; exact Ar3.1) (State.isArrayOf_alike hZ.alike Ar3.2.1) Ar3.2.2 hin3 hat3 (g := (mkF m 8 #[.val (.ref a0), .val (.int p1)] [(.int p1), (.ref a0)])) rfl rfl (hb hby d13_8) _ (XS.sipush X2.here hx rfl (hb hby d13_9) (XS.iand X2.here hx rfl (hb hby d13_12) rfl (XS.i2c X2.here hx rfl (hb hby d13_13) rfl kX))))
  refine OGo.ret X2 (v := (some (.int (((ev &&& (255 : Int32)).toUInt32.toUInt16.toUInt32.toInt32).toUInt32.toUInt16.toUInt32.toInt32)))) (fun h => by rw [Bd.returns] at h; cases h) (BodyLoose.notSynchronized Bd) (fun fs hr => retN X2 hx (t := .char) (z := ((ev &&& (255 : Int32)).toUInt32.toUInt16.toUInt32.toInt32)) Bd.returns (by simp) (hb hby d13_14) hr) (Q := Q13 Z a0 p1 kb nn vs fv ev h0 n0) ?_ (by decide) (by decide)
  show Q13 Z a0 p1 kb nn vs fv ev h0 n0 _ T2.heap _
  rw [e2]
  exact ⟨rfl, N2, rfl⟩
theorem d11_0 : oD11 0 (.aload_n 0) 1 := by decide +kernel
theorem d11_1 : oD11 1 (.invokevirtual 492) 3 := by decide +kernel
theorem pd___Z : parseMethodDescriptor "()Z" = some ⟨[], some .boolean⟩ := by decide +kernel
theorem d11_4 : oD11 4 (.ifCond .eq 12) 3 := by decide +kernel
theorem d11_7 : oD11 7 (.aload_n 0) 1 := by decide +kernel
theorem d11_8 : oD11 8 (.getfield 9) 3 := by decide +kernel
theorem d11_11 : oD11 11 (.iload_n 1) 1 := by decide +kernel
theorem d11_12 : oD11 12 (.invokestatic 495) 3 := by decide +kernel
theorem pd___BI_C : parseMethodDescriptor "([BI)C" = some ⟨[(.array .byte), .int], some .char⟩ := by decide +kernel
theorem d11_15 : oD11 15 .ireturn 1 := by decide +kernel
def Q11L (Z : State) (a0 : Addr) (p1 : Int32) (vb : Addr) (kb : ClassId) (nn : Int32) (vs : List Value) (cs : Int32) (fv : Value) (ev : Int32) (h0 : Heap) (n0 : Nat) (v : Option Value) (h : Heap) (L : List Loc) : Prop := v = some (.int (own_l1 ev)) ∧ Fr n0 L ∧ h = h0
def P11L (Z : State) (a0 : Addr) (p1 : Int32) (vb : Addr) (kb : ClassId) (nn : Int32) (vs : List Value) (cs : Int32) (fv : Value) (ev : Int32) (h0 : Heap) (n0 : Nat) (s : State) (o : Outcome) (U' : State) : Prop := ∃ v L, o = .returned v ∧ Q11L Z a0 p1 vb kb nn vs cs fv ev h0 n0 v U'.heap L ∧ FrameEnd s o U' L oR4.cells oR4.slots
set_option maxRecDepth 65536 in
set_option maxHeartbeats 40000000 in
theorem rm11L (l : Launch) (Z : State) (aV : Array Value) (hw : ∀ d ∈ tables_1, d.before aV Z = true) (ws : List Jvm.Cond) (a0 : Addr) (p1 : Int32) (vb : Addr) (kb : ClassId) (nn : Int32) (vs : List Value) (cs : Int32) (fv : Value) (ev : Int32) (h0 : Heap) (n0 : Nat) (Z0 : n0 ≤ h0.size) (E_a0 : Exa Z h0 a0 "java/lang/String") (F_value_a0 : Fld Z h0 a0 "java/lang/String" "value" "[B" (.ref vb)) (F_coder_a0 : Fld Z h0 a0 "java/lang/String" "coder" "B" (.int 0)) (V_vb : Arv Z h0 vb kb .byte nn vs (.int 0)) (S_COMPACT_STRINGS : Sta Z h0 "java/lang/String" "COMPACT_STRINGS" "Z" (.int cs)) (S_SIOOBE_FORMATTER : Sta Z h0 "jdk/internal/util/Preconditions" "SIOOBE_FORMATTER" "Ljava/util/function/BiFunction;" fv) (hcs : ¬ cs = 0) (hfv : fv.isRef = true) (hin : ¬ p1 < 0 ∧ p1 < nn) (hev : vs.getD p1.toNatClampNeg (.int 0) = .int ev) :
    MetFree l oM21 (head1 (Jvm.Cond.code oM21 jdk_42_method_56_code 2 (some .char) :: ws) oR4) (fun a U => a = #[(.ref a0), (.int p1)] ∧ Z.Warmed39 U.vm ∧ U.heap = h0) (fun _ _ _ _ _ => True) (fun _ U o U' => ∃ v L, o = .returned v ∧ Q11L Z a0 p1 vb kb nn vs cs fv ev h0 n0 v U'.heap L ∧ FrameEnd U o U' L oR4.cells oR4.slots) := by
  refine MetFree.of_bodySF (plainFor_of_name pn_java_lang_String) hisR ?_
  intro p e s m args below meth c s₁ Bd hml0 hP hK
  obtain ⟨rfl, hZ, hh⟩ := hP
  have hx := Bd.exec
  have hby := Bd.bytes
  have hml : c.maxLocals = 2 := hml0
  have hown : s.vm.findClass "java/lang/String" = some m.cls := findClass_of_methodNamed Bd.named
  have hnm := (name_of_methodNamed Bd.named Bd.method).1
  have X0 : Stand p l e oR4 s m #[(.ref a0), (.int p1)] below meth c s₁ [] 0 0 := Stand.of_body Bd
  have e0 : s₁.heap = h0 := by rw [← hh, Bd.state]; rfl
  have efx : entryFrame m #[(.ref a0), (.int p1)] 2 = mkF m 0 #[.val (.ref a0), .val (.int p1)] [] := by first | (simp [entryFrame, mkF, argsToLocals, Value.category]; done) | rfl
  have N0 := Fr.nil n0
  have K0 : Keep h0 h0 [] := Keep.refl h0 _
  refine OGo.start (g' := mkF m 0 #[.val (.ref a0), .val (.int p1)] []) (efx) ?_
  show OGo p.tables e below (P11L Z a0 p1 vb kb nn vs cs fv ev h0 n0 s) (s₁.setTop (mkF m 0 #[.val (.ref a0), .val (.int p1)] []))
  refine og (s₁.setTop (mkF m 1 #[.val (.ref a0), .val (.int p1)] [(.ref a0)])) ?_ (fun tX kX => XS.aloadN X0.here hx rfl (hb hby d11_0) rfl rfl kX)
  obtain ⟨cq1, kq1, q1a, q1b, q1c⟩ := isOf hZ e0 E_a0
  obtain ⟨_, _, ⟨T1, L1, k1, n1⟩, -, X1, ⟨Lc1, hQ1, l1, y1, z1⟩, st1⟩ := X0.virtualBack hx (y := oM16) (z := oM16) hown (mvT hZ (oW hw 71 rfl)) (mvT hZ (oW hw 72 rfl)) (notFace_of_selects (args := #[]) (mvT hZ (oW hw 74 rfl))) (mvT hZ (oW hw 74 rfl)) (mvT hZ (oW hw 73 rfl)) (by decide) (backOf (W := 0) (rm12k0 l Z aV hw [] a0 cs h0 n0 Z0 F_coder_a0 S_COMPACT_STRINGS hcs) hZ (oW hw 75 rfl) (oW hw 9 rfl) (by decide) (by decide)) q1a q1c (g := (mkF m 1 #[.val (.ref a0), .val (.int p1)] [(.ref a0)])) rfl (by rw [hml]; rfl) (Steps.refl _) (argsL := []) (rest := []) (lenOf pd___Z rfl) rfl (by show 2 * 0 + _ ≤ _; exact Nat.le_of_eq rfl) (hb hby d11_1) (fun _ _ => ⟨rfl, e0, (by decide : 0 + 0 ≤ _), (by decide : 0 + 0 ≤ _)⟩)
  dsimp only [Pt.U, Pt.locs, Pt.cells, Pt.slots] at X1 l1 y1 z1 st1 hQ1
  subst l1 y1 z1
  obtain ⟨rfl, N1q, e1⟩ := hQ1
  have N1 := Fr.app N0 N1q
  refine og (T1.setTop (mkF m 4 #[.val (.ref a0), .val (.int p1)] [(.int 1)])) ?_ (fun tX kX => st1.trans kX)
  refine og (T1.setTop (mkF m 8 #[.val (.ref a0), .val (.int p1)] [(.ref a0)])) ?_ (fun tX kX => XS.ifNo X1.here hx rfl (hb hby d11_4) rfl ((if0 _ _).trans (feq (by decide)).1) (XS.aloadN X1.here hx rfl (hb hby d11_7) rfl rfl kX))
  obtain ⟨T2, X2, e2, st2⟩ := getF X1 hx hZ hown (host := "") (Or.inl (oW hw 48 rfl)) Via.refl e1 F_value_a0 (g := (mkF m 8 #[.val (.ref a0), .val (.int p1)] [(.ref a0)])) rfl rfl (hb hby d11_8)
  refine og (T2.setTop (mkF m 11 #[.val (.ref a0), .val (.int p1)] [(.ref vb)])) ?_ st2
  refine og (T2.setTop (mkF m 12 #[.val (.ref a0), .val (.int p1)] [(.int p1), (.ref vb)])) ?_ (fun tX kX => XS.iloadN X2.here hx rfl (hb hby d11_11) rfl kX)
  obtain ⟨_, _, ⟨T3, L3, k3, n3⟩, -, X3, ⟨Lc3, hQ3, l3, y3, z3⟩, st3⟩ := Jvm.LawKit.callS X2 hx (y := oM20) hown (mvT hZ (oW hw 76 rfl)) (mvT hZ (oW hw 77 rfl)) (mvT hZ (oW hw 78 rfl)) (mvT hZ (oW hw 79 rfl)) (by decide) (backOf (W := 0) (rm13 l Z aV hw [] vb p1 kb nn vs fv ev h0 n0 Z0 V_vb S_SIOOBE_FORMATTER hfv hin hev) hZ (oW hw 79 rfl) (oW hw 78 rfl) (by decide) (by decide)) (g := (mkF m 12 #[.val (.ref a0), .val (.int p1)] [(.int p1), (.ref vb)])) rfl (by rw [hml]; rfl) (argsL := [(.ref vb), (.int p1)]) (rest := []) (lenOf pd___BI_C rfl) rfl (by show 2 * 0 + _ ≤ _; exact Nat.le_of_eq rfl) (hb hby d11_12) (fun _ _ => ⟨rfl, e2, (by decide : 0 + 0 ≤ _), (by decide : 0 + 0 ≤ _)⟩)
  dsimp only [Pt.U, Pt.locs, Pt.cells, Pt.slots] at X3 l3 y3 z3 st3 hQ3
  subst l3 y3 z3
  obtain ⟨rfl, N3q, e3⟩ := hQ3
  have N3 := Fr.app N1 N3q
  refine og (T3.setTop (mkF m 15 #[.val (.ref a0), .val (.int p1)] [(.int (own_l1 ev))])) ?_ st3
  refine OGo.ret X3 (v := (some (.int ((own_l1 ev).toUInt32.toUInt16.toUInt32.toInt32)))) (fun h => by rw [Bd.returns] at h; cases h) (BodyLoose.notSynchronized Bd) (fun fs hr => retN X3 hx (t := .char) (z := (own_l1 ev)) Bd.returns (by simp) (hb hby d11_15) hr) (Q := Q11L Z a0 p1 vb kb nn vs cs fv ev h0 n0) ?_ (by decide) (by decide)
  show Q11L Z a0 p1 vb kb nn vs cs fv ev h0 n0 _ T3.heap _
  rw [e3]
  exact ⟨(congrArg (fun z => some (Value.int z)) (own_l1c _)), N3, rfl⟩
theorem d24_0 : oD24 0 (.aload_n 0) 1 := by decide +kernel
theorem d24_1 : oD24 1 .arraylength 1 := by decide +kernel
theorem d24_2 : oD24 2 (.iconst 1) 1 := by decide +kernel
theorem d24_3 : oD24 3 .ishr 1 := by decide +kernel
theorem d24_4 : oD24 4 .ireturn 1 := by decide +kernel
theorem pn_java_lang_StringUTF16 : plainName "java/lang/StringUTF16" = true := by first | (simp [plainName, overriddenIn]; done) | decide +kernel
def Q24 (Z : State) (a0 : Addr) (kb : ClassId) (nn : Int32) (vs : List Value) (h0 : Heap) (n0 : Nat) (v : Option Value) (h : Heap) (L : List Loc) : Prop := v = some (.int (nn >>> ((1 : Int32) &&& 31))) ∧ Fr n0 L ∧ h = h0
def P24 (Z : State) (a0 : Addr) (kb : ClassId) (nn : Int32) (vs : List Value) (h0 : Heap) (n0 : Nat) (s : State) (o : Outcome) (U' : State) : Prop := ∃ v L, o = .returned v ∧ Q24 Z a0 kb nn vs h0 n0 v U'.heap L ∧ FrameEnd s o U' L oR0.cells oR0.slots
set_option maxRecDepth 65536 in
set_option maxHeartbeats 40000000 in
theorem rm24 (l : Launch) (Z : State) (aV : Array Value) (hw : ∀ d ∈ tables_1, d.before aV Z = true) (ws : List Jvm.Cond) (a0 : Addr) (kb : ClassId) (nn : Int32) (vs : List Value) (h0 : Heap) (n0 : Nat) (Z0 : n0 ≤ h0.size) (V_a0 : Arv Z h0 a0 kb .byte nn vs (.int 0)) :
    MetFree l oM22 (head1 (Jvm.Cond.code oM22 jdk_52_method_6_code 1 (some .int) :: ws) oR0) (fun a U => a = #[(.ref a0)] ∧ Z.Warmed39 U.vm ∧ U.heap = h0) (fun _ _ _ _ _ => True) (fun _ U o U' => ∃ v L, o = .returned v ∧ Q24 Z a0 kb nn vs h0 n0 v U'.heap L ∧ FrameEnd U o U' L oR0.cells oR0.slots) := by
  refine MetFree.of_bodySF (plainFor_of_name pn_java_lang_StringUTF16) hisR ?_
  intro p e s m args below meth c s₁ Bd hml0 hP hK
  obtain ⟨rfl, hZ, hh⟩ := hP
  have hx := Bd.exec
  have hby := Bd.bytes
  have hml : c.maxLocals = 1 := hml0
  have hown : s.vm.findClass "java/lang/StringUTF16" = some m.cls := findClass_of_methodNamed Bd.named
  have hnm := (name_of_methodNamed Bd.named Bd.method).1
  have X0 : Stand p l e oR0 s m #[(.ref a0)] below meth c s₁ [] 0 0 := Stand.of_body Bd
  have e0 : s₁.heap = h0 := by rw [← hh, Bd.state]; rfl
  have efx : entryFrame m #[(.ref a0)] 1 = mkF m 0 #[.val (.ref a0)] [] := by first | (simp [entryFrame, mkF, argsToLocals, Value.category]; done) | rfl
  have N0 := Fr.nil n0
  have K0 : Keep h0 h0 [] := Keep.refl h0 _
  refine OGo.start (g' := mkF m 0 #[.val (.ref a0)] []) (efx) ?_
  show OGo p.tables e below (P24 Z a0 kb nn vs h0 n0 s) (s₁.setTop (mkF m 0 #[.val (.ref a0)] []))
  refine og (s₁.setTop (mkF m 1 #[.val (.ref a0)] [(.ref a0)])) ?_ (fun tX kX => XS.aloadN X0.here hx rfl (hb hby d24_0) rfl rfl kX)
  obtain ⟨cl1, Ar1, qa1, S1, N1', H1, G1⟩ := id V_a0
  refine OGo.go (B := s₁.setTop (mkF m 2 #[.val (.ref a0)] [(.int nn)])) ?_ (fun tX kX => X0.arraylength hx (by rw [e0]; exact Ar1.1) (State.isArrayOf_alike hZ.alike Ar1.2.1) (g := (mkF m 1 #[.val (.ref a0)] [(.ref a0)])) rfl rfl (hb hby d24_1) _ (by rw [len_of S1 N1']; exact kX))
  refine og (s₁.setTop (mkF m 4 #[.val (.ref a0)] [(.int (nn >>> ((1 : Int32) &&& 31)))])) ?_ (fun tX kX => XS.iconst X0.here hx rfl (hb hby d24_2) (XS.ishr X0.here hx rfl (hb hby d24_3) rfl kX))
  refine OGo.ret X0 (v := (some (.int (nn >>> ((1 : Int32) &&& 31))))) (fun h => by rw [Bd.returns] at h; cases h) (BodyLoose.notSynchronized Bd) (fun fs hr => retOut X0 hx Bd.returns rfl (Or.inl ⟨rfl, Or.inl rfl, _, rfl⟩) (hb hby d24_4) hr) (Q := Q24 Z a0 kb nn vs h0 n0) ?_ (by decide) (by decide)
  show Q24 Z a0 kb nn vs h0 n0 _ s₁.heap _
  rw [e0]
  exact ⟨rfl, N0, rfl⟩
theorem d33_0 : oD33 0 (.iload_n 0) 1 := by decide +kernel
theorem d33_1 : oD33 1 (.aload_n 1) 1 := by decide +kernel
theorem d33_2 : oD33 2 (.invokestatic 48) 3 := by decide +kernel
theorem pd___B_I : parseMethodDescriptor "([B)I" = some ⟨[(.array .byte)], some .int⟩ := by decide +kernel
theorem d33_5 : oD33 5 (.invokestatic 414) 3 := by decide +kernel
theorem d33_8 : oD33 8 .return_ 1 := by decide +kernel
def Q33 (Z : State) (p0 : Int32) (a1 : Addr) (kb : ClassId) (nn : Int32) (vs : List Value) (fv : Value) (h0 : Heap) (n0 : Nat) (v : Option Value) (h : Heap) (L : List Loc) : Prop := v = none ∧ Fr n0 L ∧ h = h0
def P33 (Z : State) (p0 : Int32) (a1 : Addr) (kb : ClassId) (nn : Int32) (vs : List Value) (fv : Value) (h0 : Heap) (n0 : Nat) (s : State) (o : Outcome) (U' : State) : Prop := ∃ v L, o = .returned v ∧ Q33 Z p0 a1 kb nn vs fv h0 n0 v U'.heap L ∧ FrameEnd s o U' L oR3.cells oR3.slots
set_option maxRecDepth 65536 in
set_option maxHeartbeats 40000000 in
theorem rm33 (l : Launch) (Z : State) (aV : Array Value) (hw : ∀ d ∈ tables_1, d.before aV Z = true) (ws : List Jvm.Cond) (p0 : Int32) (a1 : Addr) (kb : ClassId) (nn : Int32) (vs : List Value) (fv : Value) (h0 : Heap) (n0 : Nat) (Z0 : n0 ≤ h0.size) (V_a1 : Arv Z h0 a1 kb .byte nn vs (.int 0)) (S_SIOOBE_FORMATTER : Sta Z h0 "jdk/internal/util/Preconditions" "SIOOBE_FORMATTER" "Ljava/util/function/BiFunction;" fv) (hfv : fv.isRef = true) (hin : ¬ p0 < 0 ∧ p0 < (nn >>> ((1 : Int32) &&& 31))) :
    MetFree l oM23 (head1 (Jvm.Cond.code oM23 jdk_52_method_91_code 2 none :: ws) oR3) (fun a U => a = #[(.int p0), (.ref a1)] ∧ Z.Warmed39 U.vm ∧ U.heap = h0) (fun _ _ _ _ _ => True) (fun _ U o U' => ∃ v L, o = .returned v ∧ Q33 Z p0 a1 kb nn vs fv h0 n0 v U'.heap L ∧ FrameEnd U o U' L oR3.cells oR3.slots) := by
  refine MetFree.of_bodySF (plainFor_of_name pn_java_lang_StringUTF16) hisR ?_
  intro p e s m args below meth c s₁ Bd hml0 hP hK
  obtain ⟨rfl, hZ, hh⟩ := hP
  have hx := Bd.exec
  have hby := Bd.bytes
  have hml : c.maxLocals = 2 := hml0
  have hown : s.vm.findClass "java/lang/StringUTF16" = some m.cls := findClass_of_methodNamed Bd.named
  have hnm := (name_of_methodNamed Bd.named Bd.method).1
  have X0 : Stand p l e oR3 s m #[(.int p0), (.ref a1)] below meth c s₁ [] 0 0 := Stand.of_body Bd
  have e0 : s₁.heap = h0 := by rw [← hh, Bd.state]; rfl
  have efx : entryFrame m #[(.int p0), (.ref a1)] 2 = mkF m 0 #[.val (.int p0), .val (.ref a1)] [] := by first | (simp [entryFrame, mkF, argsToLocals, Value.category]; done) | rfl
  have N0 := Fr.nil n0
  have K0 : Keep h0 h0 [] := Keep.refl h0 _
  refine OGo.start (g' := mkF m 0 #[.val (.int p0), .val (.ref a1)] []) (efx) ?_
  show OGo p.tables e below (P33 Z p0 a1 kb nn vs fv h0 n0 s) (s₁.setTop (mkF m 0 #[.val (.int p0), .val (.ref a1)] []))
  refine og (s₁.setTop (mkF m 2 #[.val (.int p0), .val (.ref a1)] [(.ref a1), (.int p0)])) ?_ (fun tX kX => XS.iloadN X0.here hx rfl (hb hby d33_0) rfl (XS.aloadN X0.here hx rfl (hb hby d33_1) rfl rfl kX))
  obtain ⟨_, _, ⟨T1, L1, k1, n1⟩, -, X1, ⟨Lc1, hQ1, l1, y1, z1⟩, st1⟩ := Jvm.LawKit.callS X0 hx (y := oM22) hown (mvT hZ (oW hw 121 rfl)) (mvT hZ (oW hw 122 rfl)) (mvT hZ (oW hw 106 rfl)) (mvT hZ (oW hw 123 rfl)) (by decide) (backOf (W := 1) (rm24 l Z aV hw [] a1 kb nn vs h0 n0 Z0 V_a1) hZ (oW hw 123 rfl) (oW hw 106 rfl) (by decide) (by decide)) (g := (mkF m 2 #[.val (.int p0), .val (.ref a1)] [(.ref a1), (.int p0)])) rfl (by rw [hml]; rfl) (argsL := [(.ref a1)]) (rest := [(.int p0)]) (lenOf pd___B_I rfl) rfl (by show 2 * 0 + _ ≤ _; exact Nat.le_of_eq rfl) (hb hby d33_2) (fun _ _ => ⟨rfl, e0, (by decide : 0 + 0 ≤ _), (by decide : 0 + 0 ≤ _)⟩)
  dsimp only [Pt.U, Pt.locs, Pt.cells, Pt.slots] at X1 l1 y1 z1 st1 hQ1
  subst l1 y1 z1
  obtain ⟨rfl, N1q, e1⟩ := hQ1
  have N1 := Fr.app N0 N1q
  refine og (T1.setTop (mkF m 5 #[.val (.int p0), .val (.ref a1)] [(.int (nn >>> ((1 : Int32) &&& 31))), (.int p0)])) ?_ st1
  obtain ⟨_, _, ⟨T2, L2, k2, n2⟩, -, X2, ⟨Lc2, hQ2, l2, y2, z2⟩, st2⟩ := Jvm.LawKit.callS X1 hx (y := oM19) hown (mvT hZ (oW hw 157 rfl)) (mvT hZ (oW hw 81 rfl)) (mvT hZ (oW hw 9 rfl)) (mvT hZ (oW hw 82 rfl)) (by decide) (backOf (W := 0) (rm14 l Z aV hw [] p0 (nn >>> ((1 : Int32) &&& 31)) fv h0 n0 Z0 S_SIOOBE_FORMATTER hfv hin) hZ (oW hw 82 rfl) (oW hw 9 rfl) (by decide) (by decide)) (g := (mkF m 5 #[.val (.int p0), .val (.ref a1)] [(.int (nn >>> ((1 : Int32) &&& 31))), (.int p0)])) rfl (by rw [hml]; rfl) (argsL := [(.int p0), (.int (nn >>> ((1 : Int32) &&& 31)))]) (rest := []) (lenOf pd__II_V rfl) rfl (by show 2 * 0 + _ ≤ _; exact Nat.le_of_eq rfl) (hb hby d33_5) (fun _ _ => ⟨rfl, e1, (by decide : 0 + 0 ≤ _), (by decide : 0 + 0 ≤ _)⟩)
  dsimp only [Pt.U, Pt.locs, Pt.cells, Pt.slots] at X2 l2 y2 z2 st2 hQ2
  subst l2 y2 z2
  obtain ⟨rfl, N2q, e2⟩ := hQ2
  have N2 := Fr.app N1 N2q
  refine og (T2.setTop (mkF m 8 #[.val (.int p0), .val (.ref a1)] [])) ?_ st2
  refine OGo.ret X2 (v := none) (fun _ => rfl) (BodyLoose.notSynchronized Bd) (fun fs hr => X2.returnOut hx Bd.returns (hb hby d33_8) hr) (Q := Q33 Z p0 a1 kb nn vs fv h0 n0) ?_ (by decide) (by decide)
  show Q33 Z p0 a1 kb nn vs fv h0 n0 _ T2.heap _
  rw [e2]
  exact ⟨rfl, N2, rfl⟩
theorem d34_0 : oD34 0 (.getstatic 44) 3 := by decide +kernel
theorem d34_3 : oD34 3 (.ifCond .ne 25) 3 := by decide +kernel
theorem d34_28 : oD34 28 (.iload_n 1) 1 := by decide +kernel
theorem d34_29 : oD34 29 (.iconst 1) 1 := by decide +kernel
theorem d34_30 : oD34 30 .ishl 1 := by decide +kernel
theorem d34_31 : oD34 31 (.istore_n 1) 1 := by decide +kernel
theorem d34_32 : oD34 32 (.aload_n 0) 1 := by decide +kernel
theorem d34_33 : oD34 33 (.iload_n 1) 1 := by decide +kernel
theorem d34_34 : oD34 34 (.iinc 1 1) 3 := by decide +kernel
theorem d34_37 : oD34 37 .baload 1 := by decide +kernel
theorem d34_38 : oD34 38 (.sipush 255) 3 := by decide +kernel
theorem d34_41 : oD34 41 .iand 1 := by decide +kernel
theorem d34_42 : oD34 42 (.getstatic 59) 3 := by decide +kernel
theorem d34_45 : oD34 45 .ishl 1 := by decide +kernel
theorem d34_46 : oD34 46 (.aload_n 0) 1 := by decide +kernel
theorem d34_47 : oD34 47 (.iload_n 1) 1 := by decide +kernel
theorem d34_48 : oD34 48 .baload 1 := by decide +kernel
theorem d34_49 : oD34 49 (.sipush 255) 3 := by decide +kernel
theorem d34_52 : oD34 52 .iand 1 := by decide +kernel
theorem d34_53 : oD34 53 (.getstatic 63) 3 := by decide +kernel
theorem d34_56 : oD34 56 .ishl 1 := by decide +kernel
theorem d34_57 : oD34 57 .ior 1 := by decide +kernel
theorem d34_58 : oD34 58 .i2c 1 := by decide +kernel
theorem d34_59 : oD34 59 .ireturn 1 := by decide +kernel
def Q34 (Z : State) (a0 : Addr) (p1 : Int32) (kb : ClassId) (nn : Int32) (vs : List Value) (xa : Int32) (xb : Int32) (h0 : Heap) (n0 : Nat) (v : Option Value) (h : Heap) (L : List Loc) : Prop := v = some (.int (own_gc xa xb)) ∧ Fr n0 L ∧ h = h0
def P34 (Z : State) (a0 : Addr) (p1 : Int32) (kb : ClassId) (nn : Int32) (vs : List Value) (xa : Int32) (xb : Int32) (h0 : Heap) (n0 : Nat) (s : State) (o : Outcome) (U' : State) : Prop := ∃ v L, o = .returned v ∧ Q34 Z a0 p1 kb nn vs xa xb h0 n0 v U'.heap L ∧ FrameEnd s o U' L oR0.cells oR0.slots
set_option maxRecDepth 65536 in
set_option maxHeartbeats 40000000 in
theorem rm34 (l : Launch) (Z : State) (aV : Array Value) (hw : ∀ d ∈ tables_1, d.before aV Z = true) (ws : List Jvm.Cond) (a0 : Addr) (p1 : Int32) (kb : ClassId) (nn : Int32) (vs : List Value) (xa : Int32) (xb : Int32) (h0 : Heap) (n0 : Nat) (Z0 : n0 ≤ h0.size) (V_a0 : Arv Z h0 a0 kb .byte nn vs (.int 0)) (S__assertionsDisabled : Sta Z h0 "java/lang/StringUTF16" "$assertionsDisabled" "Z" (.int 1)) (S_HI_BYTE_SHIFT : Sta Z h0 "java/lang/StringUTF16" "HI_BYTE_SHIFT" "I" (.int 0)) (S_LO_BYTE_SHIFT : Sta Z h0 "java/lang/StringUTF16" "LO_BYTE_SHIFT" "I" (.int 8)) (hat : own_at p1 nn vs xa xb) :
    MetFree l oM24 (head1 (Jvm.Cond.code oM24 jdk_52_method_5_code 2 (some .char) :: ws) oR0) (fun a U => a = #[(.ref a0), (.int p1)] ∧ Z.Warmed39 U.vm ∧ U.heap = h0) (fun _ _ _ _ _ => True) (fun _ U o U' => ∃ v L, o = .returned v ∧ Q34 Z a0 p1 kb nn vs xa xb h0 n0 v U'.heap L ∧ FrameEnd U o U' L oR0.cells oR0.slots) := by
  refine MetFree.of_bodySF (plainFor_of_name pn_java_lang_StringUTF16) hisR ?_
  intro p e s m args below meth c s₁ Bd hml0 hP hK
  obtain ⟨rfl, hZ, hh⟩ := hP
  have hx := Bd.exec
  have hby := Bd.bytes
  have hml : c.maxLocals = 2 := hml0
  have hown : s.vm.findClass "java/lang/StringUTF16" = some m.cls := findClass_of_methodNamed Bd.named
  have hnm := (name_of_methodNamed Bd.named Bd.method).1
  have X0 : Stand p l e oR0 s m #[(.ref a0), (.int p1)] below meth c s₁ [] 0 0 := Stand.of_body Bd
  have e0 : s₁.heap = h0 := by rw [← hh, Bd.state]; rfl
  have efx : entryFrame m #[(.ref a0), (.int p1)] 2 = mkF m 0 #[.val (.ref a0), .val (.int p1)] [] := by first | (simp [entryFrame, mkF, argsToLocals, Value.category]; done) | rfl
  have N0 := Fr.nil n0
  have K0 : Keep h0 h0 [] := Keep.refl h0 _
  refine OGo.start (g' := mkF m 0 #[.val (.ref a0), .val (.int p1)] []) (efx) ?_
  show OGo p.tables e below (P34 Z a0 p1 kb nn vs xa xb h0 n0 s) (s₁.setTop (mkF m 0 #[.val (.ref a0), .val (.int p1)] []))
  obtain ⟨T1, X1, e1, st1⟩ := getS2 X0 hx hZ hown (host := "") (Or.inl (oW hw 148 rfl)) Via.refl e0 S__assertionsDisabled (g := (mkF m 0 #[.val (.ref a0), .val (.int p1)] [])) rfl (hb hby d34_0)
  refine og (T1.setTop (mkF m 3 #[.val (.ref a0), .val (.int p1)] [(.int 1)])) ?_ st1
  refine og (T1.setTop (mkF m 33 #[.val (.ref a0), .val (.int (p1 <<< ((1 : Int32) &&& 31)))] [(.ref a0)])) ?_ (fun tX kX => XS.ifYes X1.here hx rfl (pc0 := 3) (pc' := 28) rfl (hb hby d34_3) rfl ((if0 _ _).trans (feq (by decide)).2) (by decide) (by decide) (XS.iloadN X1.here hx rfl (hb hby d34_28) rfl (XS.iconst X1.here hx rfl (hb hby d34_29) (XS.ishl X1.here hx rfl (hb hby d34_30) rfl (XS.istoreN X1.here hx rfl (hb hby d34_31) rfl (l' := #[.val (.ref a0), .val (.int (p1 <<< ((1 : Int32) &&& 31)))]) rfl (XS.aloadN X1.here hx rfl (hb hby d34_32) rfl rfl kX))))))
  refine og (T1.setTop (mkF m 37 #[.val (.ref a0), .val (.int ((p1 <<< ((1 : Int32) &&& 31)) + (1 : Int32)))] [(.int (p1 <<< ((1 : Int32) &&& 31))), (.ref a0)])) ?_ (fun tX kX => XS.iloadN X1.here hx rfl (hb hby d34_33) rfl (XS.iinc X1.here hx rfl (hb hby d34_34) rfl (l' := #[.val (.ref a0), .val (.int ((p1 <<< ((1 : Int32) &&& 31)) + (1 : Int32)))]) rfl kX))
  obtain ⟨cl2, Ar2, qa2, S2, N2', H2, G2⟩ := id V_a0
  have hin2 := inb_of (j := (p1 <<< ((1 : Int32) &&& 31))) S2 hat.2.1
  have hat2 := H2.at (v := (.int xa)) hin2 hat.2.2.2.1
  refine og (T1.setTop (mkF m 42 #[.val (.ref a0), .val (.int ((p1 <<< ((1 : Int32) &&& 31)) + (1 : Int32)))] [(.int (xa &&& (255 : Int32)))])) ?_ (fun tX kX => X1.baloadBytes hx (j := (p1 <<< ((1 : Int32) &&& 31))) (v := (.int xa)) (by rw [e1]; exact Ar2.1) (State.isArrayOf_alike hZ.alike Ar2.2.1) Ar2.2.2 hin2 hat2 (g := (mkF m 37 #[.val (.ref a0), .val (.int ((p1 <<< ((1 : Int32) &&& 31)) + (1 : Int32)))] [(.int (p1 <<< ((1 : Int32) &&& 31))), (.ref a0)])) rfl rfl (hb hby d34_37) _ (XS.sipush X1.here hx rfl (hb hby d34_38) (XS.iand X1.here hx rfl (hb hby d34_41) rfl kX)))
  obtain ⟨T3, X3, e3, st3⟩ := getS2 X1 hx hZ hown (host := "") (Or.inl (oW hw 149 rfl)) Via.refl e1 S_HI_BYTE_SHIFT (g := (mkF m 42 #[.val (.ref a0), .val (.int ((p1 <<< ((1 : Int32) &&& 31)) + (1 : Int32)))] [(.int (xa &&& (255 : Int32)))])) rfl (hb hby d34_42)
  refine og (T3.setTop (mkF m 45 #[.val (.ref a0), .val (.int ((p1 <<< ((1 : Int32) &&& 31)) + (1 : Int32)))] [(.int 0), (.int (xa &&& (255 : Int32)))])) ?_ st3
  refine og (T3.setTop (mkF m 48 #[.val (.ref a0), .val (.int ((p1 <<< ((1 : Int32) &&& 31)) + (1 : Int32)))] [(.int ((p1 <<< ((1 : Int32) &&& 31)) + (1 : Int32))), (.ref a0), (.int ((xa &&& (255 : Int32)) <<< ((0 : Int32) &&& 31)))])) ?_ (fun tX kX => XS.ishl X3.here hx rfl (hb hby d34_45) rfl (XS.aloadN X3.here hx rfl (hb hby d34_46) rfl rfl (XS.iloadN X3.here hx rfl (hb hby d34_47) rfl kX)))
  obtain ⟨cl4, Ar4, qa4, S4, N4', H4, G4⟩ := id V_a0
  have hin4 := inb_of (j := ((p1 <<< ((1 : Int32) &&& 31)) + (1 : Int32))) S4 hat.2.2.1
  have hat4 := H4.at (v := (.int xb)) hin4 hat.2.2.2.2
  refine og (T3.setTop (mkF m 53 #[.val (.ref a0), .val (.int ((p1 <<< ((1 : Int32) &&& 31)) + (1 : Int32)))] [(.int (xb &&& (255 : Int32))), (.int ((xa &&& (255 : Int32)) <<< ((0 : Int32) &&& 31)))])) ?_ (fun tX kX => X3.baloadBytes hx (j := ((p1 <<< ((1 : Int32) &&& 31)) + (1 : Int32))) (v := (.int xb)) (by rw [e3]; exact Ar4.1) (State.isArrayOf_alike hZ.alike Ar4.2.1) Ar4.2.2 hin4 hat4 (g := (mkF m 48 #[.val (.ref a0), .val (.int ((p1 <<< ((1 : Int32) &&& 31)) + (1 : Int32)))] [(.int ((p1 <<< ((1 : Int32) &&& 31)) + (1 : Int32))), (.ref a0), (.int ((xa &&& (255 : Int32)) <<< ((0 : Int32) &&& 31)))])) rfl rfl (hb hby d34_48) _ (XS.sipush X3.here hx rfl (hb hby d34_49) (XS.iand X3.here hx rfl (hb hby d34_52) rfl kX)))
  obtain ⟨T5, X5, e5, st5⟩ := getS2 X3 hx hZ hown (host := "") (Or.inl (oW hw 150 rfl)) Via.refl e3 S_LO_BYTE_SHIFT (g := (mkF m 53 #[.val (.ref a0), .val (.int ((p1 <<< ((1 : Int32) &&& 31)) + (1 : Int32)))] [(.int (xb &&& (255 : Int32))), (.int ((xa &&& (255 : Int32)) <<< ((0 : Int32) &&& 31)))])) rfl (hb hby d34_53)
  refine og (T5.setTop (mkF m 56 #[.val (.ref a0), .val (.int ((p1 <<< ((1 : Int32) &&& 31)) + (1 : Int32)))] [(.int 8), (.int (xb &&& (255 : Int32))), (.int ((xa &&& (255 : Int32)) <<< ((0 : Int32) &&& 31)))])) ?_ st5
  refine og (T5.setTop (mkF m 59 #[.val (.ref a0), .val (.int ((p1 <<< ((1 : Int32) &&& 31)) + (1 : Int32)))] [(.int ((((xa &&& (255 : Int32)) <<< ((0 : Int32) &&& 31)) ||| ((xb &&& (255 : Int32)) <<< ((8 : Int32) &&& 31))).toUInt32.toUInt16.toUInt32.toInt32))])) ?_ (fun tX kX => XS.ishl X5.here hx rfl (hb hby d34_56) rfl (XS.ior X5.here hx rfl (hb hby d34_57) rfl (XS.i2c X5.here hx rfl (hb hby d34_58) rfl kX)))
  refine OGo.ret X5 (v := (some (.int (((((xa &&& (255 : Int32)) <<< ((0 : Int32) &&& 31)) ||| ((xb &&& (255 : Int32)) <<< ((8 : Int32) &&& 31))).toUInt32.toUInt16.toUInt32.toInt32).toUInt32.toUInt16.toUInt32.toInt32)))) (fun h => by rw [Bd.returns] at h; cases h) (BodyLoose.notSynchronized Bd) (fun fs hr => retN X5 hx (t := .char) (z := ((((xa &&& (255 : Int32)) <<< ((0 : Int32) &&& 31)) ||| ((xb &&& (255 : Int32)) <<< ((8 : Int32) &&& 31))).toUInt32.toUInt16.toUInt32.toInt32)) Bd.returns (by simp) (hb hby d34_59) hr) (Q := Q34 Z a0 p1 kb nn vs xa xb h0 n0) ?_ (by decide) (by decide)
  show Q34 Z a0 p1 kb nn vs xa xb h0 n0 _ T5.heap _
  rw [e5]
  exact ⟨rfl, N0, rfl⟩
theorem d32_0 : oD32 0 (.iload_n 1) 1 := by decide +kernel
theorem d32_1 : oD32 1 (.aload_n 0) 1 := by decide +kernel
theorem d32_2 : oD32 2 (.invokestatic 67) 3 := by decide +kernel
theorem pd__I_B_V : parseMethodDescriptor "(I[B)V" = some ⟨[.int, (.array .byte)], none⟩ := by decide +kernel
theorem d32_5 : oD32 5 (.aload_n 0) 1 := by decide +kernel
theorem d32_6 : oD32 6 (.iload_n 1) 1 := by decide +kernel
theorem d32_7 : oD32 7 (.invokestatic 71) 3 := by decide +kernel
theorem d32_10 : oD32 10 .ireturn 1 := by decide +kernel
def Q32 (Z : State) (a0 : Addr) (p1 : Int32) (kb : ClassId) (nn : Int32) (vs : List Value) (xa : Int32) (xb : Int32) (fv : Value) (h0 : Heap) (n0 : Nat) (v : Option Value) (h : Heap) (L : List Loc) : Prop := v = some (.int (own_gc xa xb)) ∧ Fr n0 L ∧ h = h0
def P32 (Z : State) (a0 : Addr) (p1 : Int32) (kb : ClassId) (nn : Int32) (vs : List Value) (xa : Int32) (xb : Int32) (fv : Value) (h0 : Heap) (n0 : Nat) (s : State) (o : Outcome) (U' : State) : Prop := ∃ v L, o = .returned v ∧ Q32 Z a0 p1 kb nn vs xa xb fv h0 n0 v U'.heap L ∧ FrameEnd s o U' L oR4.cells oR4.slots
set_option maxRecDepth 65536 in
set_option maxHeartbeats 40000000 in
theorem rm32 (l : Launch) (Z : State) (aV : Array Value) (hw : ∀ d ∈ tables_1, d.before aV Z = true) (ws : List Jvm.Cond) (a0 : Addr) (p1 : Int32) (kb : ClassId) (nn : Int32) (vs : List Value) (xa : Int32) (xb : Int32) (fv : Value) (h0 : Heap) (n0 : Nat) (Z0 : n0 ≤ h0.size) (V_a0 : Arv Z h0 a0 kb .byte nn vs (.int 0)) (S_SIOOBE_FORMATTER : Sta Z h0 "jdk/internal/util/Preconditions" "SIOOBE_FORMATTER" "Ljava/util/function/BiFunction;" fv) (S__assertionsDisabled : Sta Z h0 "java/lang/StringUTF16" "$assertionsDisabled" "Z" (.int 1)) (S_HI_BYTE_SHIFT : Sta Z h0 "java/lang/StringUTF16" "HI_BYTE_SHIFT" "I" (.int 0)) (S_LO_BYTE_SHIFT : Sta Z h0 "java/lang/StringUTF16" "LO_BYTE_SHIFT" "I" (.int 8)) (hfv : fv.isRef = true) (hat : own_at p1 nn vs xa xb) :
    MetFree l oM25 (head1 (Jvm.Cond.code oM25 jdk_52_method_83_code 2 (some .char) :: ws) oR4) (fun a U => a = #[(.ref a0), (.int p1)] ∧ Z.Warmed39 U.vm ∧ U.heap = h0) (fun _ _ _ _ _ => True) (fun _ U o U' => ∃ v L, o = .returned v ∧ Q32 Z a0 p1 kb nn vs xa xb fv h0 n0 v U'.heap L ∧ FrameEnd U o U' L oR4.cells oR4.slots) := by
  refine MetFree.of_bodySF (plainFor_of_name pn_java_lang_StringUTF16) hisR ?_
  intro p e s m args below meth c s₁ Bd hml0 hP hK
  obtain ⟨rfl, hZ, hh⟩ := hP
  have hx := Bd.exec
  have hby := Bd.bytes
  have hml : c.maxLocals = 2 := hml0
  have hown : s.vm.findClass "java/lang/StringUTF16" = some m.cls := findClass_of_methodNamed Bd.named
  have hnm := (name_of_methodNamed Bd.named Bd.method).1
  have X0 : Stand p l e oR4 s m #[(.ref a0), (.int p1)] below meth c s₁ [] 0 0 := Stand.of_body Bd
  have e0 : s₁.heap = h0 := by rw [← hh, Bd.state]; rfl
  have efx : entryFrame m #[(.ref a0), (.int p1)] 2 = mkF m 0 #[.val (.ref a0), .val (.int p1)] [] := by first | (simp [entryFrame, mkF, argsToLocals, Value.category]; done) | rfl
  have N0 := Fr.nil n0
  have K0 : Keep h0 h0 [] := Keep.refl h0 _
  refine OGo.start (g' := mkF m 0 #[.val (.ref a0), .val (.int p1)] []) (efx) ?_
  show OGo p.tables e below (P32 Z a0 p1 kb nn vs xa xb fv h0 n0 s) (s₁.setTop (mkF m 0 #[.val (.ref a0), .val (.int p1)] []))
  refine og (s₁.setTop (mkF m 2 #[.val (.ref a0), .val (.int p1)] [(.ref a0), (.int p1)])) ?_ (fun tX kX => XS.iloadN X0.here hx rfl (hb hby d32_0) rfl (XS.aloadN X0.here hx rfl (hb hby d32_1) rfl rfl kX))
  obtain ⟨_, _, ⟨T1, L1, k1, n1⟩, -, X1, ⟨Lc1, hQ1, l1, y1, z1⟩, st1⟩ := Jvm.LawKit.callS X0 hx (y := oM23) hown (mvT hZ (oW hw 154 rfl)) (mvT hZ (oW hw 155 rfl)) (mvT hZ (oW hw 106 rfl)) (mvT hZ (oW hw 156 rfl)) (by decide) (backOf (W := 0) (rm33 l Z aV hw [] p1 a0 kb nn vs fv h0 n0 Z0 V_a0 S_SIOOBE_FORMATTER hfv hat.1) hZ (oW hw 156 rfl) (oW hw 106 rfl) (by decide) (by decide)) (g := (mkF m 2 #[.val (.ref a0), .val (.int p1)] [(.ref a0), (.int p1)])) rfl (by rw [hml]; rfl) (argsL := [(.int p1), (.ref a0)]) (rest := []) (lenOf pd__I_B_V rfl) rfl (by show 2 * 0 + _ ≤ _; exact Nat.le_of_eq rfl) (hb hby d32_2) (fun _ _ => ⟨rfl, e0, (by decide : 0 + 0 ≤ _), (by decide : 0 + 0 ≤ _)⟩)
  dsimp only [Pt.U, Pt.locs, Pt.cells, Pt.slots] at X1 l1 y1 z1 st1 hQ1
  subst l1 y1 z1
  obtain ⟨rfl, N1q, e1⟩ := hQ1
  have N1 := Fr.app N0 N1q
  refine og (T1.setTop (mkF m 5 #[.val (.ref a0), .val (.int p1)] [])) ?_ st1
  refine og (T1.setTop (mkF m 7 #[.val (.ref a0), .val (.int p1)] [(.int p1), (.ref a0)])) ?_ (fun tX kX => XS.aloadN X1.here hx rfl (hb hby d32_5) rfl rfl (XS.iloadN X1.here hx rfl (hb hby d32_6) rfl kX))
  obtain ⟨_, _, ⟨T2, L2, k2, n2⟩, -, X2, ⟨Lc2, hQ2, l2, y2, z2⟩, st2⟩ := Jvm.LawKit.callS X1 hx (y := oM24) hown (mvT hZ (oW hw 158 rfl)) (mvT hZ (oW hw 159 rfl)) (mvT hZ (oW hw 106 rfl)) (mvT hZ (oW hw 160 rfl)) (by decide) (backOf (W := 0) (rm34 l Z aV hw [] a0 p1 kb nn vs xa xb h0 n0 Z0 V_a0 S__assertionsDisabled S_HI_BYTE_SHIFT S_LO_BYTE_SHIFT hat) hZ (oW hw 160 rfl) (oW hw 106 rfl) (by decide) (by decide)) (g := (mkF m 7 #[.val (.ref a0), .val (.int p1)] [(.int p1), (.ref a0)])) rfl (by rw [hml]; rfl) (argsL := [(.ref a0), (.int p1)]) (rest := []) (lenOf pd___BI_C rfl) rfl (by show 2 * 0 + _ ≤ _; exact Nat.le_of_eq rfl) (hb hby d32_7) (fun _ _ => ⟨rfl, e1, (by decide : 0 + 0 ≤ _), (by decide : 0 + 0 ≤ _)⟩)
  dsimp only [Pt.U, Pt.locs, Pt.cells, Pt.slots] at X2 l2 y2 z2 st2 hQ2
  subst l2 y2 z2
  obtain ⟨rfl, N2q, e2⟩ := hQ2
  have N2 := Fr.app N1 N2q
  refine og (T2.setTop (mkF m 10 #[.val (.ref a0), .val (.int p1)] [(.int (own_gc xa xb))])) ?_ st2
  refine OGo.ret X2 (v := (some (.int ((own_gc xa xb).toUInt32.toUInt16.toUInt32.toInt32)))) (fun h => by rw [Bd.returns] at h; cases h) (BodyLoose.notSynchronized Bd) (fun fs hr => retN X2 hx (t := .char) (z := (own_gc xa xb)) Bd.returns (by simp) (hb hby d32_10) hr) (Q := Q32 Z a0 p1 kb nn vs xa xb fv h0 n0) ?_ (by decide) (by decide)
  show Q32 Z a0 p1 kb nn vs xa xb fv h0 n0 _ T2.heap _
  rw [e2]
  exact ⟨(congrArg (fun z => some (Value.int z)) (own_gcc _ _)), N2, rfl⟩
theorem d11_16 : oD11 16 (.aload_n 0) 1 := by decide +kernel
theorem d11_17 : oD11 17 (.getfield 9) 3 := by decide +kernel
theorem d11_20 : oD11 20 (.iload_n 1) 1 := by decide +kernel
theorem d11_21 : oD11 21 (.invokestatic 498) 3 := by decide +kernel
theorem d11_24 : oD11 24 .ireturn 1 := by decide +kernel
def Q11U (Z : State) (a0 : Addr) (p1 : Int32) (vb : Addr) (kb : ClassId) (nn : Int32) (vs : List Value) (xa : Int32) (xb : Int32) (cs : Int32) (fv : Value) (h0 : Heap) (n0 : Nat) (v : Option Value) (h : Heap) (L : List Loc) : Prop := v = some (.int (own_gc xa xb)) ∧ Fr n0 L ∧ h = h0
def P11U (Z : State) (a0 : Addr) (p1 : Int32) (vb : Addr) (kb : ClassId) (nn : Int32) (vs : List Value) (xa : Int32) (xb : Int32) (cs : Int32) (fv : Value) (h0 : Heap) (n0 : Nat) (s : State) (o : Outcome) (U' : State) : Prop := ∃ v L, o = .returned v ∧ Q11U Z a0 p1 vb kb nn vs xa xb cs fv h0 n0 v U'.heap L ∧ FrameEnd s o U' L oR5.cells oR5.slots
set_option maxRecDepth 65536 in
set_option maxHeartbeats 40000000 in
theorem rm11U (l : Launch) (Z : State) (aV : Array Value) (hw : ∀ d ∈ tables_1, d.before aV Z = true) (ws : List Jvm.Cond) (a0 : Addr) (p1 : Int32) (vb : Addr) (kb : ClassId) (nn : Int32) (vs : List Value) (xa : Int32) (xb : Int32) (cs : Int32) (fv : Value) (h0 : Heap) (n0 : Nat) (Z0 : n0 ≤ h0.size) (E_a0 : Exa Z h0 a0 "java/lang/String") (F_value_a0 : Fld Z h0 a0 "java/lang/String" "value" "[B" (.ref vb)) (F_coder_a0 : Fld Z h0 a0 "java/lang/String" "coder" "B" (.int 1)) (V_vb : Arv Z h0 vb kb .byte nn vs (.int 0)) (S_COMPACT_STRINGS : Sta Z h0 "java/lang/String" "COMPACT_STRINGS" "Z" (.int cs)) (S_SIOOBE_FORMATTER : Sta Z h0 "jdk/internal/util/Preconditions" "SIOOBE_FORMATTER" "Ljava/util/function/BiFunction;" fv) (S__assertionsDisabled : Sta Z h0 "java/lang/StringUTF16" "$assertionsDisabled" "Z" (.int 1)) (S_HI_BYTE_SHIFT : Sta Z h0 "java/lang/StringUTF16" "HI_BYTE_SHIFT" "I" (.int 0)) (S_LO_BYTE_SHIFT : Sta Z h0 "java/lang/StringUTF16" "LO_BYTE_SHIFT" "I" (.int 8)) (hcs : ¬ cs = 0) (hfv : fv.isRef = true) (hat : own_at p1 nn vs xa xb) :
    MetFree l oM21 (head1 (Jvm.Cond.code oM21 jdk_42_method_56_code 2 (some .char) :: ws) oR5) (fun a U => a = #[(.ref a0), (.int p1)] ∧ Z.Warmed39 U.vm ∧ U.heap = h0) (fun _ _ _ _ _ => True) (fun _ U o U' => ∃ v L, o = .returned v ∧ Q11U Z a0 p1 vb kb nn vs xa xb cs fv h0 n0 v U'.heap L ∧ FrameEnd U o U' L oR5.cells oR5.slots) := by
  refine MetFree.of_bodySF (plainFor_of_name pn_java_lang_String) hisR ?_
  intro p e s m args below meth c s₁ Bd hml0 hP hK
  obtain ⟨rfl, hZ, hh⟩ := hP
  have hx := Bd.exec
  have hby := Bd.bytes
  have hml : c.maxLocals = 2 := hml0
  have hown : s.vm.findClass "java/lang/String" = some m.cls := findClass_of_methodNamed Bd.named
  have hnm := (name_of_methodNamed Bd.named Bd.method).1
  have X0 : Stand p l e oR5 s m #[(.ref a0), (.int p1)] below meth c s₁ [] 0 0 := Stand.of_body Bd
  have e0 : s₁.heap = h0 := by rw [← hh, Bd.state]; rfl
  have efx : entryFrame m #[(.ref a0), (.int p1)] 2 = mkF m 0 #[.val (.ref a0), .val (.int p1)] [] := by first | (simp [entryFrame, mkF, argsToLocals, Value.category]; done) | rfl
  have N0 := Fr.nil n0
  have K0 : Keep h0 h0 [] := Keep.refl h0 _
  refine OGo.start (g' := mkF m 0 #[.val (.ref a0), .val (.int p1)] []) (efx) ?_
  show OGo p.tables e below (P11U Z a0 p1 vb kb nn vs xa xb cs fv h0 n0 s) (s₁.setTop (mkF m 0 #[.val (.ref a0), .val (.int p1)] []))
  refine og (s₁.setTop (mkF m 1 #[.val (.ref a0), .val (.int p1)] [(.ref a0)])) ?_ (fun tX kX => XS.aloadN X0.here hx rfl (hb hby d11_0) rfl rfl kX)
  obtain ⟨cq1, kq1, q1a, q1b, q1c⟩ := isOf hZ e0 E_a0
  obtain ⟨_, _, ⟨T1, L1, k1, n1⟩, -, X1, ⟨Lc1, hQ1, l1, y1, z1⟩, st1⟩ := X0.virtualBack hx (y := oM16) (z := oM16) hown (mvT hZ (oW hw 71 rfl)) (mvT hZ (oW hw 72 rfl)) (notFace_of_selects (args := #[]) (mvT hZ (oW hw 74 rfl))) (mvT hZ (oW hw 74 rfl)) (mvT hZ (oW hw 73 rfl)) (by decide) (backOf (W := 0) (rm12k1 l Z aV hw [] a0 cs h0 n0 Z0 F_coder_a0 S_COMPACT_STRINGS hcs) hZ (oW hw 75 rfl) (oW hw 9 rfl) (by decide) (by decide)) q1a q1c (g := (mkF m 1 #[.val (.ref a0), .val (.int p1)] [(.ref a0)])) rfl (by rw [hml]; rfl) (Steps.refl _) (argsL := []) (rest := []) (lenOf pd___Z rfl) rfl (by show 2 * 0 + _ ≤ _; exact Nat.le_of_eq rfl) (hb hby d11_1) (fun _ _ => ⟨rfl, e0, (by decide : 0 + 0 ≤ _), (by decide : 0 + 0 ≤ _)⟩)
  dsimp only [Pt.U, Pt.locs, Pt.cells, Pt.slots] at X1 l1 y1 z1 st1 hQ1
  subst l1 y1 z1
  obtain ⟨rfl, N1q, e1⟩ := hQ1
  have N1 := Fr.app N0 N1q
  refine og (T1.setTop (mkF m 4 #[.val (.ref a0), .val (.int p1)] [(.int 0)])) ?_ (fun tX kX => st1.trans kX)
  refine og (T1.setTop (mkF m 17 #[.val (.ref a0), .val (.int p1)] [(.ref a0)])) ?_ (fun tX kX => XS.ifYes X1.here hx rfl (pc0 := 4) (pc' := 16) rfl (hb hby d11_4) rfl ((if0 _ _).trans (teq (by decide)).1) (by decide) (by decide) (XS.aloadN X1.here hx rfl (hb hby d11_16) rfl rfl kX))
  obtain ⟨T2, X2, e2, st2⟩ := getF X1 hx hZ hown (host := "") (Or.inl (oW hw 48 rfl)) Via.refl e1 F_value_a0 (g := (mkF m 17 #[.val (.ref a0), .val (.int p1)] [(.ref a0)])) rfl rfl (hb hby d11_17)
  refine og (T2.setTop (mkF m 20 #[.val (.ref a0), .val (.int p1)] [(.ref vb)])) ?_ st2
  refine og (T2.setTop (mkF m 21 #[.val (.ref a0), .val (.int p1)] [(.int p1), (.ref vb)])) ?_ (fun tX kX => XS.iloadN X2.here hx rfl (hb hby d11_20) rfl kX)
  obtain ⟨_, _, ⟨T3, L3, k3, n3⟩, -, X3, ⟨Lc3, hQ3, l3, y3, z3⟩, st3⟩ := Jvm.LawKit.callS X2 hx (y := oM25) hown (mvT hZ (oW hw 151 rfl)) (mvT hZ (oW hw 152 rfl)) (mvT hZ (oW hw 106 rfl)) (mvT hZ (oW hw 153 rfl)) (by decide) (backOf (W := 0) (rm32 l Z aV hw [] vb p1 kb nn vs xa xb fv h0 n0 Z0 V_vb S_SIOOBE_FORMATTER S__assertionsDisabled S_HI_BYTE_SHIFT S_LO_BYTE_SHIFT hfv hat) hZ (oW hw 153 rfl) (oW hw 106 rfl) (by decide) (by decide)) (g := (mkF m 21 #[.val (.ref a0), .val (.int p1)] [(.int p1), (.ref vb)])) rfl (by rw [hml]; rfl) (argsL := [(.ref vb), (.int p1)]) (rest := []) (lenOf pd___BI_C rfl) rfl (by show 2 * 0 + _ ≤ _; exact Nat.le_of_eq rfl) (hb hby d11_21) (fun _ _ => ⟨rfl, e2, (by decide : 0 + 0 ≤ _), (by decide : 0 + 0 ≤ _)⟩)
  dsimp only [Pt.U, Pt.locs, Pt.cells, Pt.slots] at X3 l3 y3 z3 st3 hQ3
  subst l3 y3 z3
  obtain ⟨rfl, N3q, e3⟩ := hQ3
  have N3 := Fr.app N1 N3q
  refine og (T3.setTop (mkF m 24 #[.val (.ref a0), .val (.int p1)] [(.int (own_gc xa xb))])) ?_ st3
  refine OGo.ret X3 (v := (some (.int ((own_gc xa xb).toUInt32.toUInt16.toUInt32.toInt32)))) (fun h => by rw [Bd.returns] at h; cases h) (BodyLoose.notSynchronized Bd) (fun fs hr => retN X3 hx (t := .char) (z := (own_gc xa xb)) Bd.returns (by simp) (hb hby d11_24) hr) (Q := Q11U Z a0 p1 vb kb nn vs xa xb cs fv h0 n0) ?_ (by decide) (by decide)
  show Q11U Z a0 p1 vb kb nn vs xa xb cs fv h0 n0 _ T3.heap _
  rw [e3]
  exact ⟨(congrArg (fun z => some (Value.int z)) (own_gcc _ _)), N3, rfl⟩
theorem d8_0 : oD8 0 (.aload_n 0) 1 := by decide +kernel
theorem d8_1 : oD8 1 (.invokevirtual 25) 3 := by decide +kernel
theorem pd___I : parseMethodDescriptor "()I" = some ⟨[], some .int⟩ := by decide +kernel
theorem d8_4 : oD8 4 (.iconst 2) 1 := by decide +kernel
theorem d8_5 : oD8 5 (.if_icmp .ne 25) 3 := by decide +kernel
theorem d8_8 : oD8 8 (.aload_n 0) 1 := by decide +kernel
theorem d8_9 : oD8 9 (.iconst 0) 1 := by decide +kernel
theorem d8_10 : oD8 10 (.invokevirtual 31) 3 := by decide +kernel
theorem pd__I_C : parseMethodDescriptor "(I)C" = some ⟨[.int], some .char⟩ := by decide +kernel
theorem d8_13 : oD8 13 (.iload_n 1) 1 := by decide +kernel
theorem d8_14 : oD8 14 (.if_icmp .ne 16) 3 := by decide +kernel
theorem d8_17 : oD8 17 (.aload_n 0) 1 := by decide +kernel
theorem d8_18 : oD8 18 (.iconst 1) 1 := by decide +kernel
theorem d8_19 : oD8 19 (.invokevirtual 31) 3 := by decide +kernel
theorem d8_22 : oD8 22 (.iload_n 2) 1 := by decide +kernel
theorem d8_23 : oD8 23 (.if_icmp .ne 7) 3 := by decide +kernel
theorem d8_26 : oD8 26 (.iconst 1) 1 := by decide +kernel
theorem d8_27 : oD8 27 (.goto 4) 3 := by decide +kernel
theorem d8_31 : oD8 31 .ireturn 1 := by decide +kernel
theorem pn_com_example_claimward_claimward_keys_KeyLocationTextPinLaw : plainName "com/example/claimward/claimward/keys/KeyLocationTextPinLaw" = true := by first | (simp [plainName, overriddenIn]; done) | decide +kernel
def Q8L (Z : State) (a0 : Addr) (p1 : Int32) (p2 : Int32) (vb : Addr) (kb : ClassId) (xa : Int32) (xb : Int32) (cs : Int32) (fv : Value) (h0 : Heap) (n0 : Nat) (v : Option Value) (h : Heap) (L : List Loc) : Prop := v = some (.int 1) ∧ Fr n0 L ∧ h = h0
def P8L (Z : State) (a0 : Addr) (p1 : Int32) (p2 : Int32) (vb : Addr) (kb : ClassId) (xa : Int32) (xb : Int32) (cs : Int32) (fv : Value) (h0 : Heap) (n0 : Nat) (s : State) (o : Outcome) (U' : State) : Prop := ∃ v L, o = .returned v ∧ Q8L Z a0 p1 p2 vb kb xa xb cs fv h0 n0 v U'.heap L ∧ FrameEnd s o U' L oR5.cells oR5.slots
set_option maxRecDepth 65536 in
set_option maxHeartbeats 40000000 in
theorem rm8L (l : Launch) (Z : State) (aV : Array Value) (hw : ∀ d ∈ tables_1, d.before aV Z = true) (ws : List Jvm.Cond) (a0 : Addr) (p1 : Int32) (p2 : Int32) (vb : Addr) (kb : ClassId) (xa : Int32) (xb : Int32) (cs : Int32) (fv : Value) (h0 : Heap) (n0 : Nat) (Z0 : n0 ≤ h0.size) (E_a0 : Exa Z h0 a0 "java/lang/String") (F_value_a0 : Fld Z h0 a0 "java/lang/String" "value" "[B" (.ref vb)) (F_coder_a0 : Fld Z h0 a0 "java/lang/String" "coder" "B" (.int 0)) (V_vb : Arv Z h0 vb kb .byte (2 : Int32) [(.int xa), (.int xb)] (.int 0)) (S_COMPACT_STRINGS : Sta Z h0 "java/lang/String" "COMPACT_STRINGS" "Z" (.int cs)) (S_SIOOBE_FORMATTER : Sta Z h0 "jdk/internal/util/Preconditions" "SIOOBE_FORMATTER" "Ljava/util/function/BiFunction;" fv) (hcs : ¬ cs = 0) (hfv : fv.isRef = true) (ea : own_l1 xa = p1) (eb : own_l1 xb = p2) :
    MetFree l oM26 (head1 (Jvm.Cond.code oM26 method_3_code 3 (some .boolean) :: ws) oR5) (fun a U => a = #[(.ref a0), (.int p1), (.int p2)] ∧ Z.Warmed39 U.vm ∧ U.heap = h0) (fun _ _ _ _ _ => True) (fun _ U o U' => ∃ v L, o = .returned v ∧ Q8L Z a0 p1 p2 vb kb xa xb cs fv h0 n0 v U'.heap L ∧ FrameEnd U o U' L oR5.cells oR5.slots) := by
  refine MetFree.of_bodySF (plainFor_of_name pn_com_example_claimward_claimward_keys_KeyLocationTextPinLaw) hisR ?_
  intro p e s m args below meth c s₁ Bd hml0 hP hK
  obtain ⟨rfl, hZ, hh⟩ := hP
  have hx := Bd.exec
  have hby := Bd.bytes
  have hml : c.maxLocals = 3 := hml0
  have hown : s.vm.findClass "com/example/claimward/claimward/keys/KeyLocationTextPinLaw" = some m.cls := findClass_of_methodNamed Bd.named
  have hnm := (name_of_methodNamed Bd.named Bd.method).1
  have X0 : Stand p l e oR5 s m #[(.ref a0), (.int p1), (.int p2)] below meth c s₁ [] 0 0 := Stand.of_body Bd
  have e0 : s₁.heap = h0 := by rw [← hh, Bd.state]; rfl
  have efx : entryFrame m #[(.ref a0), (.int p1), (.int p2)] 3 = mkF m 0 #[.val (.ref a0), .val (.int p1), .val (.int p2)] [] := by first | (simp [entryFrame, mkF, argsToLocals, Value.category]; done) | rfl
  have N0 := Fr.nil n0
  have K0 : Keep h0 h0 [] := Keep.refl h0 _
  refine OGo.start (g' := mkF m 0 #[.val (.ref a0), .val (.int p1), .val (.int p2)] []) (efx) ?_
  show OGo p.tables e below (P8L Z a0 p1 p2 vb kb xa xb cs fv h0 n0 s) (s₁.setTop (mkF m 0 #[.val (.ref a0), .val (.int p1), .val (.int p2)] []))
  refine og (s₁.setTop (mkF m 1 #[.val (.ref a0), .val (.int p1), .val (.int p2)] [(.ref a0)])) ?_ (fun tX kX => XS.aloadN X0.here hx rfl (hb hby d8_0) rfl rfl kX)
  obtain ⟨cq1, kq1, q1a, q1b, q1c⟩ := isOf hZ e0 E_a0
  obtain ⟨_, _, ⟨T1, L1, k1, n1⟩, -, X1, ⟨Lc1, hQ1, l1, y1, z1⟩, st1⟩ := X0.virtualBack hx (y := oM15) (z := oM15) hown (mvT hZ (oW hw 56 rfl)) (mvT hZ (oW hw 57 rfl)) (notFace_of_selects (args := #[]) (mvT hZ (oW hw 59 rfl))) (mvT hZ (oW hw 59 rfl)) (mvT hZ (oW hw 58 rfl)) (by decide) (backOf (W := 0) (rm9 l Z aV hw [] a0 vb kb (2 : Int32) [(.int xa), (.int xb)] (0 : Int32) cs h0 n0 Z0 E_a0 F_value_a0 F_coder_a0 V_vb S_COMPACT_STRINGS hcs (by decide)) hZ (oW hw 60 rfl) (oW hw 9 rfl) (by decide) (by decide)) q1a q1c (g := (mkF m 1 #[.val (.ref a0), .val (.int p1), .val (.int p2)] [(.ref a0)])) rfl (by rw [hml]; rfl) (Steps.refl _) (argsL := []) (rest := []) (lenOf pd___I rfl) rfl (by show 2 * 0 + _ ≤ _; exact Nat.le_of_eq rfl) (hb hby d8_1) (fun _ _ => ⟨rfl, e0, (by decide : 0 + 0 ≤ _), (by decide : 0 + 0 ≤ _)⟩)
  dsimp only [Pt.U, Pt.locs, Pt.cells, Pt.slots] at X1 l1 y1 z1 st1 hQ1
  subst l1 y1 z1
  obtain ⟨rfl, N1q, e1⟩ := hQ1
  have N1 := Fr.app N0 N1q
  refine og (T1.setTop (mkF m 4 #[.val (.ref a0), .val (.int p1), .val (.int p2)] [(.int ((2 : Int32) >>> ((0 : Int32) &&& 31)))])) ?_ (fun tX kX => st1.trans kX)
  refine og (T1.setTop (mkF m 10 #[.val (.ref a0), .val (.int p1), .val (.int p2)] [(.int 0), (.ref a0)])) ?_ (fun tX kX => XS.iconst X1.here hx rfl (hb hby d8_4) (XS.icmpNo X1.here hx rfl (hb hby d8_5) rfl (teq (by decide)).2 (XS.aloadN X1.here hx rfl (hb hby d8_8) rfl rfl (XS.iconst X1.here hx rfl (hb hby d8_9) kX))))
  obtain ⟨cq2, kq2, q2a, q2b, q2c⟩ := isOf hZ e1 E_a0
  obtain ⟨_, _, ⟨T2, L2, k2, n2⟩, -, X2, ⟨Lc2, hQ2, l2, y2, z2⟩, st2⟩ := X1.virtualBack hx (y := oM21) (z := oM21) hown (mvT hZ (oW hw 66 rfl)) (mvT hZ (oW hw 67 rfl)) (notFace_of_selects (args := #[]) (mvT hZ (oW hw 69 rfl))) (mvT hZ (oW hw 69 rfl)) (mvT hZ (oW hw 68 rfl)) (by decide) (backOf (W := 0) (rm11L l Z aV hw [] a0 (0 : Int32) vb kb (2 : Int32) [(.int xa), (.int xb)] cs fv xa h0 n0 Z0 E_a0 F_value_a0 F_coder_a0 V_vb S_COMPACT_STRINGS S_SIOOBE_FORMATTER hcs hfv ⟨by decide, by decide⟩ rfl) hZ (oW hw 70 rfl) (oW hw 9 rfl) (by decide) (by decide)) q2a q2c (g := (mkF m 10 #[.val (.ref a0), .val (.int p1), .val (.int p2)] [(.int 0), (.ref a0)])) rfl (by rw [hml]; rfl) (Steps.refl _) (argsL := [(.int 0)]) (rest := []) (lenOf pd__I_C rfl) rfl (by show 2 * 0 + _ ≤ _; exact Nat.le_of_eq rfl) (hb hby d8_10) (fun _ _ => ⟨rfl, e1, (by decide : 0 + 0 ≤ _), (by decide : 0 + 0 ≤ _)⟩)
  dsimp only [Pt.U, Pt.locs, Pt.cells, Pt.slots] at X2 l2 y2 z2 st2 hQ2
  subst l2 y2 z2
  obtain ⟨rfl, N2q, e2⟩ := hQ2
  have N2 := Fr.app N1 N2q
  refine og (T2.setTop (mkF m 13 #[.val (.ref a0), .val (.int p1), .val (.int p2)] [(.int (own_l1 xa))])) ?_ (fun tX kX => st2.trans kX)
  refine og (T2.setTop (mkF m 19 #[.val (.ref a0), .val (.int p1), .val (.int p2)] [(.int 1), (.ref a0)])) ?_ (fun tX kX => XS.iloadN X2.here hx rfl (hb hby d8_13) rfl (XS.icmpNo X2.here hx rfl (hb hby d8_14) rfl (teq ea).2 (XS.aloadN X2.here hx rfl (hb hby d8_17) rfl rfl (XS.iconst X2.here hx rfl (hb hby d8_18) kX))))
  obtain ⟨cq3, kq3, q3a, q3b, q3c⟩ := isOf hZ e2 E_a0
  obtain ⟨_, _, ⟨T3, L3, k3, n3⟩, -, X3, ⟨Lc3, hQ3, l3, y3, z3⟩, st3⟩ := X2.virtualBack hx (y := oM21) (z := oM21) hown (mvT hZ (oW hw 66 rfl)) (mvT hZ (oW hw 67 rfl)) (notFace_of_selects (args := #[]) (mvT hZ (oW hw 69 rfl))) (mvT hZ (oW hw 69 rfl)) (mvT hZ (oW hw 68 rfl)) (by decide) (backOf (W := 0) (rm11L l Z aV hw [] a0 (1 : Int32) vb kb (2 : Int32) [(.int xa), (.int xb)] cs fv xb h0 n0 Z0 E_a0 F_value_a0 F_coder_a0 V_vb S_COMPACT_STRINGS S_SIOOBE_FORMATTER hcs hfv ⟨by decide, by decide⟩ rfl) hZ (oW hw 70 rfl) (oW hw 9 rfl) (by decide) (by decide)) q3a q3c (g := (mkF m 19 #[.val (.ref a0), .val (.int p1), .val (.int p2)] [(.int 1), (.ref a0)])) rfl (by rw [hml]; rfl) (Steps.refl _) (argsL := [(.int 1)]) (rest := []) (lenOf pd__I_C rfl) rfl (by show 2 * 0 + _ ≤ _; exact Nat.le_of_eq rfl) (hb hby d8_19) (fun _ _ => ⟨rfl, e2, (by decide : 0 + 0 ≤ _), (by decide : 0 + 0 ≤ _)⟩)
  dsimp only [Pt.U, Pt.locs, Pt.cells, Pt.slots] at X3 l3 y3 z3 st3 hQ3
  subst l3 y3 z3
  obtain ⟨rfl, N3q, e3⟩ := hQ3
  have N3 := Fr.app N2 N3q
  refine og (T3.setTop (mkF m 22 #[.val (.ref a0), .val (.int p1), .val (.int p2)] [(.int (own_l1 xb))])) ?_ (fun tX kX => st3.trans kX)
  refine og (T3.setTop (mkF m 31 #[.val (.ref a0), .val (.int p1), .val (.int p2)] [(.int 1)])) ?_ (fun tX kX => XS.iloadN X3.here hx rfl (hb hby d8_22) rfl (XS.icmpNo X3.here hx rfl (hb hby d8_23) rfl (teq eb).2 (XS.iconst X3.here hx rfl (hb hby d8_26) (XS.goto X3.here hx rfl (pc0 := 27) (pc' := 31) rfl (hb hby d8_27) (by decide) (by decide) kX))))
  refine OGo.ret X3 (v := (some (.int 1))) (fun h => by rw [Bd.returns] at h; cases h) (BodyLoose.notSynchronized Bd) (fun fs hr => retN X3 hx (t := .boolean) (z := (1 : Int32)) Bd.returns (by simp) (hb hby d8_31) hr) (Q := Q8L Z a0 p1 p2 vb kb xa xb cs fv h0 n0) ?_ (by decide) (by decide)
  show Q8L Z a0 p1 p2 vb kb xa xb cs fv h0 n0 _ T3.heap _
  rw [e3]
  exact ⟨rfl, N3, rfl⟩
def Q8U (Z : State) (a0 : Addr) (p1 : Int32) (p2 : Int32) (vb : Addr) (kb : ClassId) (ca : Int32) (cb : Int32) (cs : Int32) (fv : Value) (h0 : Heap) (n0 : Nat) (v : Option Value) (h : Heap) (L : List Loc) : Prop := v = some (.int 1) ∧ Fr n0 L ∧ h = h0
def P8U (Z : State) (a0 : Addr) (p1 : Int32) (p2 : Int32) (vb : Addr) (kb : ClassId) (ca : Int32) (cb : Int32) (cs : Int32) (fv : Value) (h0 : Heap) (n0 : Nat) (s : State) (o : Outcome) (U' : State) : Prop := ∃ v L, o = .returned v ∧ Q8U Z a0 p1 p2 vb kb ca cb cs fv h0 n0 v U'.heap L ∧ FrameEnd s o U' L oR6.cells oR6.slots
set_option maxRecDepth 65536 in
set_option maxHeartbeats 40000000 in
theorem rm8U (l : Launch) (Z : State) (aV : Array Value) (hw : ∀ d ∈ tables_1, d.before aV Z = true) (ws : List Jvm.Cond) (a0 : Addr) (p1 : Int32) (p2 : Int32) (vb : Addr) (kb : ClassId) (ca : Int32) (cb : Int32) (cs : Int32) (fv : Value) (h0 : Heap) (n0 : Nat) (Z0 : n0 ≤ h0.size) (E_a0 : Exa Z h0 a0 "java/lang/String") (F_value_a0 : Fld Z h0 a0 "java/lang/String" "value" "[B" (.ref vb)) (F_coder_a0 : Fld Z h0 a0 "java/lang/String" "coder" "B" (.int 1)) (V_vb : Arv Z h0 vb kb .byte (4 : Int32) [(.int (own_lo ca)), (.int (own_hi ca)), (.int (own_lo cb)), (.int (own_hi cb))] (.int 0)) (S_COMPACT_STRINGS : Sta Z h0 "java/lang/String" "COMPACT_STRINGS" "Z" (.int cs)) (S_SIOOBE_FORMATTER : Sta Z h0 "jdk/internal/util/Preconditions" "SIOOBE_FORMATTER" "Ljava/util/function/BiFunction;" fv) (S__assertionsDisabled : Sta Z h0 "java/lang/StringUTF16" "$assertionsDisabled" "Z" (.int 1)) (S_HI_BYTE_SHIFT : Sta Z h0 "java/lang/StringUTF16" "HI_BYTE_SHIFT" "I" (.int 0)) (S_LO_BYTE_SHIFT : Sta Z h0 "java/lang/StringUTF16" "LO_BYTE_SHIFT" "I" (.int 8)) (hcs : ¬ cs = 0) (hfv : fv.isRef = true) (ea : own_gc (own_lo ca) (own_hi ca) = p1) (eb : own_gc (own_lo cb) (own_hi cb) = p2) :
    MetFree l oM26 (head1 (Jvm.Cond.code oM26 method_3_code 3 (some .boolean) :: ws) oR6) (fun a U => a = #[(.ref a0), (.int p1), (.int p2)] ∧ Z.Warmed39 U.vm ∧ U.heap = h0) (fun _ _ _ _ _ => True) (fun _ U o U' => ∃ v L, o = .returned v ∧ Q8U Z a0 p1 p2 vb kb ca cb cs fv h0 n0 v U'.heap L ∧ FrameEnd U o U' L oR6.cells oR6.slots) := by
  refine MetFree.of_bodySF (plainFor_of_name pn_com_example_claimward_claimward_keys_KeyLocationTextPinLaw) hisR ?_
  intro p e s m args below meth c s₁ Bd hml0 hP hK
  obtain ⟨rfl, hZ, hh⟩ := hP
  have hx := Bd.exec
  have hby := Bd.bytes
  have hml : c.maxLocals = 3 := hml0
  have hown : s.vm.findClass "com/example/claimward/claimward/keys/KeyLocationTextPinLaw" = some m.cls := findClass_of_methodNamed Bd.named
  have hnm := (name_of_methodNamed Bd.named Bd.method).1
  have X0 : Stand p l e oR6 s m #[(.ref a0), (.int p1), (.int p2)] below meth c s₁ [] 0 0 := Stand.of_body Bd
  have e0 : s₁.heap = h0 := by rw [← hh, Bd.state]; rfl
  have efx : entryFrame m #[(.ref a0), (.int p1), (.int p2)] 3 = mkF m 0 #[.val (.ref a0), .val (.int p1), .val (.int p2)] [] := by first | (simp [entryFrame, mkF, argsToLocals, Value.category]; done) | rfl
  have N0 := Fr.nil n0
  have K0 : Keep h0 h0 [] := Keep.refl h0 _
  refine OGo.start (g' := mkF m 0 #[.val (.ref a0), .val (.int p1), .val (.int p2)] []) (efx) ?_
  show OGo p.tables e below (P8U Z a0 p1 p2 vb kb ca cb cs fv h0 n0 s) (s₁.setTop (mkF m 0 #[.val (.ref a0), .val (.int p1), .val (.int p2)] []))
  refine og (s₁.setTop (mkF m 1 #[.val (.ref a0), .val (.int p1), .val (.int p2)] [(.ref a0)])) ?_ (fun tX kX => XS.aloadN X0.here hx rfl (hb hby d8_0) rfl rfl kX)
  obtain ⟨cq1, kq1, q1a, q1b, q1c⟩ := isOf hZ e0 E_a0
  obtain ⟨_, _, ⟨T1, L1, k1, n1⟩, -, X1, ⟨Lc1, hQ1, l1, y1, z1⟩, st1⟩ := X0.virtualBack hx (y := oM15) (z := oM15) hown (mvT hZ (oW hw 56 rfl)) (mvT hZ (oW hw 57 rfl)) (notFace_of_selects (args := #[]) (mvT hZ (oW hw 59 rfl))) (mvT hZ (oW hw 59 rfl)) (mvT hZ (oW hw 58 rfl)) (by decide) (backOf (W := 0) (rm9 l Z aV hw [] a0 vb kb (4 : Int32) [(.int (own_lo ca)), (.int (own_hi ca)), (.int (own_lo cb)), (.int (own_hi cb))] (1 : Int32) cs h0 n0 Z0 E_a0 F_value_a0 F_coder_a0 V_vb S_COMPACT_STRINGS hcs (by decide)) hZ (oW hw 60 rfl) (oW hw 9 rfl) (by decide) (by decide)) q1a q1c (g := (mkF m 1 #[.val (.ref a0), .val (.int p1), .val (.int p2)] [(.ref a0)])) rfl (by rw [hml]; rfl) (Steps.refl _) (argsL := []) (rest := []) (lenOf pd___I rfl) rfl (by show 2 * 0 + _ ≤ _; exact Nat.le_of_eq rfl) (hb hby d8_1) (fun _ _ => ⟨rfl, e0, (by decide : 0 + 0 ≤ _), (by decide : 0 + 0 ≤ _)⟩)
  dsimp only [Pt.U, Pt.locs, Pt.cells, Pt.slots] at X1 l1 y1 z1 st1 hQ1
  subst l1 y1 z1
  obtain ⟨rfl, N1q, e1⟩ := hQ1
  have N1 := Fr.app N0 N1q
  refine og (T1.setTop (mkF m 4 #[.val (.ref a0), .val (.int p1), .val (.int p2)] [(.int ((4 : Int32) >>> ((1 : Int32) &&& 31)))])) ?_ (fun tX kX => st1.trans kX)
  refine og (T1.setTop (mkF m 10 #[.val (.ref a0), .val (.int p1), .val (.int p2)] [(.int 0), (.ref a0)])) ?_ (fun tX kX => XS.iconst X1.here hx rfl (hb hby d8_4) (XS.icmpNo X1.here hx rfl (hb hby d8_5) rfl (teq (by decide)).2 (XS.aloadN X1.here hx rfl (hb hby d8_8) rfl rfl (XS.iconst X1.here hx rfl (hb hby d8_9) kX))))
  obtain ⟨cq2, kq2, q2a, q2b, q2c⟩ := isOf hZ e1 E_a0
  obtain ⟨_, _, ⟨T2, L2, k2, n2⟩, -, X2, ⟨Lc2, hQ2, l2, y2, z2⟩, st2⟩ := X1.virtualBack hx (y := oM21) (z := oM21) hown (mvT hZ (oW hw 66 rfl)) (mvT hZ (oW hw 67 rfl)) (notFace_of_selects (args := #[]) (mvT hZ (oW hw 69 rfl))) (mvT hZ (oW hw 69 rfl)) (mvT hZ (oW hw 68 rfl)) (by decide) (backOf (W := 0) (rm11U l Z aV hw [] a0 (0 : Int32) vb kb (4 : Int32) [(.int (own_lo ca)), (.int (own_hi ca)), (.int (own_lo cb)), (.int (own_hi cb))] (own_lo ca) (own_hi ca) cs fv h0 n0 Z0 E_a0 F_value_a0 F_coder_a0 V_vb S_COMPACT_STRINGS S_SIOOBE_FORMATTER S__assertionsDisabled S_HI_BYTE_SHIFT S_LO_BYTE_SHIFT hcs hfv (own_at4_0 _ _ _ _)) hZ (oW hw 70 rfl) (oW hw 9 rfl) (by decide) (by decide)) q2a q2c (g := (mkF m 10 #[.val (.ref a0), .val (.int p1), .val (.int p2)] [(.int 0), (.ref a0)])) rfl (by rw [hml]; rfl) (Steps.refl _) (argsL := [(.int 0)]) (rest := []) (lenOf pd__I_C rfl) rfl (by show 2 * 0 + _ ≤ _; exact Nat.le_of_eq rfl) (hb hby d8_10) (fun _ _ => ⟨rfl, e1, (by decide : 0 + 0 ≤ _), (by decide : 0 + 0 ≤ _)⟩)
  dsimp only [Pt.U, Pt.locs, Pt.cells, Pt.slots] at X2 l2 y2 z2 st2 hQ2
  subst l2 y2 z2
  obtain ⟨rfl, N2q, e2⟩ := hQ2
  have N2 := Fr.app N1 N2q
  refine og (T2.setTop (mkF m 13 #[.val (.ref a0), .val (.int p1), .val (.int p2)] [(.int (own_gc (own_lo ca) (own_hi ca)))])) ?_ (fun tX kX => st2.trans kX)
  refine og (T2.setTop (mkF m 19 #[.val (.ref a0), .val (.int p1), .val (.int p2)] [(.int 1), (.ref a0)])) ?_ (fun tX kX => XS.iloadN X2.here hx rfl (hb hby d8_13) rfl (XS.icmpNo X2.here hx rfl (hb hby d8_14) rfl (teq ea).2 (XS.aloadN X2.here hx rfl (hb hby d8_17) rfl rfl (XS.iconst X2.here hx rfl (hb hby d8_18) kX))))
  obtain ⟨cq3, kq3, q3a, q3b, q3c⟩ := isOf hZ e2 E_a0
  obtain ⟨_, _, ⟨T3, L3, k3, n3⟩, -, X3, ⟨Lc3, hQ3, l3, y3, z3⟩, st3⟩ := X2.virtualBack hx (y := oM21) (z := oM21) hown (mvT hZ (oW hw 66 rfl)) (mvT hZ (oW hw 67 rfl)) (notFace_of_selects (args := #[]) (mvT hZ (oW hw 69 rfl))) (mvT hZ (oW hw 69 rfl)) (mvT hZ (oW hw 68 rfl)) (by decide) (backOf (W := 0) (rm11U l Z aV hw [] a0 (1 : Int32) vb kb (4 : Int32) [(.int (own_lo ca)), (.int (own_hi ca)), (.int (own_lo cb)), (.int (own_hi cb))] (own_lo cb) (own_hi cb) cs fv h0 n0 Z0 E_a0 F_value_a0 F_coder_a0 V_vb S_COMPACT_STRINGS S_SIOOBE_FORMATTER S__assertionsDisabled S_HI_BYTE_SHIFT S_LO_BYTE_SHIFT hcs hfv (own_at4_1 _ _ _ _)) hZ (oW hw 70 rfl) (oW hw 9 rfl) (by decide) (by decide)) q3a q3c (g := (mkF m 19 #[.val (.ref a0), .val (.int p1), .val (.int p2)] [(.int 1), (.ref a0)])) rfl (by rw [hml]; rfl) (Steps.refl _) (argsL := [(.int 1)]) (rest := []) (lenOf pd__I_C rfl) rfl (by show 2 * 0 + _ ≤ _; exact Nat.le_of_eq rfl) (hb hby d8_19) (fun _ _ => ⟨rfl, e2, (by decide : 0 + 0 ≤ _), (by decide : 0 + 0 ≤ _)⟩)
  dsimp only [Pt.U, Pt.locs, Pt.cells, Pt.slots] at X3 l3 y3 z3 st3 hQ3
  subst l3 y3 z3
  obtain ⟨rfl, N3q, e3⟩ := hQ3
  have N3 := Fr.app N2 N3q
  refine og (T3.setTop (mkF m 22 #[.val (.ref a0), .val (.int p1), .val (.int p2)] [(.int (own_gc (own_lo cb) (own_hi cb)))])) ?_ (fun tX kX => st3.trans kX)
  refine og (T3.setTop (mkF m 31 #[.val (.ref a0), .val (.int p1), .val (.int p2)] [(.int 1)])) ?_ (fun tX kX => XS.iloadN X3.here hx rfl (hb hby d8_22) rfl (XS.icmpNo X3.here hx rfl (hb hby d8_23) rfl (teq eb).2 (XS.iconst X3.here hx rfl (hb hby d8_26) (XS.goto X3.here hx rfl (pc0 := 27) (pc' := 31) rfl (hb hby d8_27) (by decide) (by decide) kX))))
  refine OGo.ret X3 (v := (some (.int 1))) (fun h => by rw [Bd.returns] at h; cases h) (BodyLoose.notSynchronized Bd) (fun fs hr => retN X3 hx (t := .boolean) (z := (1 : Int32)) Bd.returns (by simp) (hb hby d8_31) hr) (Q := Q8U Z a0 p1 p2 vb kb ca cb cs fv h0 n0) ?_ (by decide) (by decide)
  show Q8U Z a0 p1 p2 vb kb ca cb cs fv h0 n0 _ T3.heap _
  rw [e3]
  exact ⟨rfl, N3, rfl⟩
theorem d6_0 : oD6 0 (.iload_n 1) 1 := by decide +kernel
theorem d6_1 : oD6 1 (.iload_n 2) 1 := by decide +kernel
theorem d6_2 : oD6 2 .iadd 1 := by decide +kernel
theorem d6_3 : oD6 3 (.istore_n 3) 1 := by decide +kernel
theorem d6_4 : oD6 4 (.iload_n 1) 1 := by decide +kernel
theorem d6_5 : oD6 5 (.istore 4) 2 := by decide +kernel
theorem d6_7 : oD6 7 (.iload 4) 2 := by decide +kernel
theorem d6_9 : oD6 9 (.iload_n 3) 1 := by decide +kernel
theorem d6_10 : oD6 10 (.if_icmp .ge 21) 3 := by decide +kernel
theorem d6_13 : oD6 13 (.aload_n 0) 1 := by decide +kernel
theorem d6_14 : oD6 14 (.iload 4) 2 := by decide +kernel
theorem d6_16 : oD6 16 .baload 1 := by decide +kernel
theorem d6_17 : oD6 17 (.ifCond .ge 8) 3 := by decide +kernel
theorem d6_25 : oD6 25 (.iinc 4 1) 3 := by decide +kernel
theorem d6_28 : oD6 28 (.goto (-21)) 3 := by decide +kernel
theorem d6_31 : oD6 31 (.iload_n 2) 1 := by decide +kernel
theorem d6_32 : oD6 32 .ireturn 1 := by decide +kernel
theorem pn_java_lang_StringCoding : plainName "java/lang/StringCoding" = true := by first | (simp [plainName, overriddenIn]; done) | decide +kernel
def Q6A1 (Z : State) (a0 : Addr) (kb : ClassId) (tv : Int32) (h0 : Heap) (n0 : Nat) (v : Option Value) (h : Heap) (L : List Loc) : Prop := v = some (.int 1) ∧ Fr n0 L ∧ h = h0
def P6A1 (Z : State) (a0 : Addr) (kb : ClassId) (tv : Int32) (h0 : Heap) (n0 : Nat) (s : State) (o : Outcome) (U' : State) : Prop := ∃ v L, o = .returned v ∧ Q6A1 Z a0 kb tv h0 n0 v U'.heap L ∧ FrameEnd s o U' L oR0.cells oR0.slots
set_option maxRecDepth 65536 in
set_option maxHeartbeats 40000000 in
theorem rm6A1 (l : Launch) (Z : State) (aV : Array Value) (hw : ∀ d ∈ tables_1, d.before aV Z = true) (ws : List Jvm.Cond) (a0 : Addr) (kb : ClassId) (tv : Int32) (h0 : Heap) (n0 : Nat) (Z0 : n0 ≤ h0.size) (V_a0 : Arv Z h0 a0 kb .byte (1 : Int32) [(.int tv)] (.int 0)) (hA0 : ¬ tv < 0) :
    MetFree l oM27 (head1 (Jvm.Cond.code oM27 jdk_123_method_3_code 5 (some .int) :: ws) oR0) (fun a U => a = #[(.ref a0), (.int 0), (.int 1)] ∧ Z.Warmed39 U.vm ∧ U.heap = h0) (fun _ _ _ _ _ => True) (fun _ U o U' => ∃ v L, o = .returned v ∧ Q6A1 Z a0 kb tv h0 n0 v U'.heap L ∧ FrameEnd U o U' L oR0.cells oR0.slots) := by
  refine MetFree.of_bodySF (plainFor_of_name pn_java_lang_StringCoding) hisR ?_
  intro p e s m args below meth c s₁ Bd hml0 hP hK
  obtain ⟨rfl, hZ, hh⟩ := hP
  have hx := Bd.exec
  have hby := Bd.bytes
  have hml : c.maxLocals = 5 := hml0
  have hown : s.vm.findClass "java/lang/StringCoding" = some m.cls := findClass_of_methodNamed Bd.named
  have hnm := (name_of_methodNamed Bd.named Bd.method).1
  have X0 : Stand p l e oR0 s m #[(.ref a0), (.int 0), (.int 1)] below meth c s₁ [] 0 0 := Stand.of_body Bd
  have e0 : s₁.heap = h0 := by rw [← hh, Bd.state]; rfl
  have efx : entryFrame m #[(.ref a0), (.int 0), (.int 1)] 5 = mkF m 0 #[.val (.ref a0), .val (.int 0), .val (.int 1), .unset, .unset] [] := by first | (simp [entryFrame, mkF, argsToLocals, Value.category]; done) | rfl
  have N0 := Fr.nil n0
  have K0 : Keep h0 h0 [] := Keep.refl h0 _
  refine OGo.start (g' := mkF m 0 #[.val (.ref a0), .val (.int 0), .val (.int 1), .unset, .unset] []) (efx) ?_
  show OGo p.tables e below (P6A1 Z a0 kb tv h0 n0 s) (s₁.setTop (mkF m 0 #[.val (.ref a0), .val (.int 0), .val (.int 1), .unset, .unset] []))
  refine og (s₁.setTop (mkF m 7 #[.val (.ref a0), .val (.int 0), .val (.int 1), .val (.int 1), .val (.int 0)] [])) ?_ (fun tX kX => XS.iloadN X0.here hx rfl (hb hby d6_0) rfl (XS.iloadN X0.here hx rfl (hb hby d6_1) rfl (XS.iadd X0.here hx rfl (hb hby d6_2) rfl (XS.istoreN X0.here hx rfl (hb hby d6_3) rfl (l' := #[.val (.ref a0), .val (.int 0), .val (.int 1), .val (.int 1), .unset]) rfl (XS.iloadN X0.here hx rfl (hb hby d6_4) rfl (XS.istore X0.here hx rfl (hb hby d6_5) rfl (l' := #[.val (.ref a0), .val (.int 0), .val (.int 1), .val (.int 1), .val (.int 0)]) rfl kX))))))
  refine og (s₁.setTop (mkF m 16 #[.val (.ref a0), .val (.int 0), .val (.int 1), .val (.int 1), .val (.int 0)] [(.int 0), (.ref a0)])) ?_ (fun tX kX => XS.iload X0.here hx rfl (hb hby d6_7) rfl (XS.iloadN X0.here hx rfl (hb hby d6_9) rfl (XS.icmpNo X0.here hx rfl (hb hby d6_10) rfl (tlt (by decide)).2.1 (XS.aloadN X0.here hx rfl (hb hby d6_13) rfl rfl (XS.iload X0.here hx rfl (hb hby d6_14) rfl kX)))))
  obtain ⟨cl1, Ar1, qa1, S1, N1', H1, G1⟩ := id V_a0
  have hin1 := inb_of (j := (0 : Int32)) S1 ⟨by decide, by decide⟩
  have hat1 := H1.at (v := (.int tv)) hin1 rfl
  refine og (s₁.setTop (mkF m 10 #[.val (.ref a0), .val (.int 0), .val (.int 1), .val (.int 1), .val (.int 1)] [(.int 1), (.int 1)])) ?_ (fun tX kX => X0.baloadBytes hx (j := (0 : Int32)) (v := (.int tv)) (by rw [e0]; exact Ar1.1) (State.isArrayOf_alike hZ.alike Ar1.2.1) Ar1.2.2 hin1 hat1 (g := (mkF m 16 #[.val (.ref a0), .val (.int 0), .val (.int 1), .val (.int 1), .val (.int 0)] [(.int 0), (.ref a0)])) rfl rfl (hb hby d6_16) _ (XS.ifYes X0.here hx rfl (pc0 := 17) (pc' := 25) rfl (hb hby d6_17) rfl ((if0 _ _).trans (flt hA0).2.1) (by decide) (by decide) (XS.iinc X0.here hx rfl (hb hby d6_25) rfl (l' := #[.val (.ref a0), .val (.int 0), .val (.int 1), .val (.int 1), .val (.int 1)]) rfl (XS.goto X0.here hx rfl (pc0 := 28) (pc' := 7) rfl (hb hby d6_28) (by decide) (by decide) (XS.iload X0.here hx rfl (hb hby d6_7) rfl (XS.iloadN X0.here hx rfl (hb hby d6_9) rfl kX))))))
  refine og (s₁.setTop (mkF m 32 #[.val (.ref a0), .val (.int 0), .val (.int 1), .val (.int 1), .val (.int 1)] [(.int 1)])) ?_ (fun tX kX => XS.icmpYes X0.here hx rfl (pc0 := 10) (pc' := 31) rfl (hb hby d6_10) rfl (flt (by decide)).2.1 (by decide) (by decide) (XS.iloadN X0.here hx rfl (hb hby d6_31) rfl kX))
  refine OGo.ret X0 (v := (some (.int 1))) (fun h => by rw [Bd.returns] at h; cases h) (BodyLoose.notSynchronized Bd) (fun fs hr => retOut X0 hx Bd.returns rfl (Or.inl ⟨rfl, Or.inl rfl, _, rfl⟩) (hb hby d6_32) hr) (Q := Q6A1 Z a0 kb tv h0 n0) ?_ (by decide) (by decide)
  show Q6A1 Z a0 kb tv h0 n0 _ s₁.heap _
  rw [e0]
  exact ⟨rfl, N0, rfl⟩
def Q6A2 (Z : State) (a0 : Addr) (kb : ClassId) (xa : Int32) (tv : Int32) (h0 : Heap) (n0 : Nat) (v : Option Value) (h : Heap) (L : List Loc) : Prop := v = some (.int 2) ∧ Fr n0 L ∧ h = h0
def P6A2 (Z : State) (a0 : Addr) (kb : ClassId) (xa : Int32) (tv : Int32) (h0 : Heap) (n0 : Nat) (s : State) (o : Outcome) (U' : State) : Prop := ∃ v L, o = .returned v ∧ Q6A2 Z a0 kb xa tv h0 n0 v U'.heap L ∧ FrameEnd s o U' L oR0.cells oR0.slots
set_option maxRecDepth 65536 in
set_option maxHeartbeats 40000000 in
theorem rm6A2 (l : Launch) (Z : State) (aV : Array Value) (hw : ∀ d ∈ tables_1, d.before aV Z = true) (ws : List Jvm.Cond) (a0 : Addr) (kb : ClassId) (xa : Int32) (tv : Int32) (h0 : Heap) (n0 : Nat) (Z0 : n0 ≤ h0.size) (V_a0 : Arv Z h0 a0 kb .byte (2 : Int32) [(.int xa), (.int tv)] (.int 0)) (hA0 : ¬ xa < 0) (hA1 : ¬ tv < 0) :
    MetFree l oM27 (head1 (Jvm.Cond.code oM27 jdk_123_method_3_code 5 (some .int) :: ws) oR0) (fun a U => a = #[(.ref a0), (.int 0), (.int 2)] ∧ Z.Warmed39 U.vm ∧ U.heap = h0) (fun _ _ _ _ _ => True) (fun _ U o U' => ∃ v L, o = .returned v ∧ Q6A2 Z a0 kb xa tv h0 n0 v U'.heap L ∧ FrameEnd U o U' L oR0.cells oR0.slots) := by
  refine MetFree.of_bodySF (plainFor_of_name pn_java_lang_StringCoding) hisR ?_
  intro p e s m args below meth c s₁ Bd hml0 hP hK
  obtain ⟨rfl, hZ, hh⟩ := hP
  have hx := Bd.exec
  have hby := Bd.bytes
  have hml : c.maxLocals = 5 := hml0
  have hown : s.vm.findClass "java/lang/StringCoding" = some m.cls := findClass_of_methodNamed Bd.named
  have hnm := (name_of_methodNamed Bd.named Bd.method).1
  have X0 : Stand p l e oR0 s m #[(.ref a0), (.int 0), (.int 2)] below meth c s₁ [] 0 0 := Stand.of_body Bd
  have e0 : s₁.heap = h0 := by rw [← hh, Bd.state]; rfl
  have efx : entryFrame m #[(.ref a0), (.int 0), (.int 2)] 5 = mkF m 0 #[.val (.ref a0), .val (.int 0), .val (.int 2), .unset, .unset] [] := by first | (simp [entryFrame, mkF, argsToLocals, Value.category]; done) | rfl
  have N0 := Fr.nil n0
  have K0 : Keep h0 h0 [] := Keep.refl h0 _
  refine OGo.start (g' := mkF m 0 #[.val (.ref a0), .val (.int 0), .val (.int 2), .unset, .unset] []) (efx) ?_
  show OGo p.tables e below (P6A2 Z a0 kb xa tv h0 n0 s) (s₁.setTop (mkF m 0 #[.val (.ref a0), .val (.int 0), .val (.int 2), .unset, .unset] []))
  refine og (s₁.setTop (mkF m 7 #[.val (.ref a0), .val (.int 0), .val (.int 2), .val (.int 2), .val (.int 0)] [])) ?_ (fun tX kX => XS.iloadN X0.here hx rfl (hb hby d6_0) rfl (XS.iloadN X0.here hx rfl (hb hby d6_1) rfl (XS.iadd X0.here hx rfl (hb hby d6_2) rfl (XS.istoreN X0.here hx rfl (hb hby d6_3) rfl (l' := #[.val (.ref a0), .val (.int 0), .val (.int 2), .val (.int 2), .unset]) rfl (XS.iloadN X0.here hx rfl (hb hby d6_4) rfl (XS.istore X0.here hx rfl (hb hby d6_5) rfl (l' := #[.val (.ref a0), .val (.int 0), .val (.int 2), .val (.int 2), .val (.int 0)]) rfl kX))))))
  refine og (s₁.setTop (mkF m 16 #[.val (.ref a0), .val (.int 0), .val (.int 2), .val (.int 2), .val (.int 0)] [(.int 0), (.ref a0)])) ?_ (fun tX kX => XS.iload X0.here hx rfl (hb hby d6_7) rfl (XS.iloadN X0.here hx rfl (hb hby d6_9) rfl (XS.icmpNo X0.here hx rfl (hb hby d6_10) rfl (tlt (by decide)).2.1 (XS.aloadN X0.here hx rfl (hb hby d6_13) rfl rfl (XS.iload X0.here hx rfl (hb hby d6_14) rfl kX)))))
  obtain ⟨cl1, Ar1, qa1, S1, N1', H1, G1⟩ := id V_a0
  have hin1 := inb_of (j := (0 : Int32)) S1 ⟨by decide, by decide⟩
  have hat1 := H1.at (v := (.int xa)) hin1 rfl
  refine og (s₁.setTop (mkF m 10 #[.val (.ref a0), .val (.int 0), .val (.int 2), .val (.int 2), .val (.int 1)] [(.int 2), (.int 1)])) ?_ (fun tX kX => X0.baloadBytes hx (j := (0 : Int32)) (v := (.int xa)) (by rw [e0]; exact Ar1.1) (State.isArrayOf_alike hZ.alike Ar1.2.1) Ar1.2.2 hin1 hat1 (g := (mkF m 16 #[.val (.ref a0), .val (.int 0), .val (.int 2), .val (.int 2), .val (.int 0)] [(.int 0), (.ref a0)])) rfl rfl (hb hby d6_16) _ (XS.ifYes X0.here hx rfl (pc0 := 17) (pc' := 25) rfl (hb hby d6_17) rfl ((if0 _ _).trans (flt hA0).2.1) (by decide) (by decide) (XS.iinc X0.here hx rfl (hb hby d6_25) rfl (l' := #[.val (.ref a0), .val (.int 0), .val (.int 2), .val (.int 2), .val (.int 1)]) rfl (XS.goto X0.here hx rfl (pc0 := 28) (pc' := 7) rfl (hb hby d6_28) (by decide) (by decide) (XS.iload X0.here hx rfl (hb hby d6_7) rfl (XS.iloadN X0.here hx rfl (hb hby d6_9) rfl kX))))))
  refine og (s₁.setTop (mkF m 16 #[.val (.ref a0), .val (.int 0), .val (.int 2), .val (.int 2), .val (.int 1)] [(.int 1), (.ref a0)])) ?_ (fun tX kX => XS.icmpNo X0.here hx rfl (hb hby d6_10) rfl (tlt (by decide)).2.1 (XS.aloadN X0.here hx rfl (hb hby d6_13) rfl rfl (XS.iload X0.here hx rfl (hb hby d6_14) rfl kX)))
  obtain ⟨cl2, Ar2, qa2, S2, N2', H2, G2⟩ := id V_a0
  have hin2 := inb_of (j := (1 : Int32)) S2 ⟨by decide, by decide⟩
  have hat2 := H2.at (v := (.int tv)) hin2 rfl
  refine og (s₁.setTop (mkF m 10 #[.val (.ref a0), .val (.int 0), .val (.int 2), .val (.int 2), .val (.int 2)] [(.int 2), (.int 2)])) ?_ (fun tX kX => X0.baloadBytes hx (j := (1 : Int32)) (v := (.int tv)) (by rw [e0]; exact Ar2.1) (State.isArrayOf_alike hZ.alike Ar2.2.1) Ar2.2.2 hin2 hat2 (g := (mkF m 16 #[.val (.ref a0), .val (.int 0), .val (.int 2), .val (.int 2), .val (.int 1)] [(.int 1), (.ref a0)])) rfl rfl (hb hby d6_16) _ (XS.ifYes X0.here hx rfl (pc0 := 17) (pc' := 25) rfl (hb hby d6_17) rfl ((if0 _ _).trans (flt hA1).2.1) (by decide) (by decide) (XS.iinc X0.here hx rfl (hb hby d6_25) rfl (l' := #[.val (.ref a0), .val (.int 0), .val (.int 2), .val (.int 2), .val (.int 2)]) rfl (XS.goto X0.here hx rfl (pc0 := 28) (pc' := 7) rfl (hb hby d6_28) (by decide) (by decide) (XS.iload X0.here hx rfl (hb hby d6_7) rfl (XS.iloadN X0.here hx rfl (hb hby d6_9) rfl kX))))))
  refine og (s₁.setTop (mkF m 32 #[.val (.ref a0), .val (.int 0), .val (.int 2), .val (.int 2), .val (.int 2)] [(.int 2)])) ?_ (fun tX kX => XS.icmpYes X0.here hx rfl (pc0 := 10) (pc' := 31) rfl (hb hby d6_10) rfl (flt (by decide)).2.1 (by decide) (by decide) (XS.iloadN X0.here hx rfl (hb hby d6_31) rfl kX))
  refine OGo.ret X0 (v := (some (.int 2))) (fun h => by rw [Bd.returns] at h; cases h) (BodyLoose.notSynchronized Bd) (fun fs hr => retOut X0 hx Bd.returns rfl (Or.inl ⟨rfl, Or.inl rfl, _, rfl⟩) (hb hby d6_32) hr) (Q := Q6A2 Z a0 kb xa tv h0 n0) ?_ (by decide) (by decide)
  show Q6A2 Z a0 kb xa tv h0 n0 _ s₁.heap _
  rw [e0]
  exact ⟨rfl, N0, rfl⟩
theorem d6_20 : oD6 20 (.iload 4) 2 := by decide +kernel
theorem d6_22 : oD6 22 (.iload_n 1) 1 := by decide +kernel
theorem d6_23 : oD6 23 .isub 1 := by decide +kernel
theorem d6_24 : oD6 24 .ireturn 1 := by decide +kernel
def Q6N (Z : State) (a0 : Addr) (nn : Int32) (kb : ClassId) (vs : List Value) (xa : Int32) (h0 : Heap) (n0 : Nat) (v : Option Value) (h : Heap) (L : List Loc) : Prop := v = some (.int 0) ∧ Fr n0 L ∧ h = h0
def P6N (Z : State) (a0 : Addr) (nn : Int32) (kb : ClassId) (vs : List Value) (xa : Int32) (h0 : Heap) (n0 : Nat) (s : State) (o : Outcome) (U' : State) : Prop := ∃ v L, o = .returned v ∧ Q6N Z a0 nn kb vs xa h0 n0 v U'.heap L ∧ FrameEnd s o U' L oR0.cells oR0.slots
set_option maxRecDepth 65536 in
set_option maxHeartbeats 40000000 in
theorem rm6N (l : Launch) (Z : State) (aV : Array Value) (hw : ∀ d ∈ tables_1, d.before aV Z = true) (ws : List Jvm.Cond) (a0 : Addr) (nn : Int32) (kb : ClassId) (vs : List Value) (xa : Int32) (h0 : Heap) (n0 : Nat) (Z0 : n0 ≤ h0.size) (V_a0 : Arv Z h0 a0 kb .byte nn vs (.int 0)) (hn1 : (0 : Int32) < ((0 : Int32) + nn)) (hn2 : (0 : Int32) < nn) (hev : vs.getD (0 : Int32).toNatClampNeg (.int 0) = .int xa) (hN : xa < 0) :
    MetFree l oM27 (head1 (Jvm.Cond.code oM27 jdk_123_method_3_code 5 (some .int) :: ws) oR0) (fun a U => a = #[(.ref a0), (.int 0), (.int nn)] ∧ Z.Warmed39 U.vm ∧ U.heap = h0) (fun _ _ _ _ _ => True) (fun _ U o U' => ∃ v L, o = .returned v ∧ Q6N Z a0 nn kb vs xa h0 n0 v U'.heap L ∧ FrameEnd U o U' L oR0.cells oR0.slots) := by
  refine MetFree.of_bodySF (plainFor_of_name pn_java_lang_StringCoding) hisR ?_
  intro p e s m args below meth c s₁ Bd hml0 hP hK
  obtain ⟨rfl, hZ, hh⟩ := hP
  have hx := Bd.exec
  have hby := Bd.bytes
  have hml : c.maxLocals = 5 := hml0
  have hown : s.vm.findClass "java/lang/StringCoding" = some m.cls := findClass_of_methodNamed Bd.named
  have hnm := (name_of_methodNamed Bd.named Bd.method).1
  have X0 : Stand p l e oR0 s m #[(.ref a0), (.int 0), (.int nn)] below meth c s₁ [] 0 0 := Stand.of_body Bd
  have e0 : s₁.heap = h0 := by rw [← hh, Bd.state]; rfl
  have efx : entryFrame m #[(.ref a0), (.int 0), (.int nn)] 5 = mkF m 0 #[.val (.ref a0), .val (.int 0), .val (.int nn), .unset, .unset] [] := by first | (simp [entryFrame, mkF, argsToLocals, Value.category]; done) | rfl
  have N0 := Fr.nil n0
  have K0 : Keep h0 h0 [] := Keep.refl h0 _
  refine OGo.start (g' := mkF m 0 #[.val (.ref a0), .val (.int 0), .val (.int nn), .unset, .unset] []) (efx) ?_
  show OGo p.tables e below (P6N Z a0 nn kb vs xa h0 n0 s) (s₁.setTop (mkF m 0 #[.val (.ref a0), .val (.int 0), .val (.int nn), .unset, .unset] []))
  refine og (s₁.setTop (mkF m 7 #[.val (.ref a0), .val (.int 0), .val (.int nn), .val (.int ((0 : Int32) + nn)), .val (.int 0)] [])) ?_ (fun tX kX => XS.iloadN X0.here hx rfl (hb hby d6_0) rfl (XS.iloadN X0.here hx rfl (hb hby d6_1) rfl (XS.iadd X0.here hx rfl (hb hby d6_2) rfl (XS.istoreN X0.here hx rfl (hb hby d6_3) rfl (l' := #[.val (.ref a0), .val (.int 0), .val (.int nn), .val (.int ((0 : Int32) + nn)), .unset]) rfl (XS.iloadN X0.here hx rfl (hb hby d6_4) rfl (XS.istore X0.here hx rfl (hb hby d6_5) rfl (l' := #[.val (.ref a0), .val (.int 0), .val (.int nn), .val (.int ((0 : Int32) + nn)), .val (.int 0)]) rfl kX))))))
  refine og (s₁.setTop (mkF m 16 #[.val (.ref a0), .val (.int 0), .val (.int nn), .val (.int ((0 : Int32) + nn)), .val (.int 0)] [(.int 0), (.ref a0)])) ?_ (fun tX kX => XS.iload X0.here hx rfl (hb hby d6_7) rfl (XS.iloadN X0.here hx rfl (hb hby d6_9) rfl (XS.icmpNo X0.here hx rfl (hb hby d6_10) rfl (tlt hn1).2.1 (XS.aloadN X0.here hx rfl (hb hby d6_13) rfl rfl (XS.iload X0.here hx rfl (hb hby d6_14) rfl kX)))))
  obtain ⟨cl1, Ar1, qa1, S1, N1', H1, G1⟩ := id V_a0
  have hin1 := inb_of (j := (0 : Int32)) S1 ⟨by decide, hn2⟩
  have hat1 := H1.at (v := (.int xa)) hin1 hev
  refine og (s₁.setTop (mkF m 24 #[.val (.ref a0), .val (.int 0), .val (.int nn), .val (.int ((0 : Int32) + nn)), .val (.int 0)] [(.int 0)])) ?_ (fun tX kX => X0.baloadBytes hx (j := (0 : Int32)) (v := (.int xa)) (by rw [e0]; exact Ar1.1) (State.isArrayOf_alike hZ.alike Ar1.2.1) Ar1.2.2 hin1 hat1 (g := (mkF m 16 #[.val (.ref a0), .val (.int 0), .val (.int nn), .val (.int ((0 : Int32) + nn)), .val (.int 0)] [(.int 0), (.ref a0)])) rfl rfl (hb hby d6_16) _ (XS.ifNo X0.here hx rfl (hb hby d6_17) rfl ((if0 _ _).trans (tlt hN).2.1) (XS.iload X0.here hx rfl (hb hby d6_20) rfl (XS.iloadN X0.here hx rfl (hb hby d6_22) rfl (XS.isub X0.here hx rfl (hb hby d6_23) rfl kX)))))
  refine OGo.ret X0 (v := (some (.int 0))) (fun h => by rw [Bd.returns] at h; cases h) (BodyLoose.notSynchronized Bd) (fun fs hr => retOut X0 hx Bd.returns rfl (Or.inl ⟨rfl, Or.inl rfl, _, rfl⟩) (hb hby d6_24) hr) (Q := Q6N Z a0 nn kb vs xa h0 n0) ?_ (by decide) (by decide)
  show Q6N Z a0 nn kb vs xa h0 n0 _ s₁.heap _
  rw [e0]
  exact ⟨rfl, N0, rfl⟩
theorem d7_0 : oD7 0 (.iload_n 1) 1 := by decide +kernel
theorem d7_1 : oD7 1 (.ifCond .ne 9) 3 := by decide +kernel
theorem d7_4 : oD7 4 (.iload_n 2) 1 := by decide +kernel
theorem d7_5 : oD7 5 (.aload_n 0) 1 := by decide +kernel
theorem d7_6 : oD7 6 .arraylength 1 := by decide +kernel
theorem d7_7 : oD7 7 (.if_icmp .eq 10) 3 := by decide +kernel
theorem d7_17 : oD7 17 (.aload_n 0) 1 := by decide +kernel
theorem d7_18 : oD7 18 (.invokevirtual 310) 3 := by decide +kernel
theorem d7_21 : oD7 21 (.checkcast 311) 3 := by decide +kernel
theorem d7_24 : oD7 24 .areturn 1 := by decide +kernel
theorem pn_java_util_Arrays : plainName "java/util/Arrays" = true := by first | (simp [plainName, overriddenIn]; done) | decide +kernel
def Q7 (Z : State) (a0 : Addr) (nn : Int32) (kb : ClassId) (vs : List Value) (h0 : Heap) (n0 : Nat) (v : Option Value) (h : Heap) (L : List Loc) : Prop := ∃ (nb : Addr), v = some (.ref nb) ∧ Fr n0 L ∧ Keep h0 h [] ∧ h0.size ≤ nb ∧ Arv Z h nb kb .byte nn vs (.int 0)
def P7 (Z : State) (a0 : Addr) (nn : Int32) (kb : ClassId) (vs : List Value) (h0 : Heap) (n0 : Nat) (s : State) (o : Outcome) (U' : State) : Prop := ∃ v L, o = .returned v ∧ Q7 Z a0 nn kb vs h0 n0 v U'.heap L ∧ FrameEnd s o U' L oR7.cells oR7.slots
set_option maxRecDepth 65536 in
set_option maxHeartbeats 40000000 in
theorem rm7 (l : Launch) (Z : State) (aV : Array Value) (hw : ∀ d ∈ tables_1, d.before aV Z = true) (ws : List Jvm.Cond) (a0 : Addr) (nn : Int32) (kb : ClassId) (vs : List Value) (h0 : Heap) (n0 : Nat) (Z0 : n0 ≤ h0.size) (E_a0 : Exa Z h0 a0 "[B") (V_a0 : Arv Z h0 a0 kb .byte nn vs (.int 0)) (hcap : nn.toNatClampNeg ≤ 5) :
    MetFree l oM28 (head1 (Jvm.Cond.code oM28 jdk_65_method_132_code 3 (some (.array .byte)) :: ws) oR7) (fun a U => a = #[(.ref a0), (.int 0), (.int nn)] ∧ Z.Warmed39 U.vm ∧ U.heap = h0) (fun _ _ _ _ _ => True) (fun _ U o U' => ∃ v L, o = .returned v ∧ Q7 Z a0 nn kb vs h0 n0 v U'.heap L ∧ FrameEnd U o U' L oR7.cells oR7.slots) := by
  refine MetFree.of_bodySF (plainFor_of_name pn_java_util_Arrays) hisR ?_
  intro p e s m args below meth c s₁ Bd hml0 hP hK
  obtain ⟨rfl, hZ, hh⟩ := hP
  have hx := Bd.exec
  have hby := Bd.bytes
  have hml : c.maxLocals = 3 := hml0
  have hown : s.vm.findClass "java/util/Arrays" = some m.cls := findClass_of_methodNamed Bd.named
  have hnm := (name_of_methodNamed Bd.named Bd.method).1
  have X0 : Stand p l e oR7 s m #[(.ref a0), (.int 0), (.int nn)] below meth c s₁ [] 0 0 := Stand.of_body Bd
  have e0 : s₁.heap = h0 := by rw [← hh, Bd.state]; rfl
  have efx : entryFrame m #[(.ref a0), (.int 0), (.int nn)] 3 = mkF m 0 #[.val (.ref a0), .val (.int 0), .val (.int nn)] [] := by first | (simp [entryFrame, mkF, argsToLocals, Value.category]; done) | rfl
  have N0 := Fr.nil n0
  have K0 : Keep h0 h0 [] := Keep.refl h0 _
  refine OGo.start (g' := mkF m 0 #[.val (.ref a0), .val (.int 0), .val (.int nn)] []) (efx) ?_
  show OGo p.tables e below (P7 Z a0 nn kb vs h0 n0 s) (s₁.setTop (mkF m 0 #[.val (.ref a0), .val (.int 0), .val (.int nn)] []))
  refine og (s₁.setTop (mkF m 6 #[.val (.ref a0), .val (.int 0), .val (.int nn)] [(.ref a0), (.int nn)])) ?_ (fun tX kX => XS.iloadN X0.here hx rfl (hb hby d7_0) rfl (XS.ifNo X0.here hx rfl (hb hby d7_1) rfl ((if0 _ _).trans (teq (by decide)).2) (XS.iloadN X0.here hx rfl (hb hby d7_4) rfl (XS.aloadN X0.here hx rfl (hb hby d7_5) rfl rfl kX))))
  obtain ⟨cl1, Ar1, qa1, S1, N1', H1, G1⟩ := id V_a0
  refine OGo.go (B := s₁.setTop (mkF m 7 #[.val (.ref a0), .val (.int 0), .val (.int nn)] [(.int nn), (.int nn)])) ?_ (fun tX kX => X0.arraylength hx (by rw [e0]; exact Ar1.1) (State.isArrayOf_alike hZ.alike Ar1.2.1) (g := (mkF m 6 #[.val (.ref a0), .val (.int 0), .val (.int nn)] [(.ref a0), (.int nn)])) rfl rfl (hb hby d7_6) _ (by rw [len_of S1 N1']; exact kX))
  refine og (s₁.setTop (mkF m 18 #[.val (.ref a0), .val (.int 0), .val (.int nn)] [(.ref a0)])) ?_ (fun tX kX => XS.icmpYes X0.here hx rfl (pc0 := 7) (pc' := 17) rfl (hb hby d7_7) rfl (teq rfl).1 (by decide) (by decide) (XS.aloadN X0.here hx rfl (hb hby d7_17) rfl rfl kX))
  obtain ⟨T2, h2, X2, e2, E2, A2, EA2, st2⟩ := cloneH X0 hx hZ hown (oW hw 39 rfl) (oW hw 40 rfl) (oW hw 44 rfl) (oW hw 42 rfl) (oW hw 43 rfl) (oW hw 45 rfl) e0 V_a0.arh E_a0 (g := (mkF m 18 #[.val (.ref a0), .val (.int 0), .val (.int nn)] [(.ref a0)])) rfl (by rw [hml]; rfl) rfl (hb hby d7_18) (by decide) (W := 0) (cap := 5) (by show 2 * 0 + _ ≤ _; exact Nat.le_of_eq rfl) (by decide) hcap (by decide) (by decide)
  obtain ⟨b2, g2⟩ : ∃ z, z = h0.size := ⟨_, rfl⟩
  rw [← g2] at A2 EA2 st2
  have ne_a0_b2 : a0 ≠ b2 := Nat.ne_of_lt (Nat.lt_of_lt_of_le E_a0.lt (Nat.le_of_eq g2.symm))
  have E_a0 := E_a0.ext E2
  have V_a0 := V_a0.ext E2
  have g_b2 : n0 ≤ b2 := Nat.le_trans Z0 (Nat.le_of_eq g2.symm)
  have sz_b2 : h0.size ≤ b2 := Nat.le_trans K0.1 (Nat.le_of_eq g2.symm)
  have zn2 : n0 ≤ h2.size := Nat.le_trans Z0 E2.1
  have K2 := K0.ext E2
  have E_b2 := EA2
  have V_b2 : Arv Z h2 b2 kb .byte nn vs (.int 0) := A2
  refine og (T2.setTop (mkF m 21 #[.val (.ref a0), .val (.int 0), .val (.int nn)] [(.ref b2)])) ?_ st2
  obtain ⟨T3, X3, e3, st3⟩ := castY X2 hx hZ hown (oW hw 46 rfl) e2 (Ins.self E_b2) (g := (mkF m 21 #[.val (.ref a0), .val (.int 0), .val (.int nn)] [(.ref b2)])) rfl rfl (hb hby d7_21)
  refine og (T3.setTop (mkF m 24 #[.val (.ref a0), .val (.int 0), .val (.int nn)] [(.ref b2)])) ?_ st3
  refine OGo.ret X3 (v := (some (.ref b2))) (fun h => by rw [Bd.returns] at h; cases h) (BodyLoose.notSynchronized Bd) (fun fs hr => retOut X3 hx Bd.returns rfl (Or.inr (Or.inr (Or.inr (Or.inr ⟨rfl, rfl, rfl⟩)))) (hb hby d7_24) hr) (Q := Q7 Z a0 nn kb vs h0 n0) ?_ (by decide) (by decide)
  show Q7 Z a0 nn kb vs h0 n0 _ T3.heap _
  rw [e3]
  exact ⟨b2, rfl, N0, K2, sz_b2, V_b2⟩
theorem d20_0 : oD20 0 (.iload_n 0) 1 := by decide +kernel
theorem d20_1 : oD20 1 (.ifCond .ge 11) 3 := by decide +kernel
theorem d20_12 : oD20 12 (.iload_n 0) 1 := by decide +kernel
theorem d20_13 : oD20 13 (.ldc 20) 2 := by decide +kernel
theorem d20_15 : oD20 15 (.if_icmp .lt 40) 3 := by decide +kernel
theorem d20_55 : oD20 55 (.iload_n 0) 1 := by decide +kernel
theorem d20_56 : oD20 56 (.iconst 1) 1 := by decide +kernel
theorem d20_57 : oD20 57 .ishl 1 := by decide +kernel
theorem d20_58 : oD20 58 .ireturn 1 := by decide +kernel
def Q20 (Z : State) (p0 : Int32) (h0 : Heap) (n0 : Nat) (v : Option Value) (h : Heap) (L : List Loc) : Prop := v = some (.int (p0 <<< ((1 : Int32) &&& 31))) ∧ Fr n0 L ∧ h = h0
def P20 (Z : State) (p0 : Int32) (h0 : Heap) (n0 : Nat) (s : State) (o : Outcome) (U' : State) : Prop := ∃ v L, o = .returned v ∧ Q20 Z p0 h0 n0 v U'.heap L ∧ FrameEnd s o U' L oR0.cells oR0.slots
set_option maxRecDepth 65536 in
set_option maxHeartbeats 40000000 in
theorem rm20 (l : Launch) (Z : State) (aV : Array Value) (hw : ∀ d ∈ tables_1, d.before aV Z = true) (ws : List Jvm.Cond) (p0 : Int32) (h0 : Heap) (n0 : Nat) (Z0 : n0 ≤ h0.size) (hz0 : ¬ p0 < (0 : Int32)) (hz1 : p0 < (1073741823 : Int32)) :
    MetFree l oM29 (head1 (Jvm.Cond.code oM29 jdk_52_method_3_code 1 (some .int) :: ws) oR0) (fun a U => a = #[(.int p0)] ∧ Z.Warmed39 U.vm ∧ U.heap = h0) (fun _ _ _ _ _ => True) (fun _ U o U' => ∃ v L, o = .returned v ∧ Q20 Z p0 h0 n0 v U'.heap L ∧ FrameEnd U o U' L oR0.cells oR0.slots) := by
  refine MetFree.of_bodySF (plainFor_of_name pn_java_lang_StringUTF16) hisR ?_
  intro p e s m args below meth c s₁ Bd hml0 hP hK
  obtain ⟨rfl, hZ, hh⟩ := hP
  have hx := Bd.exec
  have hby := Bd.bytes
  have hml : c.maxLocals = 1 := hml0
  have hown : s.vm.findClass "java/lang/StringUTF16" = some m.cls := findClass_of_methodNamed Bd.named
  have hnm := (name_of_methodNamed Bd.named Bd.method).1
  have X0 : Stand p l e oR0 s m #[(.int p0)] below meth c s₁ [] 0 0 := Stand.of_body Bd
  have e0 : s₁.heap = h0 := by rw [← hh, Bd.state]; rfl
  have efx : entryFrame m #[(.int p0)] 1 = mkF m 0 #[.val (.int p0)] [] := by first | (simp [entryFrame, mkF, argsToLocals, Value.category]; done) | rfl
  have N0 := Fr.nil n0
  have K0 : Keep h0 h0 [] := Keep.refl h0 _
  refine OGo.start (g' := mkF m 0 #[.val (.int p0)] []) (efx) ?_
  show OGo p.tables e below (P20 Z p0 h0 n0 s) (s₁.setTop (mkF m 0 #[.val (.int p0)] []))
  refine og (s₁.setTop (mkF m 56 #[.val (.int p0)] [(.int p0)])) ?_ (fun tX kX => XS.iloadN X0.here hx rfl (hb hby d20_0) rfl (XS.ifYes X0.here hx rfl (pc0 := 1) (pc' := 12) rfl (hb hby d20_1) rfl ((if0 _ _).trans (flt hz0).2.1) (by decide) (by decide) (XS.iloadN X0.here hx rfl (hb hby d20_12) rfl (X0.ldcInt hx hown (mvT hZ (oW hw 111 rfl)) (g := (mkF m 13 #[.val (.int p0)] [(.int p0)])) rfl (hb hby d20_13) _ (XS.icmpYes X0.here hx rfl (pc0 := 15) (pc' := 55) rfl (hb hby d20_15) rfl (tlt hz1).1 (by decide) (by decide) (XS.iloadN X0.here hx rfl (hb hby d20_55) rfl kX))))))
  refine og (s₁.setTop (mkF m 58 #[.val (.int p0)] [(.int (p0 <<< ((1 : Int32) &&& 31)))])) ?_ (fun tX kX => XS.iconst X0.here hx rfl (hb hby d20_56) (XS.ishl X0.here hx rfl (hb hby d20_57) rfl kX))
  refine OGo.ret X0 (v := (some (.int (p0 <<< ((1 : Int32) &&& 31))))) (fun h => by rw [Bd.returns] at h; cases h) (BodyLoose.notSynchronized Bd) (fun fs hr => retOut X0 hx Bd.returns rfl (Or.inl ⟨rfl, Or.inl rfl, _, rfl⟩) (hb hby d20_58) hr) (Q := Q20 Z p0 h0 n0) ?_ (by decide) (by decide)
  show Q20 Z p0 h0 n0 _ s₁.heap _
  rw [e0]
  exact ⟨rfl, N0, rfl⟩
theorem d19_0 : oD19 0 (.iload_n 0) 1 := by decide +kernel
theorem d19_1 : oD19 1 (.invokestatic 11) 3 := by decide +kernel
theorem pd__I_I : parseMethodDescriptor "(I)I" = some ⟨[.int], some .int⟩ := by decide +kernel
theorem d19_4 : oD19 4 (.newarray .byte) 2 := by decide +kernel
theorem d19_6 : oD19 6 .areturn 1 := by decide +kernel
def Q19 (Z : State) (p0 : Int32) (h0 : Heap) (n0 : Nat) (v : Option Value) (h : Heap) (L : List Loc) : Prop := ∃ (nb : Addr) (kn : ClassId), v = some (.ref nb) ∧ Fr n0 L ∧ Keep h0 h [] ∧ h0.size ≤ nb ∧ Arv Z h nb kn .byte (p0 <<< ((1 : Int32) &&& 31)) [] (.int 0)
def P19 (Z : State) (p0 : Int32) (h0 : Heap) (n0 : Nat) (s : State) (o : Outcome) (U' : State) : Prop := ∃ v L, o = .returned v ∧ Q19 Z p0 h0 n0 v U'.heap L ∧ FrameEnd s o U' L oR8.cells oR8.slots
set_option maxRecDepth 65536 in
set_option maxHeartbeats 40000000 in
theorem rm19 (l : Launch) (Z : State) (aV : Array Value) (hw : ∀ d ∈ tables_1, d.before aV Z = true) (ws : List Jvm.Cond) (p0 : Int32) (h0 : Heap) (n0 : Nat) (Z0 : n0 ≤ h0.size) (hz0 : ¬ p0 < (0 : Int32)) (hz1 : p0 < (1073741823 : Int32)) (hz2 : ¬ (p0 <<< ((1 : Int32) &&& 31)) < 0) (hz3 : (p0 <<< ((1 : Int32) &&& 31)).toNatClampNeg ≤ 10) :
    MetFree l oM30 (head1 (Jvm.Cond.code oM30 jdk_52_method_2_code 1 (some (.array .byte)) :: ws) oR8) (fun a U => a = #[(.int p0)] ∧ Z.Warmed39 U.vm ∧ U.heap = h0) (fun _ _ _ _ _ => True) (fun _ U o U' => ∃ v L, o = .returned v ∧ Q19 Z p0 h0 n0 v U'.heap L ∧ FrameEnd U o U' L oR8.cells oR8.slots) := by
  refine MetFree.of_bodySF (plainFor_of_name pn_java_lang_StringUTF16) hisR ?_
  intro p e s m args below meth c s₁ Bd hml0 hP hK
  obtain ⟨rfl, hZ, hh⟩ := hP
  have hx := Bd.exec
  have hby := Bd.bytes
  have hml : c.maxLocals = 1 := hml0
  have hown : s.vm.findClass "java/lang/StringUTF16" = some m.cls := findClass_of_methodNamed Bd.named
  have hnm := (name_of_methodNamed Bd.named Bd.method).1
  have X0 : Stand p l e oR8 s m #[(.int p0)] below meth c s₁ [] 0 0 := Stand.of_body Bd
  have e0 : s₁.heap = h0 := by rw [← hh, Bd.state]; rfl
  have efx : entryFrame m #[(.int p0)] 1 = mkF m 0 #[.val (.int p0)] [] := by first | (simp [entryFrame, mkF, argsToLocals, Value.category]; done) | rfl
  have N0 := Fr.nil n0
  have K0 : Keep h0 h0 [] := Keep.refl h0 _
  refine OGo.start (g' := mkF m 0 #[.val (.int p0)] []) (efx) ?_
  show OGo p.tables e below (P19 Z p0 h0 n0 s) (s₁.setTop (mkF m 0 #[.val (.int p0)] []))
  refine og (s₁.setTop (mkF m 1 #[.val (.int p0)] [(.int p0)])) ?_ (fun tX kX => XS.iloadN X0.here hx rfl (hb hby d19_0) rfl kX)
  obtain ⟨_, _, ⟨T1, L1, k1, n1⟩, -, X1, ⟨Lc1, hQ1, l1, y1, z1⟩, st1⟩ := Jvm.LawKit.callS X0 hx (y := oM29) hown (mvT hZ (oW hw 108 rfl)) (mvT hZ (oW hw 109 rfl)) (mvT hZ (oW hw 106 rfl)) (mvT hZ (oW hw 110 rfl)) (by decide) (backOf (W := 0) (rm20 l Z aV hw [] p0 h0 n0 Z0 hz0 hz1) hZ (oW hw 110 rfl) (oW hw 106 rfl) (by decide) (by decide)) (g := (mkF m 1 #[.val (.int p0)] [(.int p0)])) rfl (by rw [hml]; rfl) (argsL := [(.int p0)]) (rest := []) (lenOf pd__I_I rfl) rfl (by show 2 * 0 + _ ≤ _; exact Nat.le_of_eq rfl) (hb hby d19_1) (fun _ _ => ⟨rfl, e0, (by decide : 0 + 0 ≤ _), (by decide : 0 + 0 ≤ _)⟩)
  dsimp only [Pt.U, Pt.locs, Pt.cells, Pt.slots] at X1 l1 y1 z1 st1 hQ1
  subst l1 y1 z1
  obtain ⟨rfl, N1q, e1⟩ := hQ1
  have N1 := Fr.app N0 N1q
  refine og (T1.setTop (mkF m 4 #[.val (.int p0)] [(.int (p0 <<< ((1 : Int32) &&& 31)))])) ?_ st1
  obtain ⟨T2, h2, k2, X2, e2, E2, A2, EA2, st2⟩ := newPE X1 hx hZ (oW hw 1 rfl) e1 (g := (mkF m 4 #[.val (.int p0)] [(.int (p0 <<< ((1 : Int32) &&& 31)))])) rfl (hb hby d19_4) rfl hz2 (cap := 10) hz3 (by decide) (by decide) (by decide) (ad := "[B") (by decide)
  obtain ⟨b2, g2⟩ : ∃ z, z = h0.size := ⟨_, rfl⟩
  rw [← g2] at A2 EA2 st2
  have g_b2 : n0 ≤ b2 := Nat.le_trans Z0 (Nat.le_of_eq g2.symm)
  have sz_b2 : h0.size ≤ b2 := Nat.le_trans K0.1 (Nat.le_of_eq g2.symm)
  have zn2 : n0 ≤ h2.size := Nat.le_trans Z0 E2.1
  have K2 := K0.ext E2
  have E_b2 := EA2
  have V_b2 : Arv Z h2 b2 k2 .byte (p0 <<< ((1 : Int32) &&& 31)) [] (.int 0) := Arv.new A2 hz2
  refine og (T2.setTop (mkF m 6 #[.val (.int p0)] [(.ref b2)])) ?_ st2
  refine OGo.ret X2 (v := (some (.ref b2))) (fun h => by rw [Bd.returns] at h; cases h) (BodyLoose.notSynchronized Bd) (fun fs hr => retOut X2 hx Bd.returns rfl (Or.inr (Or.inr (Or.inr (Or.inr ⟨rfl, rfl, rfl⟩)))) (hb hby d19_6) hr) (Q := Q19 Z p0 h0 n0) ?_ (by decide) (by decide)
  show Q19 Z p0 h0 n0 _ T2.heap _
  rw [e2]
  exact ⟨b2, k2, rfl, N1, K2, sz_b2, V_b2⟩
def own_tk (k : Int32) (vs : List Value) : List Value := (List.range k.toNatClampNeg).map fun i => vs.getD ((0 : Int32).toNatClampNeg + i) (.int 0)
theorem own_tkl (k : Int32) (us : List Value) (d : Value) : (List.replicate k.toNatClampNeg d).take (0 : Int32).toNatClampNeg ++ us ++ (List.replicate k.toNatClampNeg d).drop ((0 : Int32).toNatClampNeg + k.toNatClampNeg) = us := by
  rw [show (0 : Int32).toNatClampNeg = 0 from by decide, List.take_zero, Nat.zero_add, List.drop_eq_nil_of_le (by rw [List.length_replicate]; exact Nat.le_refl _), List.nil_append, List.append_nil]
theorem own_rep {Z : State} {h : Heap} {a : Addr} {k : ClassId} {z : Int32} {d : Value} (F : Arv Z h a k .byte z [] d) : Arv Z h a k .byte z (List.replicate z.toNatClampNeg d) d := F.pad (pad_rep [] d _)
theorem own_zz {Z : State} {h : Heap} {a : Addr} {k : ClassId} {z z' : Int32} {d : Value} (F : Arv Z h a k .byte z [] d) (q : z = z') (n : Nat) : Arv Z h a k .byte z' (List.replicate n d) d := q ▸ F.pad (pad_rep [] d n)
theorem d17_0 : oD17 0 (.iload_n 1) 1 := by decide +kernel
theorem d17_1 : oD17 1 (.aload_n 0) 1 := by decide +kernel
theorem d17_2 : oD17 2 .arraylength 1 := by decide +kernel
theorem d17_3 : oD17 3 (.if_icmp .ne 11) 3 := by decide +kernel
theorem d17_14 : oD17 14 (.iload_n 1) 1 := by decide +kernel
theorem d17_15 : oD17 15 (.newarray .byte) 2 := by decide +kernel
theorem d17_17 : oD17 17 (.astore_n 2) 1 := by decide +kernel
theorem d17_18 : oD17 18 (.aload_n 0) 1 := by decide +kernel
theorem d17_19 : oD17 19 (.iconst 0) 1 := by decide +kernel
theorem d17_20 : oD17 20 (.aload_n 2) 1 := by decide +kernel
theorem d17_21 : oD17 21 (.iconst 0) 1 := by decide +kernel
theorem d17_22 : oD17 22 (.aload_n 0) 1 := by decide +kernel
theorem d17_23 : oD17 23 .arraylength 1 := by decide +kernel
theorem d17_24 : oD17 24 (.iload_n 1) 1 := by decide +kernel
theorem d17_25 : oD17 25 (.invokestatic 304) 3 := by decide +kernel
theorem pd__II_I : parseMethodDescriptor "(II)I" = some ⟨[.int, .int], some .int⟩ := by decide +kernel
theorem d17_28 : oD17 28 (.invokestatic 150) 3 := by decide +kernel
theorem d17_31 : oD17 31 (.aload_n 2) 1 := by decide +kernel
theorem d17_32 : oD17 32 .areturn 1 := by decide +kernel
def Q17 (Z : State) (a0 : Addr) (p1 : Int32) (kb : ClassId) (nn : Int32) (vs : List Value) (h0 : Heap) (n0 : Nat) (v : Option Value) (h : Heap) (L : List Loc) : Prop := ∃ (nb : Addr) (kn : ClassId), v = some (.ref nb) ∧ Fr n0 L ∧ Keep h0 h [] ∧ h0.size ≤ nb ∧ Arv Z h nb kn .byte p1 (own_tk p1 vs) (.int 0)
def P17 (Z : State) (a0 : Addr) (p1 : Int32) (kb : ClassId) (nn : Int32) (vs : List Value) (h0 : Heap) (n0 : Nat) (s : State) (o : Outcome) (U' : State) : Prop := ∃ v L, o = .returned v ∧ Q17 Z a0 p1 kb nn vs h0 n0 v U'.heap L ∧ FrameEnd s o U' L oR9.cells oR9.slots
set_option maxRecDepth 65536 in
set_option maxHeartbeats 40000000 in
theorem rm17 (l : Launch) (Z : State) (aV : Array Value) (hw : ∀ d ∈ tables_1, d.before aV Z = true) (ws : List Jvm.Cond) (a0 : Addr) (p1 : Int32) (kb : ClassId) (nn : Int32) (vs : List Value) (h0 : Heap) (n0 : Nat) (Z0 : n0 ≤ h0.size) (V_a0 : Arv Z h0 a0 kb .byte nn vs (.int 0)) (hne : ¬ p1 = nn) (hneg : ¬ p1 < 0) (hcap : p1.toNatClampNeg ≤ 6) (hm : p1 < nn) (hle : (0 : Int32).toNatClampNeg + p1.toNatClampNeg ≤ nn.toNatClampNeg) :
    MetFree l oM31 (head1 (Jvm.Cond.code oM31 jdk_65_method_121_code 3 (some (.array .byte)) :: ws) oR9) (fun a U => a = #[(.ref a0), (.int p1)] ∧ Z.Warmed39 U.vm ∧ U.heap = h0) (fun _ _ _ _ _ => True) (fun _ U o U' => ∃ v L, o = .returned v ∧ Q17 Z a0 p1 kb nn vs h0 n0 v U'.heap L ∧ FrameEnd U o U' L oR9.cells oR9.slots) := by
  refine MetFree.of_bodySF (plainFor_of_name pn_java_util_Arrays) hisR ?_
  intro p e s m args below meth c s₁ Bd hml0 hP hK
  obtain ⟨rfl, hZ, hh⟩ := hP
  have hx := Bd.exec
  have hby := Bd.bytes
  have hml : c.maxLocals = 3 := hml0
  have hown : s.vm.findClass "java/util/Arrays" = some m.cls := findClass_of_methodNamed Bd.named
  have hnm := (name_of_methodNamed Bd.named Bd.method).1
  have X0 : Stand p l e oR9 s m #[(.ref a0), (.int p1)] below meth c s₁ [] 0 0 := Stand.of_body Bd
  have e0 : s₁.heap = h0 := by rw [← hh, Bd.state]; rfl
  have efx : entryFrame m #[(.ref a0), (.int p1)] 3 = mkF m 0 #[.val (.ref a0), .val (.int p1), .unset] [] := by first | (simp [entryFrame, mkF, argsToLocals, Value.category]; done) | rfl
  have N0 := Fr.nil n0
  have K0 : Keep h0 h0 [] := Keep.refl h0 _
  refine OGo.start (g' := mkF m 0 #[.val (.ref a0), .val (.int p1), .unset] []) (efx) ?_
  show OGo p.tables e below (P17 Z a0 p1 kb nn vs h0 n0 s) (s₁.setTop (mkF m 0 #[.val (.ref a0), .val (.int p1), .unset] []))
  have hle2 : (0 : Int32).toNatClampNeg + p1.toNatClampNeg ≤ p1.toNatClampNeg := by rw [show (0 : Int32).toNatClampNeg = 0 from by decide, Nat.zero_add]; exact Nat.le_refl _
  have hle3 : (0 : Int32).toNatClampNeg + p1.toNatClampNeg ≤ (List.replicate p1.toNatClampNeg (Value.int 0)).length := by rw [List.length_replicate]; exact hle2
  refine og (s₁.setTop (mkF m 2 #[.val (.ref a0), .val (.int p1), .unset] [(.ref a0), (.int p1)])) ?_ (fun tX kX => XS.iloadN X0.here hx rfl (hb hby d17_0) rfl (XS.aloadN X0.here hx rfl (hb hby d17_1) rfl rfl kX))
  obtain ⟨cl1, Ar1, qa1, S1, N1', H1, G1⟩ := id V_a0
  refine OGo.go (B := s₁.setTop (mkF m 3 #[.val (.ref a0), .val (.int p1), .unset] [(.int nn), (.int p1)])) ?_ (fun tX kX => X0.arraylength hx (by rw [e0]; exact Ar1.1) (State.isArrayOf_alike hZ.alike Ar1.2.1) (g := (mkF m 2 #[.val (.ref a0), .val (.int p1), .unset] [(.ref a0), (.int p1)])) rfl rfl (hb hby d17_2) _ (by rw [len_of S1 N1']; exact kX))
  refine og (s₁.setTop (mkF m 15 #[.val (.ref a0), .val (.int p1), .unset] [(.int p1)])) ?_ (fun tX kX => XS.icmpYes X0.here hx rfl (pc0 := 3) (pc' := 14) rfl (hb hby d17_3) rfl (feq hne).2 (by decide) (by decide) (XS.iloadN X0.here hx rfl (hb hby d17_14) rfl kX))
  obtain ⟨T2, h2, k2, X2, e2, E2, A2, EA2, st2⟩ := newPE X0 hx hZ (oW hw 1 rfl) e0 (g := (mkF m 15 #[.val (.ref a0), .val (.int p1), .unset] [(.int p1)])) rfl (hb hby d17_15) rfl hneg (cap := 6) hcap (by decide) (by decide) (by decide) (ad := "[B") (by decide)
  obtain ⟨b2, g2⟩ : ∃ z, z = h0.size := ⟨_, rfl⟩
  rw [← g2] at A2 EA2 st2
  have ne_a0_b2 : a0 ≠ b2 := Nat.ne_of_lt (Nat.lt_of_lt_of_le V_a0.lt (Nat.le_of_eq g2.symm))
  have V_a0 := V_a0.ext E2
  have g_b2 : n0 ≤ b2 := Nat.le_trans Z0 (Nat.le_of_eq g2.symm)
  have sz_b2 : h0.size ≤ b2 := Nat.le_trans K0.1 (Nat.le_of_eq g2.symm)
  have zn2 : n0 ≤ h2.size := Nat.le_trans Z0 E2.1
  have K2 := K0.ext E2
  have E_b2 := EA2
  have V_b2 : Arv Z h2 b2 k2 .byte p1 [] (.int 0) := Arv.new A2 hneg
  refine og (T2.setTop (mkF m 17 #[.val (.ref a0), .val (.int p1), .unset] [(.ref b2)])) ?_ st2
  have V_b2 := own_rep V_b2
  refine og (T2.setTop (mkF m 23 #[.val (.ref a0), .val (.int p1), .val (.ref b2)] [(.ref a0), (.int 0), (.ref b2), (.int 0), (.ref a0)])) ?_ (fun tX kX => XS.astoreN X2.here hx rfl (hb hby d17_17) rfl rfl (l' := #[.val (.ref a0), .val (.int p1), .val (.ref b2)]) rfl (XS.aloadN X2.here hx rfl (hb hby d17_18) rfl rfl (XS.iconst X2.here hx rfl (hb hby d17_19) (XS.aloadN X2.here hx rfl (hb hby d17_20) rfl rfl (XS.iconst X2.here hx rfl (hb hby d17_21) (XS.aloadN X2.here hx rfl (hb hby d17_22) rfl rfl kX))))))
  obtain ⟨cl3, Ar3, qa3, S3, N3', H3, G3⟩ := id V_a0
  refine OGo.go (B := T2.setTop (mkF m 24 #[.val (.ref a0), .val (.int p1), .val (.ref b2)] [(.int nn), (.int 0), (.ref b2), (.int 0), (.ref a0)])) ?_ (fun tX kX => X2.arraylength hx (by rw [e2]; exact Ar3.1) (State.isArrayOf_alike hZ.alike Ar3.2.1) (g := (mkF m 23 #[.val (.ref a0), .val (.int p1), .val (.ref b2)] [(.ref a0), (.int 0), (.ref b2), (.int 0), (.ref a0)])) rfl rfl (hb hby d17_23) _ (by rw [len_of S3 N3']; exact kX))
  refine og (T2.setTop (mkF m 25 #[.val (.ref a0), .val (.int p1), .val (.ref b2)] [(.int p1), (.int nn), (.int 0), (.ref b2), (.int 0), (.ref a0)])) ?_ (fun tX kX => XS.iloadN X2.here hx rfl (hb hby d17_24) rfl kX)
  obtain ⟨_, _, ⟨T4, L4, k4, n4⟩, -, X4, ⟨Lc4, hQ4, l4, y4, z4⟩, st4⟩ := Jvm.LawKit.callS X2 hx (y := oM13) hown (mvT hZ (oW hw 94 rfl)) (mvT hZ (oW hw 95 rfl)) (mvT hZ (oW hw 96 rfl)) (mvT hZ (oW hw 97 rfl)) (by decide) (backOf (W := 4) (rm18 l Z aV hw [] nn p1 h2 n0 zn2 hm) hZ (oW hw 97 rfl) (oW hw 96 rfl) (by decide) (by decide)) (g := (mkF m 25 #[.val (.ref a0), .val (.int p1), .val (.ref b2)] [(.int p1), (.int nn), (.int 0), (.ref b2), (.int 0), (.ref a0)])) rfl (by rw [hml]; rfl) (argsL := [(.int nn), (.int p1)]) (rest := [(.int 0), (.ref b2), (.int 0), (.ref a0)]) (lenOf pd__II_I rfl) rfl (by show 2 * 0 + _ ≤ _; exact Nat.le_of_eq rfl) (hb hby d17_25) (fun _ _ => ⟨rfl, e2, (by decide : 1 + 0 ≤ _), (by decide : 6 + 0 ≤ _)⟩)
  dsimp only [Pt.U, Pt.locs, Pt.cells, Pt.slots] at X4 l4 y4 z4 st4 hQ4
  subst l4 y4 z4
  obtain ⟨rfl, N4q, e4⟩ := hQ4
  have N4 := Fr.app N0 N4q
  refine og (T4.setTop (mkF m 28 #[.val (.ref a0), .val (.int p1), .val (.ref b2)] [(.int p1), (.int 0), (.ref b2), (.int 0), (.ref a0)])) ?_ st4
  obtain ⟨T5, h5, L5, X5, e5, N5, Kq5, V5, st5⟩ := cpA X4 hx hZ hown (oW hw 98 rfl) (oW hw 101 rfl) (oW hw 99 rfl) (oW hw 100 rfl) e4 (sp := (0 : Int32)) (dp := (0 : Int32)) (nn := p1) (us := (own_tk p1 vs)) V_a0 V_b2 (Or.inl ⟨rfl, rfl⟩) (by decide) (by decide) hneg hle hle2 rfl hle3 N4 g_b2 (g := (mkF m 28 #[.val (.ref a0), .val (.int p1), .val (.ref b2)] [(.int p1), (.int 0), (.ref b2), (.int 0), (.ref a0)])) rfl (by rw [hml]; rfl) rfl (hb hby d17_28) (by decide) (W := 0) (by show 2 * 0 + _ ≤ _; exact Nat.le_of_eq rfl) (by decide)
  have V_a0 := V_a0.keep Kq5 (ninS ne_a0_b2 nin0)
  have E_b2 := E_b2.keep Kq5
  have K5 := K2.trans Kq5 (allS (P := fun x => x ∈ ([] : List Addr) ∨ h0.size ≤ x) (Or.inr sz_b2) all0)
  have zn5 : n0 ≤ h5.size := Nat.le_trans zn2 Kq5.1
  have V_b2 : Arv Z h5 b2 k2 .byte p1 (own_tk p1 vs) (.int 0) := (by have q := V5; rw [own_tkl] at q; exact q)
  refine og (T5.setTop (mkF m 31 #[.val (.ref a0), .val (.int p1), .val (.ref b2)] [])) ?_ st5
  refine og (T5.setTop (mkF m 32 #[.val (.ref a0), .val (.int p1), .val (.ref b2)] [(.ref b2)])) ?_ (fun tX kX => XS.aloadN X5.here hx rfl (hb hby d17_31) rfl rfl kX)
  refine OGo.ret X5 (v := (some (.ref b2))) (fun h => by rw [Bd.returns] at h; cases h) (BodyLoose.notSynchronized Bd) (fun fs hr => retOut X5 hx Bd.returns rfl (Or.inr (Or.inr (Or.inr (Or.inr ⟨rfl, rfl, rfl⟩)))) (hb hby d17_32) hr) (Q := Q17 Z a0 p1 kb nn vs h0 n0) ?_ (by decide) (by decide)
  show Q17 Z a0 p1 kb nn vs h0 n0 _ T5.heap _
  rw [e5]
  exact ⟨b2, k2, rfl, N5, K5, sz_b2, V_b2⟩
theorem d26_0 : oD26 0 (.iload_n 2) 1 := by decide +kernel
theorem d26_1 : oD26 1 (.iload_n 0) 1 := by decide +kernel
theorem d26_2 : oD26 2 .ior 1 := by decide +kernel
theorem d26_3 : oD26 3 (.iload_n 1) 1 := by decide +kernel
theorem d26_4 : oD26 4 .ior 1 := by decide +kernel
theorem d26_5 : oD26 5 (.ifCond .lt 10) 3 := by decide +kernel
theorem d26_8 : oD26 8 (.iload_n 1) 1 := by decide +kernel
theorem d26_9 : oD26 9 (.iload_n 2) 1 := by decide +kernel
theorem d26_10 : oD26 10 (.iload_n 0) 1 := by decide +kernel
theorem d26_11 : oD26 11 .isub 1 := by decide +kernel
theorem d26_12 : oD26 12 (.if_icmp .le 11) 3 := by decide +kernel
theorem d26_23 : oD26 23 (.iload_n 0) 1 := by decide +kernel
theorem d26_24 : oD26 24 .ireturn 1 := by decide +kernel
def Q26n (Z : State) (p2 : Int32) (h0 : Heap) (n0 : Nat) (v : Option Value) (h : Heap) (L : List Loc) : Prop := v = some (.int 0) ∧ Fr n0 L ∧ h = h0
def P26n (Z : State) (p2 : Int32) (h0 : Heap) (n0 : Nat) (s : State) (o : Outcome) (U' : State) : Prop := ∃ v L, o = .returned v ∧ Q26n Z p2 h0 n0 v U'.heap L ∧ FrameEnd s o U' L oR0.cells oR0.slots
set_option maxRecDepth 65536 in
set_option maxHeartbeats 40000000 in
theorem rm26n (l : Launch) (Z : State) (aV : Array Value) (hw : ∀ d ∈ tables_1, d.before aV Z = true) (ws : List Jvm.Cond) (p2 : Int32) (h0 : Heap) (n0 : Nat) (Z0 : n0 ≤ h0.size) (hb1 : ¬ ((p2 ||| (0 : Int32)) ||| (0 : Int32)) < (0 : Int32)) (hb2 : ¬ (p2 - (0 : Int32)) < (0 : Int32)) :
    MetFree l oM32 (head1 (Jvm.Cond.code oM32 jdk_41_method_13_code 4 (some .int) :: ws) oR0) (fun a U => a = #[(.int 0), (.int 0), (.int p2), .null] ∧ Z.Warmed39 U.vm ∧ U.heap = h0) (fun _ _ _ _ _ => True) (fun _ U o U' => ∃ v L, o = .returned v ∧ Q26n Z p2 h0 n0 v U'.heap L ∧ FrameEnd U o U' L oR0.cells oR0.slots) := by
  refine MetFree.of_bodySF (plainFor_of_name pn_jdk_internal_util_Preconditions) hisR ?_
  intro p e s m args below meth c s₁ Bd hml0 hP hK
  obtain ⟨rfl, hZ, hh⟩ := hP
  have hx := Bd.exec
  have hby := Bd.bytes
  have hml : c.maxLocals = 4 := hml0
  have hown : s.vm.findClass "jdk/internal/util/Preconditions" = some m.cls := findClass_of_methodNamed Bd.named
  have hnm := (name_of_methodNamed Bd.named Bd.method).1
  have X0 : Stand p l e oR0 s m #[(.int 0), (.int 0), (.int p2), .null] below meth c s₁ [] 0 0 := Stand.of_body Bd
  have e0 : s₁.heap = h0 := by rw [← hh, Bd.state]; rfl
  have efx : entryFrame m #[(.int 0), (.int 0), (.int p2), .null] 4 = mkF m 0 #[.val (.int 0), .val (.int 0), .val (.int p2), .val .null] [] := by first | (simp [entryFrame, mkF, argsToLocals, Value.category]; done) | rfl
  have N0 := Fr.nil n0
  have K0 : Keep h0 h0 [] := Keep.refl h0 _
  refine OGo.start (g' := mkF m 0 #[.val (.int 0), .val (.int 0), .val (.int p2), .val .null] []) (efx) ?_
  show OGo p.tables e below (P26n Z p2 h0 n0 s) (s₁.setTop (mkF m 0 #[.val (.int 0), .val (.int 0), .val (.int p2), .val .null] []))
  refine og (s₁.setTop (mkF m 8 #[.val (.int 0), .val (.int 0), .val (.int p2), .val .null] [])) ?_ (fun tX kX => XS.iloadN X0.here hx rfl (hb hby d26_0) rfl (XS.iloadN X0.here hx rfl (hb hby d26_1) rfl (XS.ior X0.here hx rfl (hb hby d26_2) rfl (XS.iloadN X0.here hx rfl (hb hby d26_3) rfl (XS.ior X0.here hx rfl (hb hby d26_4) rfl (XS.ifNo X0.here hx rfl (hb hby d26_5) rfl ((if0 _ _).trans (flt hb1).1) kX))))))
  refine og (s₁.setTop (mkF m 24 #[.val (.int 0), .val (.int 0), .val (.int p2), .val .null] [(.int 0)])) ?_ (fun tX kX => XS.iloadN X0.here hx rfl (hb hby d26_8) rfl (XS.iloadN X0.here hx rfl (hb hby d26_9) rfl (XS.iloadN X0.here hx rfl (hb hby d26_10) rfl (XS.isub X0.here hx rfl (hb hby d26_11) rfl (XS.icmpYes X0.here hx rfl (pc0 := 12) (pc' := 23) rfl (hb hby d26_12) rfl (flt hb2).2.2.2 (by decide) (by decide) (XS.iloadN X0.here hx rfl (hb hby d26_23) rfl kX))))))
  refine OGo.ret X0 (v := (some (.int 0))) (fun h => by rw [Bd.returns] at h; cases h) (BodyLoose.notSynchronized Bd) (fun fs hr => retOut X0 hx Bd.returns rfl (Or.inl ⟨rfl, Or.inl rfl, _, rfl⟩) (hb hby d26_24) hr) (Q := Q26n Z p2 h0 n0) ?_ (by decide) (by decide)
  show Q26n Z p2 h0 n0 _ s₁.heap _
  rw [e0]
  exact ⟨rfl, N0, rfl⟩
def Q26r (Z : State) (p2 : Int32) (a3 : Addr) (h0 : Heap) (n0 : Nat) (v : Option Value) (h : Heap) (L : List Loc) : Prop := v = some (.int 0) ∧ Fr n0 L ∧ h = h0
def P26r (Z : State) (p2 : Int32) (a3 : Addr) (h0 : Heap) (n0 : Nat) (s : State) (o : Outcome) (U' : State) : Prop := ∃ v L, o = .returned v ∧ Q26r Z p2 a3 h0 n0 v U'.heap L ∧ FrameEnd s o U' L oR0.cells oR0.slots
set_option maxRecDepth 65536 in
set_option maxHeartbeats 40000000 in
theorem rm26r (l : Launch) (Z : State) (aV : Array Value) (hw : ∀ d ∈ tables_1, d.before aV Z = true) (ws : List Jvm.Cond) (p2 : Int32) (a3 : Addr) (h0 : Heap) (n0 : Nat) (Z0 : n0 ≤ h0.size) (hb1 : ¬ ((p2 ||| (0 : Int32)) ||| (0 : Int32)) < (0 : Int32)) (hb2 : ¬ (p2 - (0 : Int32)) < (0 : Int32)) :
    MetFree l oM32 (head1 (Jvm.Cond.code oM32 jdk_41_method_13_code 4 (some .int) :: ws) oR0) (fun a U => a = #[(.int 0), (.int 0), (.int p2), (.ref a3)] ∧ Z.Warmed39 U.vm ∧ U.heap = h0) (fun _ _ _ _ _ => True) (fun _ U o U' => ∃ v L, o = .returned v ∧ Q26r Z p2 a3 h0 n0 v U'.heap L ∧ FrameEnd U o U' L oR0.cells oR0.slots) := by
  refine MetFree.of_bodySF (plainFor_of_name pn_jdk_internal_util_Preconditions) hisR ?_
  intro p e s m args below meth c s₁ Bd hml0 hP hK
  obtain ⟨rfl, hZ, hh⟩ := hP
  have hx := Bd.exec
  have hby := Bd.bytes
  have hml : c.maxLocals = 4 := hml0
  have hown : s.vm.findClass "jdk/internal/util/Preconditions" = some m.cls := findClass_of_methodNamed Bd.named
  have hnm := (name_of_methodNamed Bd.named Bd.method).1
  have X0 : Stand p l e oR0 s m #[(.int 0), (.int 0), (.int p2), (.ref a3)] below meth c s₁ [] 0 0 := Stand.of_body Bd
  have e0 : s₁.heap = h0 := by rw [← hh, Bd.state]; rfl
  have efx : entryFrame m #[(.int 0), (.int 0), (.int p2), (.ref a3)] 4 = mkF m 0 #[.val (.int 0), .val (.int 0), .val (.int p2), .val (.ref a3)] [] := by first | (simp [entryFrame, mkF, argsToLocals, Value.category]; done) | rfl
  have N0 := Fr.nil n0
  have K0 : Keep h0 h0 [] := Keep.refl h0 _
  refine OGo.start (g' := mkF m 0 #[.val (.int 0), .val (.int 0), .val (.int p2), .val (.ref a3)] []) (efx) ?_
  show OGo p.tables e below (P26r Z p2 a3 h0 n0 s) (s₁.setTop (mkF m 0 #[.val (.int 0), .val (.int 0), .val (.int p2), .val (.ref a3)] []))
  refine og (s₁.setTop (mkF m 8 #[.val (.int 0), .val (.int 0), .val (.int p2), .val (.ref a3)] [])) ?_ (fun tX kX => XS.iloadN X0.here hx rfl (hb hby d26_0) rfl (XS.iloadN X0.here hx rfl (hb hby d26_1) rfl (XS.ior X0.here hx rfl (hb hby d26_2) rfl (XS.iloadN X0.here hx rfl (hb hby d26_3) rfl (XS.ior X0.here hx rfl (hb hby d26_4) rfl (XS.ifNo X0.here hx rfl (hb hby d26_5) rfl ((if0 _ _).trans (flt hb1).1) kX))))))
  refine og (s₁.setTop (mkF m 24 #[.val (.int 0), .val (.int 0), .val (.int p2), .val (.ref a3)] [(.int 0)])) ?_ (fun tX kX => XS.iloadN X0.here hx rfl (hb hby d26_8) rfl (XS.iloadN X0.here hx rfl (hb hby d26_9) rfl (XS.iloadN X0.here hx rfl (hb hby d26_10) rfl (XS.isub X0.here hx rfl (hb hby d26_11) rfl (XS.icmpYes X0.here hx rfl (pc0 := 12) (pc' := 23) rfl (hb hby d26_12) rfl (flt hb2).2.2.2 (by decide) (by decide) (XS.iloadN X0.here hx rfl (hb hby d26_23) rfl kX))))))
  refine OGo.ret X0 (v := (some (.int 0))) (fun h => by rw [Bd.returns] at h; cases h) (BodyLoose.notSynchronized Bd) (fun fs hr => retOut X0 hx Bd.returns rfl (Or.inl ⟨rfl, Or.inl rfl, _, rfl⟩) (hb hby d26_24) hr) (Q := Q26r Z p2 a3 h0 n0) ?_ (by decide) (by decide)
  show Q26r Z p2 a3 h0 n0 _ s₁.heap _
  rw [e0]
  exact ⟨rfl, N0, rfl⟩
theorem d25_0 : oD25 0 (.iload_n 0) 1 := by decide +kernel
theorem d25_1 : oD25 1 (.iload_n 1) 1 := by decide +kernel
theorem d25_2 : oD25 2 (.iload_n 2) 1 := by decide +kernel
theorem d25_3 : oD25 3 (.getstatic 1053) 3 := by decide +kernel
theorem d25_6 : oD25 6 (.invokestatic 1065) 3 := by decide +kernel
theorem pd__IIILjava_util_function_BiFunction__I : parseMethodDescriptor "(IIILjava/util/function/BiFunction;)I" = some ⟨[.int, .int, .int, (.object "java/util/function/BiFunction")], some .int⟩ := by decide +kernel
theorem d25_9 : oD25 9 .ireturn 1 := by decide +kernel
def Q25 (Z : State) (p2 : Int32) (fv : Value) (h0 : Heap) (n0 : Nat) (v : Option Value) (h : Heap) (L : List Loc) : Prop := v = some (.int 0) ∧ Fr n0 L ∧ h = h0
def P25 (Z : State) (p2 : Int32) (fv : Value) (h0 : Heap) (n0 : Nat) (s : State) (o : Outcome) (U' : State) : Prop := ∃ v L, o = .returned v ∧ Q25 Z p2 fv h0 n0 v U'.heap L ∧ FrameEnd s o U' L oR10.cells oR10.slots
set_option maxRecDepth 65536 in
set_option maxHeartbeats 40000000 in
theorem rm25 (l : Launch) (Z : State) (aV : Array Value) (hw : ∀ d ∈ tables_1, d.before aV Z = true) (ws : List Jvm.Cond) (p2 : Int32) (fv : Value) (h0 : Heap) (n0 : Nat) (Z0 : n0 ≤ h0.size) (S_SIOOBE_FORMATTER : Sta Z h0 "jdk/internal/util/Preconditions" "SIOOBE_FORMATTER" "Ljava/util/function/BiFunction;" fv) (hfv : fv.isRef = true) (hb1 : ¬ ((p2 ||| (0 : Int32)) ||| (0 : Int32)) < (0 : Int32)) (hb2 : ¬ (p2 - (0 : Int32)) < (0 : Int32)) :
    MetFree l oM33 (head1 (Jvm.Cond.code oM33 jdk_42_method_157_code 3 (some .int) :: ws) oR10) (fun a U => a = #[(.int 0), (.int 0), (.int p2)] ∧ Z.Warmed39 U.vm ∧ U.heap = h0) (fun _ _ _ _ _ => True) (fun _ U o U' => ∃ v L, o = .returned v ∧ Q25 Z p2 fv h0 n0 v U'.heap L ∧ FrameEnd U o U' L oR10.cells oR10.slots) := by
  refine MetFree.of_bodySF (plainFor_of_name pn_java_lang_String) hisR ?_
  intro p e s m args below meth c s₁ Bd hml0 hP hK
  obtain ⟨rfl, hZ, hh⟩ := hP
  have hx := Bd.exec
  have hby := Bd.bytes
  have hml : c.maxLocals = 3 := hml0
  have hown : s.vm.findClass "java/lang/String" = some m.cls := findClass_of_methodNamed Bd.named
  have hnm := (name_of_methodNamed Bd.named Bd.method).1
  have X0 : Stand p l e oR10 s m #[(.int 0), (.int 0), (.int p2)] below meth c s₁ [] 0 0 := Stand.of_body Bd
  have e0 : s₁.heap = h0 := by rw [← hh, Bd.state]; rfl
  have efx : entryFrame m #[(.int 0), (.int 0), (.int p2)] 3 = mkF m 0 #[.val (.int 0), .val (.int 0), .val (.int p2)] [] := by first | (simp [entryFrame, mkF, argsToLocals, Value.category]; done) | rfl
  have N0 := Fr.nil n0
  have K0 : Keep h0 h0 [] := Keep.refl h0 _
  refine OGo.start (g' := mkF m 0 #[.val (.int 0), .val (.int 0), .val (.int p2)] []) (efx) ?_
  show OGo p.tables e below (P25 Z p2 fv h0 n0 s) (s₁.setTop (mkF m 0 #[.val (.int 0), .val (.int 0), .val (.int p2)] []))
  rcases ref_cases hfv with hfe | ⟨fa, hfe⟩
  ·
    rw [hfe] at S_SIOOBE_FORMATTER
    refine og (s₁.setTop (mkF m 3 #[.val (.int 0), .val (.int 0), .val (.int p2)] [(.int p2), (.int 0), (.int 0)])) ?_ (fun tX kX => XS.iloadN X0.here hx rfl (hb hby d25_0) rfl (XS.iloadN X0.here hx rfl (hb hby d25_1) rfl (XS.iloadN X0.here hx rfl (hb hby d25_2) rfl kX)))
    obtain ⟨T1, X1, e1, st1⟩ := getS2 X0 hx hZ hown (host := "") (Or.inl (oW hw 83 rfl)) Via.refl e0 S_SIOOBE_FORMATTER (g := (mkF m 3 #[.val (.int 0), .val (.int 0), .val (.int p2)] [(.int p2), (.int 0), (.int 0)])) rfl (hb hby d25_3)
    refine og (T1.setTop (mkF m 6 #[.val (.int 0), .val (.int 0), .val (.int p2)] [.null, (.int p2), (.int 0), (.int 0)])) ?_ st1
    obtain ⟨_, _, ⟨T2, L2, k2, n2⟩, -, X2, ⟨Lc2, hQ2, l2, y2, z2⟩, st2⟩ := Jvm.LawKit.callS X1 hx (y := oM32) hown (mvT hZ (oW hw 127 rfl)) (mvT hZ (oW hw 128 rfl)) (mvT hZ (oW hw 84 rfl)) (mvT hZ (oW hw 129 rfl)) (by decide) (backOf (W := 0) (rm26n l Z aV hw [] p2 h0 n0 Z0 hb1 hb2) hZ (oW hw 129 rfl) (oW hw 84 rfl) (by decide) (by decide)) (g := (mkF m 6 #[.val (.int 0), .val (.int 0), .val (.int p2)] [.null, (.int p2), (.int 0), (.int 0)])) rfl (by rw [hml]; rfl) (argsL := [(.int 0), (.int 0), (.int p2), .null]) (rest := []) (lenOf pd__IIILjava_util_function_BiFunction__I rfl) rfl (by show 2 * 0 + _ ≤ _; exact Nat.le_of_eq rfl) (hb hby d25_6) (fun _ _ => ⟨rfl, e1, (by decide : 0 + 0 ≤ _), (by decide : 0 + 0 ≤ _)⟩)
    dsimp only [Pt.U, Pt.locs, Pt.cells, Pt.slots] at X2 l2 y2 z2 st2 hQ2
    subst l2 y2 z2
    obtain ⟨rfl, N2q, e2⟩ := hQ2
    have N2 := Fr.app N0 N2q
    refine og (T2.setTop (mkF m 9 #[.val (.int 0), .val (.int 0), .val (.int p2)] [(.int 0)])) ?_ st2
    refine OGo.ret X2 (v := (some (.int 0))) (fun h => by rw [Bd.returns] at h; cases h) (BodyLoose.notSynchronized Bd) (fun fs hr => retOut X2 hx Bd.returns rfl (Or.inl ⟨rfl, Or.inl rfl, _, rfl⟩) (hb hby d25_9) hr) (Q := Q25 Z p2 fv h0 n0) ?_ (by decide) (by decide)
    show Q25 Z p2 fv h0 n0 _ T2.heap _
    rw [e2]
    exact ⟨rfl, N2, rfl⟩
  ·
    rw [hfe] at S_SIOOBE_FORMATTER
    refine og (s₁.setTop (mkF m 3 #[.val (.int 0), .val (.int 0), .val (.int p2)] [(.int p2), (.int 0), (.int 0)])) ?_ (fun tX kX => XS.iloadN X0.here hx rfl (hb hby d25_0) rfl (XS.iloadN X0.here hx rfl (hb hby d25_1) rfl (XS.iloadN X0.here hx rfl (hb hby d25_2) rfl kX)))
    obtain ⟨T3, X3, e3, st3⟩ := getS2 X0 hx hZ hown (host := "") (Or.inl (oW hw 83 rfl)) Via.refl e0 S_SIOOBE_FORMATTER (g := (mkF m 3 #[.val (.int 0), .val (.int 0), .val (.int p2)] [(.int p2), (.int 0), (.int 0)])) rfl (hb hby d25_3)
    refine og (T3.setTop (mkF m 6 #[.val (.int 0), .val (.int 0), .val (.int p2)] [(.ref fa), (.int p2), (.int 0), (.int 0)])) ?_ st3
    obtain ⟨_, _, ⟨T4, L4, k4, n4⟩, -, X4, ⟨Lc4, hQ4, l4, y4, z4⟩, st4⟩ := Jvm.LawKit.callS X3 hx (y := oM32) hown (mvT hZ (oW hw 127 rfl)) (mvT hZ (oW hw 128 rfl)) (mvT hZ (oW hw 84 rfl)) (mvT hZ (oW hw 129 rfl)) (by decide) (backOf (W := 0) (rm26r l Z aV hw [] p2 fa h0 n0 Z0 hb1 hb2) hZ (oW hw 129 rfl) (oW hw 84 rfl) (by decide) (by decide)) (g := (mkF m 6 #[.val (.int 0), .val (.int 0), .val (.int p2)] [(.ref fa), (.int p2), (.int 0), (.int 0)])) rfl (by rw [hml]; rfl) (argsL := [(.int 0), (.int 0), (.int p2), (.ref fa)]) (rest := []) (lenOf pd__IIILjava_util_function_BiFunction__I rfl) rfl (by show 2 * 0 + _ ≤ _; exact Nat.le_of_eq rfl) (hb hby d25_6) (fun _ _ => ⟨rfl, e3, (by decide : 0 + 0 ≤ _), (by decide : 0 + 0 ≤ _)⟩)
    dsimp only [Pt.U, Pt.locs, Pt.cells, Pt.slots] at X4 l4 y4 z4 st4 hQ4
    subst l4 y4 z4
    obtain ⟨rfl, N4q, e4⟩ := hQ4
    have N4 := Fr.app N0 N4q
    refine og (T4.setTop (mkF m 9 #[.val (.int 0), .val (.int 0), .val (.int p2)] [(.int 0)])) ?_ st4
    refine OGo.ret X4 (v := (some (.int 0))) (fun h => by rw [Bd.returns] at h; cases h) (BodyLoose.notSynchronized Bd) (fun fs hr => retOut X4 hx Bd.returns rfl (Or.inl ⟨rfl, Or.inl rfl, _, rfl⟩) (hb hby d25_9) hr) (Q := Q25 Z p2 fv h0 n0) ?_ (by decide) (by decide)
    show Q25 Z p2 fv h0 n0 _ T4.heap _
    rw [e4]
    exact ⟨rfl, N4, rfl⟩
theorem d23_0 : oD23 0 (.iload_n 0) 1 := by decide +kernel
theorem d23_1 : oD23 1 (.iload_n 1) 1 := by decide +kernel
theorem d23_2 : oD23 2 (.aload_n 2) 1 := by decide +kernel
theorem d23_3 : oD23 3 (.invokestatic 48) 3 := by decide +kernel
theorem d23_6 : oD23 6 (.invokestatic 419) 3 := by decide +kernel
theorem pd__III_I : parseMethodDescriptor "(III)I" = some ⟨[.int, .int, .int], some .int⟩ := by decide +kernel
theorem d23_9 : oD23 9 .pop 1 := by decide +kernel
theorem d23_10 : oD23 10 .return_ 1 := by decide +kernel
def Q23 (Z : State) (a2 : Addr) (kb : ClassId) (nn : Int32) (vs : List Value) (fv : Value) (h0 : Heap) (n0 : Nat) (v : Option Value) (h : Heap) (L : List Loc) : Prop := v = none ∧ Fr n0 L ∧ h = h0
def P23 (Z : State) (a2 : Addr) (kb : ClassId) (nn : Int32) (vs : List Value) (fv : Value) (h0 : Heap) (n0 : Nat) (s : State) (o : Outcome) (U' : State) : Prop := ∃ v L, o = .returned v ∧ Q23 Z a2 kb nn vs fv h0 n0 v U'.heap L ∧ FrameEnd s o U' L oR11.cells oR11.slots
set_option maxRecDepth 65536 in
set_option maxHeartbeats 40000000 in
theorem rm23 (l : Launch) (Z : State) (aV : Array Value) (hw : ∀ d ∈ tables_1, d.before aV Z = true) (ws : List Jvm.Cond) (a2 : Addr) (kb : ClassId) (nn : Int32) (vs : List Value) (fv : Value) (h0 : Heap) (n0 : Nat) (Z0 : n0 ≤ h0.size) (V_a2 : Arv Z h0 a2 kb .byte nn vs (.int 0)) (S_SIOOBE_FORMATTER : Sta Z h0 "jdk/internal/util/Preconditions" "SIOOBE_FORMATTER" "Ljava/util/function/BiFunction;" fv) (hfv : fv.isRef = true) (hb1 : ¬ (((nn >>> ((1 : Int32) &&& 31)) ||| (0 : Int32)) ||| (0 : Int32)) < (0 : Int32)) (hb2 : ¬ ((nn >>> ((1 : Int32) &&& 31)) - (0 : Int32)) < (0 : Int32)) :
    MetFree l oM34 (head1 (Jvm.Cond.code oM34 jdk_52_method_94_code 3 none :: ws) oR11) (fun a U => a = #[(.int 0), (.int 0), (.ref a2)] ∧ Z.Warmed39 U.vm ∧ U.heap = h0) (fun _ _ _ _ _ => True) (fun _ U o U' => ∃ v L, o = .returned v ∧ Q23 Z a2 kb nn vs fv h0 n0 v U'.heap L ∧ FrameEnd U o U' L oR11.cells oR11.slots) := by
  refine MetFree.of_bodySF (plainFor_of_name pn_java_lang_StringUTF16) hisR ?_
  intro p e s m args below meth c s₁ Bd hml0 hP hK
  obtain ⟨rfl, hZ, hh⟩ := hP
  have hx := Bd.exec
  have hby := Bd.bytes
  have hml : c.maxLocals = 3 := hml0
  have hown : s.vm.findClass "java/lang/StringUTF16" = some m.cls := findClass_of_methodNamed Bd.named
  have hnm := (name_of_methodNamed Bd.named Bd.method).1
  have X0 : Stand p l e oR11 s m #[(.int 0), (.int 0), (.ref a2)] below meth c s₁ [] 0 0 := Stand.of_body Bd
  have e0 : s₁.heap = h0 := by rw [← hh, Bd.state]; rfl
  have efx : entryFrame m #[(.int 0), (.int 0), (.ref a2)] 3 = mkF m 0 #[.val (.int 0), .val (.int 0), .val (.ref a2)] [] := by first | (simp [entryFrame, mkF, argsToLocals, Value.category]; done) | rfl
  have N0 := Fr.nil n0
  have K0 : Keep h0 h0 [] := Keep.refl h0 _
  refine OGo.start (g' := mkF m 0 #[.val (.int 0), .val (.int 0), .val (.ref a2)] []) (efx) ?_
  show OGo p.tables e below (P23 Z a2 kb nn vs fv h0 n0 s) (s₁.setTop (mkF m 0 #[.val (.int 0), .val (.int 0), .val (.ref a2)] []))
  refine og (s₁.setTop (mkF m 3 #[.val (.int 0), .val (.int 0), .val (.ref a2)] [(.ref a2), (.int 0), (.int 0)])) ?_ (fun tX kX => XS.iloadN X0.here hx rfl (hb hby d23_0) rfl (XS.iloadN X0.here hx rfl (hb hby d23_1) rfl (XS.aloadN X0.here hx rfl (hb hby d23_2) rfl rfl kX)))
  obtain ⟨_, _, ⟨T1, L1, k1, n1⟩, -, X1, ⟨Lc1, hQ1, l1, y1, z1⟩, st1⟩ := Jvm.LawKit.callS X0 hx (y := oM22) hown (mvT hZ (oW hw 121 rfl)) (mvT hZ (oW hw 122 rfl)) (mvT hZ (oW hw 106 rfl)) (mvT hZ (oW hw 123 rfl)) (by decide) (backOf (W := 2) (rm24 l Z aV hw [] a2 kb nn vs h0 n0 Z0 V_a2) hZ (oW hw 123 rfl) (oW hw 106 rfl) (by decide) (by decide)) (g := (mkF m 3 #[.val (.int 0), .val (.int 0), .val (.ref a2)] [(.ref a2), (.int 0), (.int 0)])) rfl (by rw [hml]; rfl) (argsL := [(.ref a2)]) (rest := [(.int 0), (.int 0)]) (lenOf pd___B_I rfl) rfl (by show 2 * 0 + _ ≤ _; exact Nat.le_of_eq rfl) (hb hby d23_3) (fun _ _ => ⟨rfl, e0, (by decide : 0 + 0 ≤ _), (by decide : 0 + 0 ≤ _)⟩)
  dsimp only [Pt.U, Pt.locs, Pt.cells, Pt.slots] at X1 l1 y1 z1 st1 hQ1
  subst l1 y1 z1
  obtain ⟨rfl, N1q, e1⟩ := hQ1
  have N1 := Fr.app N0 N1q
  refine og (T1.setTop (mkF m 6 #[.val (.int 0), .val (.int 0), .val (.ref a2)] [(.int (nn >>> ((1 : Int32) &&& 31))), (.int 0), (.int 0)])) ?_ st1
  obtain ⟨_, _, ⟨T2, L2, k2, n2⟩, -, X2, ⟨Lc2, hQ2, l2, y2, z2⟩, st2⟩ := Jvm.LawKit.callS X1 hx (y := oM33) hown (mvT hZ (oW hw 124 rfl)) (mvT hZ (oW hw 125 rfl)) (mvT hZ (oW hw 9 rfl)) (mvT hZ (oW hw 126 rfl)) (by decide) (backOf (W := 0) (rm25 l Z aV hw [] (nn >>> ((1 : Int32) &&& 31)) fv h0 n0 Z0 S_SIOOBE_FORMATTER hfv hb1 hb2) hZ (oW hw 126 rfl) (oW hw 9 rfl) (by decide) (by decide)) (g := (mkF m 6 #[.val (.int 0), .val (.int 0), .val (.ref a2)] [(.int (nn >>> ((1 : Int32) &&& 31))), (.int 0), (.int 0)])) rfl (by rw [hml]; rfl) (argsL := [(.int 0), (.int 0), (.int (nn >>> ((1 : Int32) &&& 31)))]) (rest := []) (lenOf pd__III_I rfl) rfl (by show 2 * 0 + _ ≤ _; exact Nat.le_of_eq rfl) (hb hby d23_6) (fun _ _ => ⟨rfl, e1, (by decide : 0 + 0 ≤ _), (by decide : 0 + 0 ≤ _)⟩)
  dsimp only [Pt.U, Pt.locs, Pt.cells, Pt.slots] at X2 l2 y2 z2 st2 hQ2
  subst l2 y2 z2
  obtain ⟨rfl, N2q, e2⟩ := hQ2
  have N2 := Fr.app N1 N2q
  refine og (T2.setTop (mkF m 9 #[.val (.int 0), .val (.int 0), .val (.ref a2)] [(.int 0)])) ?_ st2
  refine og (T2.setTop (mkF m 10 #[.val (.int 0), .val (.int 0), .val (.ref a2)] [])) ?_ (fun tX kX => XS.pop X2.here hx rfl (hb hby d23_9) rfl rfl kX)
  refine OGo.ret X2 (v := none) (fun _ => rfl) (BodyLoose.notSynchronized Bd) (fun fs hr => X2.returnOut hx Bd.returns (hb hby d23_10) hr) (Q := Q23 Z a2 kb nn vs fv h0 n0) ?_ (by decide) (by decide)
  show Q23 Z a2 kb nn vs fv h0 n0 _ T2.heap _
  rw [e2]
  exact ⟨rfl, N2, rfl⟩
theorem d22_0 : oD22 0 (.iload_n 3) 1 := by decide +kernel
theorem d22_1 : oD22 1 (.iload 4) 2 := by decide +kernel
theorem d22_3 : oD22 3 (.aload_n 2) 1 := by decide +kernel
theorem d22_4 : oD22 4 (.invokestatic 173) 3 := by decide +kernel
theorem pd__II_B_V : parseMethodDescriptor "(II[B)V" = some ⟨[.int, .int, (.array .byte)], none⟩ := by decide +kernel
theorem d22_7 : oD22 7 (.iconst 0) 1 := by decide +kernel
theorem d22_8 : oD22 8 (.istore 5) 2 := by decide +kernel
theorem d22_10 : oD22 10 (.iload 5) 2 := by decide +kernel
theorem d22_12 : oD22 12 (.iload 4) 2 := by decide +kernel
theorem d22_14 : oD22 14 (.if_icmp .ge 27) 3 := by decide +kernel
theorem d22_41 : oD22 41 .return_ 1 := by decide +kernel
def Q22 (Z : State) (a0 : Addr) (a2 : Addr) (kb : ClassId) (nn : Int32) (vs : List Value) (fv : Value) (h0 : Heap) (n0 : Nat) (v : Option Value) (h : Heap) (L : List Loc) : Prop := v = none ∧ Fr n0 L ∧ h = h0
def P22 (Z : State) (a0 : Addr) (a2 : Addr) (kb : ClassId) (nn : Int32) (vs : List Value) (fv : Value) (h0 : Heap) (n0 : Nat) (s : State) (o : Outcome) (U' : State) : Prop := ∃ v L, o = .returned v ∧ Q22 Z a0 a2 kb nn vs fv h0 n0 v U'.heap L ∧ FrameEnd s o U' L oR12.cells oR12.slots
set_option maxRecDepth 65536 in
set_option maxHeartbeats 40000000 in
theorem rm22 (l : Launch) (Z : State) (aV : Array Value) (hw : ∀ d ∈ tables_1, d.before aV Z = true) (ws : List Jvm.Cond) (a0 : Addr) (a2 : Addr) (kb : ClassId) (nn : Int32) (vs : List Value) (fv : Value) (h0 : Heap) (n0 : Nat) (Z0 : n0 ≤ h0.size) (V_a2 : Arv Z h0 a2 kb .byte nn vs (.int 0)) (S_SIOOBE_FORMATTER : Sta Z h0 "jdk/internal/util/Preconditions" "SIOOBE_FORMATTER" "Ljava/util/function/BiFunction;" fv) (hfv : fv.isRef = true) (hb1 : ¬ (((nn >>> ((1 : Int32) &&& 31)) ||| (0 : Int32)) ||| (0 : Int32)) < (0 : Int32)) (hb2 : ¬ ((nn >>> ((1 : Int32) &&& 31)) - (0 : Int32)) < (0 : Int32)) :
    MetFree l oM35 (head1 (Jvm.Cond.code oM35 jdk_52_method_86_code 6 none :: ws) oR12) (fun a U => a = #[(.ref a0), (.int 0), (.ref a2), (.int 0), (.int 0)] ∧ Z.Warmed39 U.vm ∧ U.heap = h0) (fun _ _ _ _ _ => True) (fun _ U o U' => ∃ v L, o = .returned v ∧ Q22 Z a0 a2 kb nn vs fv h0 n0 v U'.heap L ∧ FrameEnd U o U' L oR12.cells oR12.slots) := by
  refine MetFree.of_bodySF (plainFor_of_name pn_java_lang_StringUTF16) hisR ?_
  intro p e s m args below meth c s₁ Bd hml0 hP hK
  obtain ⟨rfl, hZ, hh⟩ := hP
  have hx := Bd.exec
  have hby := Bd.bytes
  have hml : c.maxLocals = 6 := hml0
  have hown : s.vm.findClass "java/lang/StringUTF16" = some m.cls := findClass_of_methodNamed Bd.named
  have hnm := (name_of_methodNamed Bd.named Bd.method).1
  have X0 : Stand p l e oR12 s m #[(.ref a0), (.int 0), (.ref a2), (.int 0), (.int 0)] below meth c s₁ [] 0 0 := Stand.of_body Bd
  have e0 : s₁.heap = h0 := by rw [← hh, Bd.state]; rfl
  have efx : entryFrame m #[(.ref a0), (.int 0), (.ref a2), (.int 0), (.int 0)] 6 = mkF m 0 #[.val (.ref a0), .val (.int 0), .val (.ref a2), .val (.int 0), .val (.int 0), .unset] [] := by first | (simp [entryFrame, mkF, argsToLocals, Value.category]; done) | rfl
  have N0 := Fr.nil n0
  have K0 : Keep h0 h0 [] := Keep.refl h0 _
  refine OGo.start (g' := mkF m 0 #[.val (.ref a0), .val (.int 0), .val (.ref a2), .val (.int 0), .val (.int 0), .unset] []) (efx) ?_
  show OGo p.tables e below (P22 Z a0 a2 kb nn vs fv h0 n0 s) (s₁.setTop (mkF m 0 #[.val (.ref a0), .val (.int 0), .val (.ref a2), .val (.int 0), .val (.int 0), .unset] []))
  refine og (s₁.setTop (mkF m 4 #[.val (.ref a0), .val (.int 0), .val (.ref a2), .val (.int 0), .val (.int 0), .unset] [(.ref a2), (.int 0), (.int 0)])) ?_ (fun tX kX => XS.iloadN X0.here hx rfl (hb hby d22_0) rfl (XS.iload X0.here hx rfl (hb hby d22_1) rfl (XS.aloadN X0.here hx rfl (hb hby d22_3) rfl rfl kX)))
  obtain ⟨_, _, ⟨T1, L1, k1, n1⟩, -, X1, ⟨Lc1, hQ1, l1, y1, z1⟩, st1⟩ := Jvm.LawKit.callS X0 hx (y := oM34) hown (mvT hZ (oW hw 118 rfl)) (mvT hZ (oW hw 119 rfl)) (mvT hZ (oW hw 106 rfl)) (mvT hZ (oW hw 120 rfl)) (by decide) (backOf (W := 0) (rm23 l Z aV hw [] a2 kb nn vs fv h0 n0 Z0 V_a2 S_SIOOBE_FORMATTER hfv hb1 hb2) hZ (oW hw 120 rfl) (oW hw 106 rfl) (by decide) (by decide)) (g := (mkF m 4 #[.val (.ref a0), .val (.int 0), .val (.ref a2), .val (.int 0), .val (.int 0), .unset] [(.ref a2), (.int 0), (.int 0)])) rfl (by rw [hml]; rfl) (argsL := [(.int 0), (.int 0), (.ref a2)]) (rest := []) (lenOf pd__II_B_V rfl) rfl (by show 2 * 0 + _ ≤ _; exact Nat.le_of_eq rfl) (hb hby d22_4) (fun _ _ => ⟨rfl, e0, (by decide : 0 + 0 ≤ _), (by decide : 0 + 0 ≤ _)⟩)
  dsimp only [Pt.U, Pt.locs, Pt.cells, Pt.slots] at X1 l1 y1 z1 st1 hQ1
  subst l1 y1 z1
  obtain ⟨rfl, N1q, e1⟩ := hQ1
  have N1 := Fr.app N0 N1q
  refine og (T1.setTop (mkF m 7 #[.val (.ref a0), .val (.int 0), .val (.ref a2), .val (.int 0), .val (.int 0), .unset] [])) ?_ st1
  refine og (T1.setTop (mkF m 41 #[.val (.ref a0), .val (.int 0), .val (.ref a2), .val (.int 0), .val (.int 0), .val (.int 0)] [])) ?_ (fun tX kX => XS.iconst X1.here hx rfl (hb hby d22_7) (XS.istore X1.here hx rfl (hb hby d22_8) rfl (l' := #[.val (.ref a0), .val (.int 0), .val (.ref a2), .val (.int 0), .val (.int 0), .val (.int 0)]) rfl (XS.iload X1.here hx rfl (hb hby d22_10) rfl (XS.iload X1.here hx rfl (hb hby d22_12) rfl (XS.icmpYes X1.here hx rfl (pc0 := 14) (pc' := 41) rfl (hb hby d22_14) rfl (flt (by decide)).2.1 (by decide) (by decide) kX)))))
  refine OGo.ret X1 (v := none) (fun _ => rfl) (BodyLoose.notSynchronized Bd) (fun fs hr => X1.returnOut hx Bd.returns (hb hby d22_41) hr) (Q := Q22 Z a0 a2 kb nn vs fv h0 n0) ?_ (by decide) (by decide)
  show Q22 Z a0 a2 kb nn vs fv h0 n0 _ T1.heap _
  rw [e1]
  exact ⟨rfl, N1, rfl⟩
theorem d21_0 : oD21 0 (.aload_n 0) 1 := by decide +kernel
theorem d21_1 : oD21 1 (.iload_n 1) 1 := by decide +kernel
theorem d21_2 : oD21 2 (.aload_n 2) 1 := by decide +kernel
theorem d21_3 : oD21 3 (.iload_n 3) 1 := by decide +kernel
theorem d21_4 : oD21 4 (.iload 4) 2 := by decide +kernel
theorem d21_6 : oD21 6 (.invokestatic 240) 3 := by decide +kernel
theorem pd___BI_BII_V : parseMethodDescriptor "([BI[BII)V" = some ⟨[(.array .byte), .int, (.array .byte), .int, .int], none⟩ := by decide +kernel
theorem d21_9 : oD21 9 .return_ 1 := by decide +kernel
def Q21 (Z : State) (a0 : Addr) (a2 : Addr) (kb : ClassId) (nn : Int32) (vs : List Value) (fv : Value) (h0 : Heap) (n0 : Nat) (v : Option Value) (h : Heap) (L : List Loc) : Prop := v = none ∧ Fr n0 L ∧ h = h0
def P21 (Z : State) (a0 : Addr) (a2 : Addr) (kb : ClassId) (nn : Int32) (vs : List Value) (fv : Value) (h0 : Heap) (n0 : Nat) (s : State) (o : Outcome) (U' : State) : Prop := ∃ v L, o = .returned v ∧ Q21 Z a0 a2 kb nn vs fv h0 n0 v U'.heap L ∧ FrameEnd s o U' L oR13.cells oR13.slots
set_option maxRecDepth 65536 in
set_option maxHeartbeats 40000000 in
theorem rm21 (l : Launch) (Z : State) (aV : Array Value) (hw : ∀ d ∈ tables_1, d.before aV Z = true) (ws : List Jvm.Cond) (a0 : Addr) (a2 : Addr) (kb : ClassId) (nn : Int32) (vs : List Value) (fv : Value) (h0 : Heap) (n0 : Nat) (Z0 : n0 ≤ h0.size) (V_a2 : Arv Z h0 a2 kb .byte nn vs (.int 0)) (S_SIOOBE_FORMATTER : Sta Z h0 "jdk/internal/util/Preconditions" "SIOOBE_FORMATTER" "Ljava/util/function/BiFunction;" fv) (hfv : fv.isRef = true) (hb1 : ¬ (((nn >>> ((1 : Int32) &&& 31)) ||| (0 : Int32)) ||| (0 : Int32)) < (0 : Int32)) (hb2 : ¬ ((nn >>> ((1 : Int32) &&& 31)) - (0 : Int32)) < (0 : Int32)) :
    MetFree l oM36 (head1 (Jvm.Cond.code oM36 jdk_43_method_50_code 5 none :: ws) oR13) (fun a U => a = #[(.ref a0), (.int 0), (.ref a2), (.int 0), (.int 0)] ∧ Z.Warmed39 U.vm ∧ U.heap = h0) (fun _ _ _ _ _ => True) (fun _ U o U' => ∃ v L, o = .returned v ∧ Q21 Z a0 a2 kb nn vs fv h0 n0 v U'.heap L ∧ FrameEnd U o U' L oR13.cells oR13.slots) := by
  refine MetFree.of_bodySF (plainFor_of_name pn_java_lang_StringLatin1) hisR ?_
  intro p e s m args below meth c s₁ Bd hml0 hP hK
  obtain ⟨rfl, hZ, hh⟩ := hP
  have hx := Bd.exec
  have hby := Bd.bytes
  have hml : c.maxLocals = 5 := hml0
  have hown : s.vm.findClass "java/lang/StringLatin1" = some m.cls := findClass_of_methodNamed Bd.named
  have hnm := (name_of_methodNamed Bd.named Bd.method).1
  have X0 : Stand p l e oR13 s m #[(.ref a0), (.int 0), (.ref a2), (.int 0), (.int 0)] below meth c s₁ [] 0 0 := Stand.of_body Bd
  have e0 : s₁.heap = h0 := by rw [← hh, Bd.state]; rfl
  have efx : entryFrame m #[(.ref a0), (.int 0), (.ref a2), (.int 0), (.int 0)] 5 = mkF m 0 #[.val (.ref a0), .val (.int 0), .val (.ref a2), .val (.int 0), .val (.int 0)] [] := by first | (simp [entryFrame, mkF, argsToLocals, Value.category]; done) | rfl
  have N0 := Fr.nil n0
  have K0 : Keep h0 h0 [] := Keep.refl h0 _
  refine OGo.start (g' := mkF m 0 #[.val (.ref a0), .val (.int 0), .val (.ref a2), .val (.int 0), .val (.int 0)] []) (efx) ?_
  show OGo p.tables e below (P21 Z a0 a2 kb nn vs fv h0 n0 s) (s₁.setTop (mkF m 0 #[.val (.ref a0), .val (.int 0), .val (.ref a2), .val (.int 0), .val (.int 0)] []))
  refine og (s₁.setTop (mkF m 6 #[.val (.ref a0), .val (.int 0), .val (.ref a2), .val (.int 0), .val (.int 0)] [(.int 0), (.int 0), (.ref a2), (.int 0), (.ref a0)])) ?_ (fun tX kX => XS.aloadN X0.here hx rfl (hb hby d21_0) rfl rfl (XS.iloadN X0.here hx rfl (hb hby d21_1) rfl (XS.aloadN X0.here hx rfl (hb hby d21_2) rfl rfl (XS.iloadN X0.here hx rfl (hb hby d21_3) rfl (XS.iload X0.here hx rfl (hb hby d21_4) rfl kX)))))
  obtain ⟨_, _, ⟨T1, L1, k1, n1⟩, -, X1, ⟨Lc1, hQ1, l1, y1, z1⟩, st1⟩ := Jvm.LawKit.callS X0 hx (y := oM35) hown (mvT hZ (oW hw 115 rfl)) (mvT hZ (oW hw 116 rfl)) (mvT hZ (oW hw 106 rfl)) (mvT hZ (oW hw 117 rfl)) (by decide) (backOf (W := 0) (rm22 l Z aV hw [] a0 a2 kb nn vs fv h0 n0 Z0 V_a2 S_SIOOBE_FORMATTER hfv hb1 hb2) hZ (oW hw 117 rfl) (oW hw 106 rfl) (by decide) (by decide)) (g := (mkF m 6 #[.val (.ref a0), .val (.int 0), .val (.ref a2), .val (.int 0), .val (.int 0)] [(.int 0), (.int 0), (.ref a2), (.int 0), (.ref a0)])) rfl (by rw [hml]; rfl) (argsL := [(.ref a0), (.int 0), (.ref a2), (.int 0), (.int 0)]) (rest := []) (lenOf pd___BI_BII_V rfl) rfl (by show 2 * 0 + _ ≤ _; exact Nat.le_of_eq rfl) (hb hby d21_6) (fun _ _ => ⟨rfl, e0, (by decide : 0 + 0 ≤ _), (by decide : 0 + 0 ≤ _)⟩)
  dsimp only [Pt.U, Pt.locs, Pt.cells, Pt.slots] at X1 l1 y1 z1 st1 hQ1
  subst l1 y1 z1
  obtain ⟨rfl, N1q, e1⟩ := hQ1
  have N1 := Fr.app N0 N1q
  refine og (T1.setTop (mkF m 9 #[.val (.ref a0), .val (.int 0), .val (.ref a2), .val (.int 0), .val (.int 0)] [])) ?_ st1
  refine OGo.ret X1 (v := none) (fun _ => rfl) (BodyLoose.notSynchronized Bd) (fun fs hr => X1.returnOut hx Bd.returns (hb hby d21_9) hr) (Q := Q21 Z a0 a2 kb nn vs fv h0 n0) ?_ (by decide) (by decide)
  show Q21 Z a0 a2 kb nn vs fv h0 n0 _ T1.heap _
  rw [e1]
  exact ⟨rfl, N1, rfl⟩
theorem d31_0 : oD31 0 (.getstatic 44) 3 := by decide +kernel
theorem d31_3 : oD31 3 (.ifCond .ne 25) 3 := by decide +kernel
theorem d31_28 : oD31 28 (.iload_n 1) 1 := by decide +kernel
theorem d31_29 : oD31 29 (.iconst 1) 1 := by decide +kernel
theorem d31_30 : oD31 30 .ishl 1 := by decide +kernel
theorem d31_31 : oD31 31 (.istore_n 1) 1 := by decide +kernel
theorem d31_32 : oD31 32 (.aload_n 0) 1 := by decide +kernel
theorem d31_33 : oD31 33 (.iload_n 1) 1 := by decide +kernel
theorem d31_34 : oD31 34 (.iinc 1 1) 3 := by decide +kernel
theorem d31_37 : oD31 37 (.iload_n 2) 1 := by decide +kernel
theorem d31_38 : oD31 38 (.getstatic 59) 3 := by decide +kernel
theorem d31_41 : oD31 41 .ishr 1 := by decide +kernel
theorem d31_42 : oD31 42 .i2b 1 := by decide +kernel
theorem d31_43 : oD31 43 .bastore 1 := by decide +kernel
theorem d31_44 : oD31 44 (.aload_n 0) 1 := by decide +kernel
theorem d31_45 : oD31 45 (.iload_n 1) 1 := by decide +kernel
theorem d31_46 : oD31 46 (.iload_n 2) 1 := by decide +kernel
theorem d31_47 : oD31 47 (.getstatic 63) 3 := by decide +kernel
theorem d31_50 : oD31 50 .ishr 1 := by decide +kernel
theorem d31_51 : oD31 51 .i2b 1 := by decide +kernel
theorem d31_52 : oD31 52 .bastore 1 := by decide +kernel
theorem d31_53 : oD31 53 .return_ 1 := by decide +kernel
def Q31 (Z : State) (a0 : Addr) (p1 : Int32) (p2 : Int32) (kb : ClassId) (nn : Int32) (vs : List Value) (ix : Nat) (h0 : Heap) (n0 : Nat) (v : Option Value) (h : Heap) (L : List Loc) : Prop := v = none ∧ Fr n0 L ∧ Keep h0 h [a0] ∧ Arv Z h a0 kb .byte nn ((vs.set ix (.int (own_lo p2))).set (ix + 1) (.int (own_hi p2))) (.int 0)
def P31 (Z : State) (a0 : Addr) (p1 : Int32) (p2 : Int32) (kb : ClassId) (nn : Int32) (vs : List Value) (ix : Nat) (h0 : Heap) (n0 : Nat) (s : State) (o : Outcome) (U' : State) : Prop := ∃ v L, o = .returned v ∧ Q31 Z a0 p1 p2 kb nn vs ix h0 n0 v U'.heap L ∧ FrameEnd s o U' L oR0.cells oR0.slots
set_option maxRecDepth 65536 in
set_option maxHeartbeats 40000000 in
theorem rm31 (l : Launch) (Z : State) (aV : Array Value) (hw : ∀ d ∈ tables_1, d.before aV Z = true) (ws : List Jvm.Cond) (a0 : Addr) (p1 : Int32) (p2 : Int32) (kb : ClassId) (nn : Int32) (vs : List Value) (ix : Nat) (h0 : Heap) (n0 : Nat) (Z0 : n0 ≤ h0.size) (V_a0 : Arv Z h0 a0 kb .byte nn vs (.int 0)) (S__assertionsDisabled : Sta Z h0 "java/lang/StringUTF16" "$assertionsDisabled" "Z" (.int 1)) (S_HI_BYTE_SHIFT : Sta Z h0 "java/lang/StringUTF16" "HI_BYTE_SHIFT" "I" (.int 0)) (S_LO_BYTE_SHIFT : Sta Z h0 "java/lang/StringUTF16" "LO_BYTE_SHIFT" "I" (.int 8)) (ga : n0 ≤ a0) (hj0 : ¬ (p1 <<< ((1 : Int32) &&& 31)) < 0 ∧ (p1 <<< ((1 : Int32) &&& 31)) < nn) (hj1 : ¬ ((p1 <<< ((1 : Int32) &&& 31)) + (1 : Int32)) < 0 ∧ ((p1 <<< ((1 : Int32) &&& 31)) + (1 : Int32)) < nn) (hx0 : (p1 <<< ((1 : Int32) &&& 31)).toNatClampNeg = ix) (hx1 : ((p1 <<< ((1 : Int32) &&& 31)) + (1 : Int32)).toNatClampNeg = ix + 1) (hvl : ix + 1 < vs.length) :
    MetFree l oM37 (head1 (Jvm.Cond.code oM37 jdk_52_method_4_code 3 none :: ws) oR0) (fun a U => a = #[(.ref a0), (.int p1), (.int p2)] ∧ Z.Warmed39 U.vm ∧ U.heap = h0) (fun _ _ _ _ _ => True) (fun _ U o U' => ∃ v L, o = .returned v ∧ Q31 Z a0 p1 p2 kb nn vs ix h0 n0 v U'.heap L ∧ FrameEnd U o U' L oR0.cells oR0.slots) := by
  refine MetFree.of_bodySF (plainFor_of_name pn_java_lang_StringUTF16) hisR ?_
  intro p e s m args below meth c s₁ Bd hml0 hP hK
  obtain ⟨rfl, hZ, hh⟩ := hP
  have hx := Bd.exec
  have hby := Bd.bytes
  have hml : c.maxLocals = 3 := hml0
  have hown : s.vm.findClass "java/lang/StringUTF16" = some m.cls := findClass_of_methodNamed Bd.named
  have hnm := (name_of_methodNamed Bd.named Bd.method).1
  have X0 : Stand p l e oR0 s m #[(.ref a0), (.int p1), (.int p2)] below meth c s₁ [] 0 0 := Stand.of_body Bd
  have e0 : s₁.heap = h0 := by rw [← hh, Bd.state]; rfl
  have efx : entryFrame m #[(.ref a0), (.int p1), (.int p2)] 3 = mkF m 0 #[.val (.ref a0), .val (.int p1), .val (.int p2)] [] := by first | (simp [entryFrame, mkF, argsToLocals, Value.category]; done) | rfl
  have N0 := Fr.nil n0
  have K0 : Keep h0 h0 [a0] := Keep.refl h0 _
  refine OGo.start (g' := mkF m 0 #[.val (.ref a0), .val (.int p1), .val (.int p2)] []) (efx) ?_
  show OGo p.tables e below (P31 Z a0 p1 p2 kb nn vs ix h0 n0 s) (s₁.setTop (mkF m 0 #[.val (.ref a0), .val (.int p1), .val (.int p2)] []))
  obtain ⟨T1, X1, e1, st1⟩ := getS2 X0 hx hZ hown (host := "") (Or.inl (oW hw 148 rfl)) Via.refl e0 S__assertionsDisabled (g := (mkF m 0 #[.val (.ref a0), .val (.int p1), .val (.int p2)] [])) rfl (hb hby d31_0)
  refine og (T1.setTop (mkF m 3 #[.val (.ref a0), .val (.int p1), .val (.int p2)] [(.int 1)])) ?_ st1
  refine og (T1.setTop (mkF m 33 #[.val (.ref a0), .val (.int (p1 <<< ((1 : Int32) &&& 31))), .val (.int p2)] [(.ref a0)])) ?_ (fun tX kX => XS.ifYes X1.here hx rfl (pc0 := 3) (pc' := 28) rfl (hb hby d31_3) rfl ((if0 _ _).trans (feq (by decide)).2) (by decide) (by decide) (XS.iloadN X1.here hx rfl (hb hby d31_28) rfl (XS.iconst X1.here hx rfl (hb hby d31_29) (XS.ishl X1.here hx rfl (hb hby d31_30) rfl (XS.istoreN X1.here hx rfl (hb hby d31_31) rfl (l' := #[.val (.ref a0), .val (.int (p1 <<< ((1 : Int32) &&& 31))), .val (.int p2)]) rfl (XS.aloadN X1.here hx rfl (hb hby d31_32) rfl rfl kX))))))
  refine og (T1.setTop (mkF m 38 #[.val (.ref a0), .val (.int ((p1 <<< ((1 : Int32) &&& 31)) + (1 : Int32))), .val (.int p2)] [(.int p2), (.int (p1 <<< ((1 : Int32) &&& 31))), (.ref a0)])) ?_ (fun tX kX => XS.iloadN X1.here hx rfl (hb hby d31_33) rfl (XS.iinc X1.here hx rfl (hb hby d31_34) rfl (l' := #[.val (.ref a0), .val (.int ((p1 <<< ((1 : Int32) &&& 31)) + (1 : Int32))), .val (.int p2)]) rfl (XS.iloadN X1.here hx rfl (hb hby d31_37) rfl kX)))
  obtain ⟨T2, X2, e2, st2⟩ := getS2 X1 hx hZ hown (host := "") (Or.inl (oW hw 149 rfl)) Via.refl e1 S_HI_BYTE_SHIFT (g := (mkF m 38 #[.val (.ref a0), .val (.int ((p1 <<< ((1 : Int32) &&& 31)) + (1 : Int32))), .val (.int p2)] [(.int p2), (.int (p1 <<< ((1 : Int32) &&& 31))), (.ref a0)])) rfl (hb hby d31_38)
  refine og (T2.setTop (mkF m 41 #[.val (.ref a0), .val (.int ((p1 <<< ((1 : Int32) &&& 31)) + (1 : Int32))), .val (.int p2)] [(.int 0), (.int p2), (.int (p1 <<< ((1 : Int32) &&& 31))), (.ref a0)])) ?_ st2
  refine og (T2.setTop (mkF m 43 #[.val (.ref a0), .val (.int ((p1 <<< ((1 : Int32) &&& 31)) + (1 : Int32))), .val (.int p2)] [(.int ((p2 >>> ((0 : Int32) &&& 31)).toInt8.toInt32)), (.int (p1 <<< ((1 : Int32) &&& 31))), (.ref a0)])) ?_ (fun tX kX => XS.ishr X2.here hx rfl (hb hby d31_41) rfl (XS.i2b X2.here hx rfl (hb hby d31_42) rfl kX))
  obtain ⟨cl3, Ar3, qa3, S3, N3', H3, G3⟩ := id V_a0
  have hin3 := inb_of (j := (p1 <<< ((1 : Int32) &&& 31))) S3 hj0
  obtain ⟨T3, h3, X3, e3, W3, st3⟩ := stB X2 hx hZ e2 Ar3 (j := (p1 <<< ((1 : Int32) &&& 31))) hin3 (g := (mkF m 43 #[.val (.ref a0), .val (.int ((p1 <<< ((1 : Int32) &&& 31)) + (1 : Int32))), .val (.int p2)] [(.int ((p2 >>> ((0 : Int32) &&& 31)).toInt8.toInt32)), (.int (p1 <<< ((1 : Int32) &&& 31))), (.ref a0)])) rfl rfl (hb hby d31_43)
  have V_a0_3 := Arv.set Ar3 qa3 S3 N3' H3 G3 (fits_nar_byte _) W3 ix hx0 (Nat.lt_of_succ_lt hvl)
  have S__assertionsDisabled := S__assertionsDisabled.wr W3
  have S_HI_BYTE_SHIFT := S_HI_BYTE_SHIFT.wr W3
  have S_LO_BYTE_SHIFT := S_LO_BYTE_SHIFT.wr W3
  have K3 := K0.wr W3 (Or.inl (List.mem_of_getElem? (i := 0) rfl))
  have zn3 : n0 ≤ h3.size := Nat.le_trans Z0 (Keep.of_wr W3).1
  have N3 := Fr.snoc X3 N0 ga
  have V_a0 : Arv Z h3 a0 kb .byte nn (vs.set ix (.int (own_lo p2))) (.int 0) := V_a0_3
  refine og (T3.setTop (mkF m 44 #[.val (.ref a0), .val (.int ((p1 <<< ((1 : Int32) &&& 31)) + (1 : Int32))), .val (.int p2)] [])) ?_ st3
  refine og (T3.setTop (mkF m 47 #[.val (.ref a0), .val (.int ((p1 <<< ((1 : Int32) &&& 31)) + (1 : Int32))), .val (.int p2)] [(.int p2), (.int ((p1 <<< ((1 : Int32) &&& 31)) + (1 : Int32))), (.ref a0)])) ?_ (fun tX kX => XS.aloadN X3.here hx rfl (hb hby d31_44) rfl rfl (XS.iloadN X3.here hx rfl (hb hby d31_45) rfl (XS.iloadN X3.here hx rfl (hb hby d31_46) rfl kX)))
  obtain ⟨T4, X4, e4, st4⟩ := getS2 X3 hx hZ hown (host := "") (Or.inl (oW hw 150 rfl)) Via.refl e3 S_LO_BYTE_SHIFT (g := (mkF m 47 #[.val (.ref a0), .val (.int ((p1 <<< ((1 : Int32) &&& 31)) + (1 : Int32))), .val (.int p2)] [(.int p2), (.int ((p1 <<< ((1 : Int32) &&& 31)) + (1 : Int32))), (.ref a0)])) rfl (hb hby d31_47)
  refine og (T4.setTop (mkF m 50 #[.val (.ref a0), .val (.int ((p1 <<< ((1 : Int32) &&& 31)) + (1 : Int32))), .val (.int p2)] [(.int 8), (.int p2), (.int ((p1 <<< ((1 : Int32) &&& 31)) + (1 : Int32))), (.ref a0)])) ?_ st4
  refine og (T4.setTop (mkF m 52 #[.val (.ref a0), .val (.int ((p1 <<< ((1 : Int32) &&& 31)) + (1 : Int32))), .val (.int p2)] [(.int ((p2 >>> ((8 : Int32) &&& 31)).toInt8.toInt32)), (.int ((p1 <<< ((1 : Int32) &&& 31)) + (1 : Int32))), (.ref a0)])) ?_ (fun tX kX => XS.ishr X4.here hx rfl (hb hby d31_50) rfl (XS.i2b X4.here hx rfl (hb hby d31_51) rfl kX))
  obtain ⟨cl5, Ar5, qa5, S5, N5', H5, G5⟩ := id V_a0
  have hin5 := inb_of (j := ((p1 <<< ((1 : Int32) &&& 31)) + (1 : Int32))) S5 hj1
  obtain ⟨T5, h5, X5, e5, W5, st5⟩ := stB X4 hx hZ e4 Ar5 (j := ((p1 <<< ((1 : Int32) &&& 31)) + (1 : Int32))) hin5 (g := (mkF m 52 #[.val (.ref a0), .val (.int ((p1 <<< ((1 : Int32) &&& 31)) + (1 : Int32))), .val (.int p2)] [(.int ((p2 >>> ((8 : Int32) &&& 31)).toInt8.toInt32)), (.int ((p1 <<< ((1 : Int32) &&& 31)) + (1 : Int32))), (.ref a0)])) rfl rfl (hb hby d31_52)
  have V_a0_5 := Arv.set Ar5 qa5 S5 N5' H5 G5 (fits_nar_byte _) W5 (ix + 1) hx1 (by rw [List.length_set]; exact hvl)
  have S__assertionsDisabled := S__assertionsDisabled.wr W5
  have S_HI_BYTE_SHIFT := S_HI_BYTE_SHIFT.wr W5
  have S_LO_BYTE_SHIFT := S_LO_BYTE_SHIFT.wr W5
  have K5 := K3.wr W5 (Or.inl (List.mem_of_getElem? (i := 0) rfl))
  have zn5 : n0 ≤ h5.size := Nat.le_trans zn3 (Keep.of_wr W5).1
  have N5 := Fr.snoc X5 N3 ga
  have V_a0 : Arv Z h5 a0 kb .byte nn ((vs.set ix (.int (own_lo p2))).set (ix + 1) (.int (own_hi p2))) (.int 0) := V_a0_5
  refine og (T5.setTop (mkF m 53 #[.val (.ref a0), .val (.int ((p1 <<< ((1 : Int32) &&& 31)) + (1 : Int32))), .val (.int p2)] [])) ?_ st5
  refine OGo.ret X5 (v := none) (fun _ => rfl) (BodyLoose.notSynchronized Bd) (fun fs hr => X5.returnOut hx Bd.returns (hb hby d31_53) hr) (Q := Q31 Z a0 p1 p2 kb nn vs ix h0 n0) ?_ (by decide) (by decide)
  show Q31 Z a0 p1 p2 kb nn vs ix h0 n0 _ T5.heap _
  rw [e5]
  exact ⟨rfl, N5, K5, V_a0⟩
theorem d27_0 : oD27 0 (.iload_n 1) 1 := by decide +kernel
theorem d27_1 : oD27 1 (.iload_n 2) 1 := by decide +kernel
theorem d27_2 : oD27 2 (.if_icmp .ge 619) 3 := by decide +kernel
theorem d27_5 : oD27 5 (.aload_n 0) 1 := by decide +kernel
theorem d27_6 : oD27 6 (.iload_n 1) 1 := by decide +kernel
theorem d27_7 : oD27 7 (.iinc 1 1) 3 := by decide +kernel
theorem d27_10 : oD27 10 .baload 1 := by decide +kernel
theorem d27_11 : oD27 11 (.istore 6) 2 := by decide +kernel
theorem d27_13 : oD27 13 (.iload 6) 2 := by decide +kernel
theorem d27_15 : oD27 15 (.ifCond .lt 18) 3 := by decide +kernel
theorem d27_18 : oD27 18 (.aload_n 3) 1 := by decide +kernel
theorem d27_19 : oD27 19 (.iload 4) 2 := by decide +kernel
theorem d27_21 : oD27 21 (.iinc 4 1) 3 := by decide +kernel
theorem d27_24 : oD27 24 (.iload 6) 2 := by decide +kernel
theorem d27_26 : oD27 26 .i2c 1 := by decide +kernel
theorem d27_27 : oD27 27 (.invokestatic 64) 3 := by decide +kernel
theorem pd___BII_V : parseMethodDescriptor "([BII)V" = some ⟨[(.array .byte), .int, .int], none⟩ := by decide +kernel
theorem d27_30 : oD27 30 (.goto 588) 3 := by decide +kernel
theorem d27_618 : oD27 618 (.goto (-618)) 3 := by decide +kernel
theorem d27_621 : oD27 621 (.iload 4) 2 := by decide +kernel
theorem d27_623 : oD27 623 .ireturn 1 := by decide +kernel
theorem d27_143 : oD27 143 (.iload 6) 2 := by decide +kernel
theorem d27_145 : oD27 145 (.iconst 4) 1 := by decide +kernel
theorem d27_146 : oD27 146 .ishr 1 := by decide +kernel
theorem d27_147 : oD27 147 (.bipush (-2)) 2 := by decide +kernel
theorem d27_149 : oD27 149 (.if_icmp .ne 200) 3 := by decide +kernel
theorem d27_152 : oD27 152 (.iload_n 1) 1 := by decide +kernel
theorem d27_153 : oD27 153 (.iconst 1) 1 := by decide +kernel
theorem d27_154 : oD27 154 .iadd 1 := by decide +kernel
theorem d27_155 : oD27 155 (.iload_n 2) 1 := by decide +kernel
theorem d27_156 : oD27 156 (.if_icmp .ge 127) 3 := by decide +kernel
theorem d27_283 : oD27 283 (.iload_n 1) 1 := by decide +kernel
theorem d27_284 : oD27 284 (.iload_n 2) 1 := by decide +kernel
theorem d27_285 : oD27 285 (.if_icmp .ge 40) 3 := by decide +kernel
theorem d27_288 : oD27 288 (.iload 6) 2 := by decide +kernel
theorem d27_290 : oD27 290 (.aload_n 0) 1 := by decide +kernel
theorem d27_291 : oD27 291 (.iload_n 1) 1 := by decide +kernel
theorem d27_292 : oD27 292 .baload 1 := by decide +kernel
theorem d27_293 : oD27 293 (.invokestatic 407) 3 := by decide +kernel
theorem pd__II_Z : parseMethodDescriptor "(II)Z" = some ⟨[.int, .int], some .boolean⟩ := by decide +kernel
theorem d27_296 : oD27 296 (.ifCond .eq 29) 3 := by decide +kernel
theorem d27_299 : oD27 299 (.iload 5) 2 := by decide +kernel
theorem d27_301 : oD27 301 (.ifCond .ne 10) 3 := by decide +kernel
theorem d27_311 : oD27 311 (.aload_n 3) 1 := by decide +kernel
theorem d27_312 : oD27 312 (.iload 4) 2 := by decide +kernel
theorem d27_314 : oD27 314 (.iinc 4 1) 3 := by decide +kernel
theorem d27_317 : oD27 317 (.ldc 132) 2 := by decide +kernel
theorem d27_319 : oD27 319 (.invokestatic 64) 3 := by decide +kernel
theorem d27_322 : oD27 322 (.goto (-322)) 3 := by decide +kernel
theorem d27_349 : oD27 349 (.iload 6) 2 := by decide +kernel
theorem d27_351 : oD27 351 (.iconst 3) 1 := by decide +kernel
theorem d27_352 : oD27 352 .ishr 1 := by decide +kernel
theorem d27_353 : oD27 353 (.bipush (-2)) 2 := by decide +kernel
theorem d27_355 : oD27 355 (.if_icmp .ne 240) 3 := by decide +kernel
theorem d27_358 : oD27 358 (.iload_n 1) 1 := by decide +kernel
theorem d27_359 : oD27 359 (.iconst 2) 1 := by decide +kernel
theorem d27_360 : oD27 360 .iadd 1 := by decide +kernel
theorem d27_361 : oD27 361 (.iload_n 2) 1 := by decide +kernel
theorem d27_362 : oD27 362 (.if_icmp .ge 128) 3 := by decide +kernel
theorem d27_490 : oD27 490 (.iload 6) 2 := by decide +kernel
theorem d27_492 : oD27 492 (.sipush 255) 3 := by decide +kernel
theorem d27_495 : oD27 495 .iand 1 := by decide +kernel
theorem d27_496 : oD27 496 (.istore 6) 2 := by decide +kernel
theorem d27_498 : oD27 498 (.iload 6) 2 := by decide +kernel
theorem d27_500 : oD27 500 (.sipush 244) 3 := by decide +kernel
theorem d27_503 : oD27 503 (.if_icmp .gt 23) 3 := by decide +kernel
theorem d27_526 : oD27 526 (.iload 5) 2 := by decide +kernel
theorem d27_528 : oD27 528 (.ifCond .ne 10) 3 := by decide +kernel
theorem d27_538 : oD27 538 (.aload_n 3) 1 := by decide +kernel
theorem d27_539 : oD27 539 (.iload 4) 2 := by decide +kernel
theorem d27_541 : oD27 541 (.iinc 4 1) 3 := by decide +kernel
theorem d27_544 : oD27 544 (.ldc 132) 2 := by decide +kernel
theorem d27_546 : oD27 546 (.invokestatic 64) 3 := by decide +kernel
theorem d27_549 : oD27 549 (.goto (-549)) 3 := by decide +kernel
theorem d27_506 : oD27 506 (.iload_n 1) 1 := by decide +kernel
theorem d27_507 : oD27 507 (.iload_n 2) 1 := by decide +kernel
theorem d27_508 : oD27 508 (.if_icmp .ge 44) 3 := by decide +kernel
theorem d27_511 : oD27 511 (.iload 6) 2 := by decide +kernel
theorem d27_513 : oD27 513 (.aload_n 0) 1 := by decide +kernel
theorem d27_514 : oD27 514 (.iload_n 1) 1 := by decide +kernel
theorem d27_515 : oD27 515 .baload 1 := by decide +kernel
theorem d27_516 : oD27 516 (.sipush 255) 3 := by decide +kernel
theorem d27_519 : oD27 519 .iand 1 := by decide +kernel
theorem d27_520 : oD27 520 (.invokestatic 431) 3 := by decide +kernel
theorem d27_523 : oD27 523 (.ifCond .eq 29) 3 := by decide +kernel
theorem d27_595 : oD27 595 (.iload 5) 2 := by decide +kernel
theorem d27_597 : oD27 597 (.ifCond .ne 10) 3 := by decide +kernel
theorem d27_607 : oD27 607 (.aload_n 3) 1 := by decide +kernel
theorem d27_608 : oD27 608 (.iload 4) 2 := by decide +kernel
theorem d27_610 : oD27 610 (.iinc 4 1) 3 := by decide +kernel
theorem d27_613 : oD27 613 (.ldc 132) 2 := by decide +kernel
theorem d27_615 : oD27 615 (.invokestatic 64) 3 := by decide +kernel
theorem d27_33 : oD27 33 (.iload 6) 2 := by decide +kernel
theorem d27_35 : oD27 35 (.iconst 5) 1 := by decide +kernel
theorem d27_36 : oD27 36 .ishr 1 := by decide +kernel
theorem d27_37 : oD27 37 (.bipush (-2)) 2 := by decide +kernel
theorem d27_39 : oD27 39 (.if_icmp .ne 104) 3 := by decide +kernel
theorem d27_42 : oD27 42 (.iload 6) 2 := by decide +kernel
theorem d27_44 : oD27 44 (.bipush 30) 2 := by decide +kernel
theorem d27_46 : oD27 46 .iand 1 := by decide +kernel
theorem d27_47 : oD27 47 (.ifCond .eq 96) 3 := by decide +kernel
theorem d27_50 : oD27 50 (.iload_n 1) 1 := by decide +kernel
theorem d27_51 : oD27 51 (.iload_n 2) 1 := by decide +kernel
theorem d27_52 : oD27 52 (.if_icmp .ge 67) 3 := by decide +kernel
theorem d27_55 : oD27 55 (.aload_n 0) 1 := by decide +kernel
theorem d27_56 : oD27 56 (.iload_n 1) 1 := by decide +kernel
theorem d27_57 : oD27 57 (.iinc 1 1) 3 := by decide +kernel
theorem d27_60 : oD27 60 .baload 1 := by decide +kernel
theorem d27_61 : oD27 61 (.istore 7) 2 := by decide +kernel
theorem d27_63 : oD27 63 (.iload 7) 2 := by decide +kernel
theorem d27_65 : oD27 65 (.invokestatic 385) 3 := by decide +kernel
theorem pd__I_Z : parseMethodDescriptor "(I)Z" = some ⟨[.int], some .boolean⟩ := by decide +kernel
theorem d27_68 : oD27 68 (.ifCond .eq 32) 3 := by decide +kernel
theorem d27_71 : oD27 71 (.iload 5) 2 := by decide +kernel
theorem d27_73 : oD27 73 (.ifCond .ne 10) 3 := by decide +kernel
theorem d27_83 : oD27 83 (.aload_n 3) 1 := by decide +kernel
theorem d27_84 : oD27 84 (.iload 4) 2 := by decide +kernel
theorem d27_86 : oD27 86 (.iinc 4 1) 3 := by decide +kernel
theorem d27_89 : oD27 89 (.ldc 132) 2 := by decide +kernel
theorem d27_91 : oD27 91 (.invokestatic 64) 3 := by decide +kernel
theorem d27_94 : oD27 94 (.iinc 1 (-1)) 3 := by decide +kernel
theorem d27_97 : oD27 97 (.goto (-97)) 3 := by decide +kernel
def Q27r (Z : State) (a0 : Addr) (a3 : Addr) (kb : ClassId) (kd : ClassId) (xa : Int32) (tv : Int32) (h0 : Heap) (n0 : Nat) (v : Option Value) (h : Heap) (L : List Loc) : Prop := v = some (.int 2) ∧ Fr n0 L ∧ Keep h0 h [a3] ∧ Arv Z h a3 kd .byte (4 : Int32) [(.int (own_lo (65533 : Int32))), (.int (own_hi (65533 : Int32))), (.int (own_lo tv)), (.int (own_hi tv))] (.int 0)
def P27r (Z : State) (a0 : Addr) (a3 : Addr) (kb : ClassId) (kd : ClassId) (xa : Int32) (tv : Int32) (h0 : Heap) (n0 : Nat) (s : State) (o : Outcome) (U' : State) : Prop := ∃ v L, o = .returned v ∧ Q27r Z a0 a3 kb kd xa tv h0 n0 v U'.heap L ∧ FrameEnd s o U' L oR2.cells oR2.slots
set_option maxRecDepth 65536 in
set_option maxHeartbeats 40000000 in
theorem rm27r (l : Launch) (Z : State) (aV : Array Value) (hw : ∀ d ∈ tables_1, d.before aV Z = true) (ws : List Jvm.Cond) (a0 : Addr) (a3 : Addr) (kb : ClassId) (kd : ClassId) (xa : Int32) (tv : Int32) (h0 : Heap) (n0 : Nat) (Z0 : n0 ≤ h0.size) (V_a0 : Arv Z h0 a0 kb .byte (2 : Int32) [(.int xa), (.int tv)] (.int 0)) (V_a3 : Arv Z h0 a3 kd .byte (4 : Int32) [(.int 0), (.int 0), (.int 0), (.int 0)] (.int 0)) (S__assertionsDisabled : Sta Z h0 "java/lang/StringUTF16" "$assertionsDisabled" "Z" (.int 1)) (S_HI_BYTE_SHIFT : Sta Z h0 "java/lang/StringUTF16" "HI_BYTE_SHIFT" "I" (.int 0)) (S_LO_BYTE_SHIFT : Sta Z h0 "java/lang/StringUTF16" "LO_BYTE_SHIFT" "I" (.int 8)) (ga : n0 ≤ a3) (nab : a0 ≠ a3) (hH : xa < 0) (hT : own_HT tv) :
    MetFree l oM38 (head1 (Jvm.Cond.code oM38 jdk_42_method_38_code 11 (some .int) :: ws) oR2) (fun a U => a = #[(.ref a0), (.int 0), (.int 2), (.ref a3), (.int 0), (.int 1)] ∧ Z.Warmed39 U.vm ∧ U.heap = h0) (fun _ _ _ _ _ => True) (fun _ U o U' => ∃ v L, o = .returned v ∧ Q27r Z a0 a3 kb kd xa tv h0 n0 v U'.heap L ∧ FrameEnd U o U' L oR2.cells oR2.slots) := by
  refine MetFree.of_bodySF (plainFor_of_name pn_java_lang_String) hisR ?_
  intro p e s m args below meth c s₁ Bd hml0 hP hK
  obtain ⟨rfl, hZ, hh⟩ := hP
  have hx := Bd.exec
  have hby := Bd.bytes
  have hml : c.maxLocals = 11 := hml0
  have hown : s.vm.findClass "java/lang/String" = some m.cls := findClass_of_methodNamed Bd.named
  have hnm := (name_of_methodNamed Bd.named Bd.method).1
  have X0 : Stand p l e oR2 s m #[(.ref a0), (.int 0), (.int 2), (.ref a3), (.int 0), (.int 1)] below meth c s₁ [] 0 0 := Stand.of_body Bd
  have e0 : s₁.heap = h0 := by rw [← hh, Bd.state]; rfl
  have efx : entryFrame m #[(.ref a0), (.int 0), (.int 2), (.ref a3), (.int 0), (.int 1)] 11 = mkF m 0 #[.val (.ref a0), .val (.int 0), .val (.int 2), .val (.ref a3), .val (.int 0), .val (.int 1), .unset, .unset, .unset, .unset, .unset] [] := by first | (simp [entryFrame, mkF, argsToLocals, Value.category]; done) | rfl
  have N0 := Fr.nil n0
  have K0 : Keep h0 h0 [a3] := Keep.refl h0 _
  refine OGo.start (g' := mkF m 0 #[.val (.ref a0), .val (.int 0), .val (.int 2), .val (.ref a3), .val (.int 0), .val (.int 1), .unset, .unset, .unset, .unset, .unset] []) (efx) ?_
  show OGo p.tables e below (P27r Z a0 a3 kb kd xa tv h0 n0 s) (s₁.setTop (mkF m 0 #[.val (.ref a0), .val (.int 0), .val (.int 2), .val (.ref a3), .val (.int 0), .val (.int 1), .unset, .unset, .unset, .unset, .unset] []))
  have J0 : ∀ (TJ0 : State) (LJ0 : List Loc) (hJ0 : Heap) (lx : Int32) (ly : Slot), (Stand p l e oR2 s m #[(.ref a0), (.int 0), (.int 2), (.ref a3), (.int 0), (.int 1)] below meth c TJ0 LJ0 0 0) → (TJ0.heap = hJ0) → (Fr n0 LJ0) → (n0 ≤ hJ0.size) → (Keep h0 hJ0 [a3]) → (Arv Z hJ0 a0 kb .byte (2 : Int32) [(.int xa), (.int tv)] (.int 0)) → (Arv Z hJ0 a3 kd .byte (4 : Int32) [(.int (own_lo (65533 : Int32))), (.int (own_hi (65533 : Int32))), (.int 0), (.int 0)] (.int 0)) → (Sta Z hJ0 "java/lang/StringUTF16" "$assertionsDisabled" "Z" (.int 1)) → (Sta Z hJ0 "java/lang/StringUTF16" "HI_BYTE_SHIFT" "I" (.int 0)) → (Sta Z hJ0 "java/lang/StringUTF16" "LO_BYTE_SHIFT" "I" (.int 8)) → OGo p.tables e below (P27r Z a0 a3 kb kd xa tv h0 n0 s) (TJ0.setTop (mkF m 0 #[.val (.ref a0), .val (.int 1), .val (.int 2), .val (.ref a3), .val (.int 1), .val (.int 1), .val (.int lx), ly, .unset, .unset, .unset] [])) := by
    intro TJ0 LJ0 hJ0 lx ly XJ0 eJ0 NJ0 znJ0 KJ0 V_a0 V_a3 S__assertionsDisabled S_HI_BYTE_SHIFT S_LO_BYTE_SHIFT
    refine og (TJ0.setTop (mkF m 10 #[.val (.ref a0), .val (.int 2), .val (.int 2), .val (.ref a3), .val (.int 1), .val (.int 1), .val (.int lx), ly, .unset, .unset, .unset] [(.int 1), (.ref a0)])) ?_ (fun tX kX => XS.iloadN XJ0.here hx rfl (hb hby d27_0) rfl (XS.iloadN XJ0.here hx rfl (hb hby d27_1) rfl (XS.icmpNo XJ0.here hx rfl (hb hby d27_2) rfl (tlt (by decide)).2.1 (XS.aloadN XJ0.here hx rfl (hb hby d27_5) rfl rfl (XS.iloadN XJ0.here hx rfl (hb hby d27_6) rfl (XS.iinc XJ0.here hx rfl (hb hby d27_7) rfl (l' := #[.val (.ref a0), .val (.int 2), .val (.int 2), .val (.ref a3), .val (.int 1), .val (.int 1), .val (.int lx), ly, .unset, .unset, .unset]) rfl kX))))))
    obtain ⟨cl1, Ar1, qa1, S1, N1', H1, G1⟩ := id V_a0
    have hin1 := inb_of (j := (1 : Int32)) S1 ⟨by decide, by decide⟩
    have hat1 := H1.at (v := (.int tv)) hin1 rfl
    refine og (TJ0.setTop (mkF m 21 #[.val (.ref a0), .val (.int 2), .val (.int 2), .val (.ref a3), .val (.int 1), .val (.int 1), .val (.int tv), ly, .unset, .unset, .unset] [(.int 1), (.ref a3)])) ?_ (fun tX kX => XJ0.baloadBytes hx (j := (1 : Int32)) (v := (.int tv)) (by rw [eJ0]; exact Ar1.1) (State.isArrayOf_alike hZ.alike Ar1.2.1) Ar1.2.2 hin1 hat1 (g := (mkF m 10 #[.val (.ref a0), .val (.int 2), .val (.int 2), .val (.ref a3), .val (.int 1), .val (.int 1), .val (.int lx), ly, .unset, .unset, .unset] [(.int 1), (.ref a0)])) rfl rfl (hb hby d27_10) _ (XS.istore XJ0.here hx rfl (hb hby d27_11) rfl (l' := #[.val (.ref a0), .val (.int 2), .val (.int 2), .val (.ref a3), .val (.int 1), .val (.int 1), .val (.int tv), ly, .unset, .unset, .unset]) rfl (XS.iload XJ0.here hx rfl (hb hby d27_13) rfl (XS.ifNo XJ0.here hx rfl (hb hby d27_15) rfl ((if0 _ _).trans (flt hT.1).1) (XS.aloadN XJ0.here hx rfl (hb hby d27_18) rfl rfl (XS.iload XJ0.here hx rfl (hb hby d27_19) rfl kX))))))
    refine og (TJ0.setTop (mkF m 27 #[.val (.ref a0), .val (.int 2), .val (.int 2), .val (.ref a3), .val (.int 2), .val (.int 1), .val (.int tv), ly, .unset, .unset, .unset] [(.int (tv.toUInt32.toUInt16.toUInt32.toInt32)), (.int 1), (.ref a3)])) ?_ (fun tX kX => XS.iinc XJ0.here hx rfl (hb hby d27_21) rfl (l' := #[.val (.ref a0), .val (.int 2), .val (.int 2), .val (.ref a3), .val (.int 2), .val (.int 1), .val (.int tv), ly, .unset, .unset, .unset]) rfl (XS.iload XJ0.here hx rfl (hb hby d27_24) rfl (XS.i2c XJ0.here hx rfl (hb hby d27_26) rfl kX)))
    rw [hT.2.1]
    obtain ⟨_, _, ⟨T2, L2, k2, n2⟩, -, X2, ⟨Lc2, hQ2, l2, y2, z2⟩, st2⟩ := Jvm.LawKit.callS XJ0 hx (y := oM37) hown (mvT hZ (oW hw 145 rfl)) (mvT hZ (oW hw 146 rfl)) (mvT hZ (oW hw 106 rfl)) (mvT hZ (oW hw 147 rfl)) (by decide) (backOf (W := 0) (rm31 l Z aV hw [] a3 (1 : Int32) tv kd (4 : Int32) [(.int (own_lo (65533 : Int32))), (.int (own_hi (65533 : Int32))), (.int 0), (.int 0)] 2 hJ0 n0 znJ0 V_a3 S__assertionsDisabled S_HI_BYTE_SHIFT S_LO_BYTE_SHIFT ga ⟨by decide, by decide⟩ ⟨by decide, by decide⟩ (by decide) (by decide) (Nat.le_of_ble_eq_true rfl)) hZ (oW hw 147 rfl) (oW hw 106 rfl) (by decide) (by decide)) (g := (mkF m 27 #[.val (.ref a0), .val (.int 2), .val (.int 2), .val (.ref a3), .val (.int 2), .val (.int 1), .val (.int tv), ly, .unset, .unset, .unset] [(.int tv), (.int 1), (.ref a3)])) rfl (by rw [hml]; rfl) (argsL := [(.ref a3), (.int 1), (.int tv)]) (rest := []) (lenOf pd___BII_V rfl) rfl (by show 2 * 0 + _ ≤ _; exact Nat.le_of_eq rfl) (hb hby d27_27) (fun _ _ => ⟨rfl, eJ0, (by decide : 0 + 0 ≤ _), (by decide : 0 + 0 ≤ _)⟩)
    dsimp only [Pt.U, Pt.locs, Pt.cells, Pt.slots] at X2 l2 y2 z2 st2 hQ2
    subst l2 y2 z2
    obtain ⟨rfl, N2q, Kq2, V_a3_p⟩ := hQ2
    have N2 := Fr.app NJ0 N2q
    have S__assertionsDisabled := Sta.keepE S__assertionsDisabled Kq2 (staS (own_acell V_a3) (fun x hx' => nomatch hx'))
    have S_HI_BYTE_SHIFT := Sta.keepE S_HI_BYTE_SHIFT Kq2 (staS (own_acell V_a3) (fun x hx' => nomatch hx'))
    have S_LO_BYTE_SHIFT := Sta.keepE S_LO_BYTE_SHIFT Kq2 (staS (own_acell V_a3) (fun x hx' => nomatch hx'))
    have V_a0 := V_a0.keep Kq2 (ninS nab nin0)
    have K2 := KJ0.trans Kq2 (allS (P := fun x => x ∈ [a3] ∨ h0.size ≤ x) (Or.inl (List.mem_of_getElem? (i := 0) rfl)) all0)
    have zn2 : n0 ≤ T2.heap.size := Nat.le_trans znJ0 Kq2.1
    have V_a3 := V_a3_p
    refine og (T2.setTop (mkF m 30 #[.val (.ref a0), .val (.int 2), .val (.int 2), .val (.ref a3), .val (.int 2), .val (.int 1), .val (.int tv), ly, .unset, .unset, .unset] [])) ?_ st2
    have V_a3 : Arv Z T2.heap a3 kd .byte (4 : Int32) [(.int (own_lo (65533 : Int32))), (.int (own_hi (65533 : Int32))), (.int (own_lo tv)), (.int (own_hi tv))] (.int 0) := V_a3
    refine og (T2.setTop (mkF m 623 #[.val (.ref a0), .val (.int 2), .val (.int 2), .val (.ref a3), .val (.int 2), .val (.int 1), .val (.int tv), ly, .unset, .unset, .unset] [(.int 2)])) ?_ (fun tX kX => XS.goto X2.here hx rfl (pc0 := 30) (pc' := 618) rfl (hb hby d27_30) (by decide) (by decide) (XS.goto X2.here hx rfl (pc0 := 618) (pc' := 0) rfl (hb hby d27_618) (by decide) (by decide) (XS.iloadN X2.here hx rfl (hb hby d27_0) rfl (XS.iloadN X2.here hx rfl (hb hby d27_1) rfl (XS.icmpYes X2.here hx rfl (pc0 := 2) (pc' := 621) rfl (hb hby d27_2) rfl (flt (by decide)).2.1 (by decide) (by decide) (XS.iload X2.here hx rfl (hb hby d27_621) rfl kX))))))
    refine OGo.ret X2 (v := (some (.int 2))) (fun h => by rw [Bd.returns] at h; cases h) (BodyLoose.notSynchronized Bd) (fun fs hr => retOut X2 hx Bd.returns rfl (Or.inl ⟨rfl, Or.inl rfl, _, rfl⟩) (hb hby d27_623) hr) (Q := Q27r Z a0 a3 kb kd xa tv h0 n0) ?_ (by decide) (by decide)
    show Q27r Z a0 a3 kb kd xa tv h0 n0 _ T2.heap _
    exact ⟨rfl, N2, K2, V_a3⟩
  have J143 : ∀ (TJ143 : State) (LJ143 : List Loc) (hJ143 : Heap), (Stand p l e oR2 s m #[(.ref a0), (.int 0), (.int 2), (.ref a3), (.int 0), (.int 1)] below meth c TJ143 LJ143 0 0) → (TJ143.heap = hJ143) → (Fr n0 LJ143) → (n0 ≤ hJ143.size) → (Keep h0 hJ143 [a3]) → (Arv Z hJ143 a0 kb .byte (2 : Int32) [(.int xa), (.int tv)] (.int 0)) → (Arv Z hJ143 a3 kd .byte (4 : Int32) [(.int 0), (.int 0), (.int 0), (.int 0)] (.int 0)) → (Sta Z hJ143 "java/lang/StringUTF16" "$assertionsDisabled" "Z" (.int 1)) → (Sta Z hJ143 "java/lang/StringUTF16" "HI_BYTE_SHIFT" "I" (.int 0)) → (Sta Z hJ143 "java/lang/StringUTF16" "LO_BYTE_SHIFT" "I" (.int 8)) → OGo p.tables e below (P27r Z a0 a3 kb kd xa tv h0 n0 s) (TJ143.setTop (mkF m 143 #[.val (.ref a0), .val (.int 1), .val (.int 2), .val (.ref a3), .val (.int 0), .val (.int 1), .val (.int xa), .unset, .unset, .unset, .unset] [])) := by
    intro TJ143 LJ143 hJ143 XJ143 eJ143 NJ143 znJ143 KJ143 V_a0 V_a3 S__assertionsDisabled S_HI_BYTE_SHIFT S_LO_BYTE_SHIFT
    refine og (TJ143.setTop (mkF m 149 #[.val (.ref a0), .val (.int 1), .val (.int 2), .val (.ref a3), .val (.int 0), .val (.int 1), .val (.int xa), .unset, .unset, .unset, .unset] [(.int (-2)), (.int (xa >>> ((4 : Int32) &&& 31)))])) ?_ (fun tX kX => XS.iload XJ143.here hx rfl (hb hby d27_143) rfl (XS.iconst XJ143.here hx rfl (hb hby d27_145) (XS.ishr XJ143.here hx rfl (hb hby d27_146) rfl (XS.bipush XJ143.here hx rfl (hb hby d27_147) kX))))
    by_cases hc149 : (xa >>> ((4 : Int32) &&& 31)) = (-2 : Int32)
    ·
      refine og (TJ143.setTop (mkF m 283 #[.val (.ref a0), .val (.int 1), .val (.int 2), .val (.ref a3), .val (.int 0), .val (.int 1), .val (.int xa), .unset, .unset, .unset, .unset] [])) ?_ (fun tX kX => XS.icmpNo XJ143.here hx rfl (hb hby d27_149) rfl (teq hc149).2 (XS.iloadN XJ143.here hx rfl (hb hby d27_152) rfl (XS.iconst XJ143.here hx rfl (hb hby d27_153) (XS.iadd XJ143.here hx rfl (hb hby d27_154) rfl (XS.iloadN XJ143.here hx rfl (hb hby d27_155) rfl (XS.icmpYes XJ143.here hx rfl (pc0 := 156) (pc' := 283) rfl (hb hby d27_156) rfl (flt (by decide)).2.1 (by decide) (by decide) kX))))))
      refine og (TJ143.setTop (mkF m 292 #[.val (.ref a0), .val (.int 1), .val (.int 2), .val (.ref a3), .val (.int 0), .val (.int 1), .val (.int xa), .unset, .unset, .unset, .unset] [(.int 1), (.ref a0), (.int xa)])) ?_ (fun tX kX => XS.iloadN XJ143.here hx rfl (hb hby d27_283) rfl (XS.iloadN XJ143.here hx rfl (hb hby d27_284) rfl (XS.icmpNo XJ143.here hx rfl (hb hby d27_285) rfl (tlt (by decide)).2.1 (XS.iload XJ143.here hx rfl (hb hby d27_288) rfl (XS.aloadN XJ143.here hx rfl (hb hby d27_290) rfl rfl (XS.iloadN XJ143.here hx rfl (hb hby d27_291) rfl kX))))))
      obtain ⟨cl3, Ar3, qa3, S3, N3', H3, G3⟩ := id V_a0
      have hin3 := inb_of (j := (1 : Int32)) S3 ⟨by decide, by decide⟩
      have hat3 := H3.at (v := (.int tv)) hin3 rfl
      refine og (TJ143.setTop (mkF m 293 #[.val (.ref a0), .val (.int 1), .val (.int 2), .val (.ref a3), .val (.int 0), .val (.int 1), .val (.int xa), .unset, .unset, .unset, .unset] [(.int tv), (.int xa)])) ?_ (fun tX kX => XJ143.baloadBytes hx (j := (1 : Int32)) (v := (.int tv)) (by rw [eJ143]; exact Ar3.1) (State.isArrayOf_alike hZ.alike Ar3.2.1) Ar3.2.2 hin3 hat3 (g := (mkF m 292 #[.val (.ref a0), .val (.int 1), .val (.int 2), .val (.ref a3), .val (.int 0), .val (.int 1), .val (.int xa), .unset, .unset, .unset, .unset] [(.int 1), (.ref a0), (.int xa)])) rfl rfl (hb hby d27_292) _ kX)
      obtain ⟨_, _, ⟨T4, L4, k4, n4⟩, -, X4, ⟨Lc4, hQ4, l4, y4, z4⟩, st4⟩ := Jvm.LawKit.callS XJ143 hx (y := oM7) hown (mvT hZ (oW hw 170 rfl)) (mvT hZ (oW hw 171 rfl)) (mvT hZ (oW hw 9 rfl)) (mvT hZ (oW hw 172 rfl)) (by decide) (backOf (W := 0) (rm36 l Z aV hw [] xa tv hJ143 n0 znJ143 hT.2.2.1) hZ (oW hw 172 rfl) (oW hw 9 rfl) (by decide) (by decide)) (g := (mkF m 293 #[.val (.ref a0), .val (.int 1), .val (.int 2), .val (.ref a3), .val (.int 0), .val (.int 1), .val (.int xa), .unset, .unset, .unset, .unset] [(.int tv), (.int xa)])) rfl (by rw [hml]; rfl) (argsL := [(.int xa), (.int tv)]) (rest := []) (lenOf pd__II_Z rfl) rfl (by show 2 * 0 + _ ≤ _; exact Nat.le_of_eq rfl) (hb hby d27_293) (fun _ _ => ⟨rfl, eJ143, (by decide : 0 + 0 ≤ _), (by decide : 0 + 0 ≤ _)⟩)
      dsimp only [Pt.U, Pt.locs, Pt.cells, Pt.slots] at X4 l4 y4 z4 st4 hQ4
      subst l4 y4 z4
      obtain ⟨rfl, N4q, e4⟩ := hQ4
      have N4 := Fr.app NJ143 N4q
      refine og (T4.setTop (mkF m 296 #[.val (.ref a0), .val (.int 1), .val (.int 2), .val (.ref a3), .val (.int 0), .val (.int 1), .val (.int xa), .unset, .unset, .unset, .unset] [(.int 1)])) ?_ st4
      refine og (T4.setTop (mkF m 317 #[.val (.ref a0), .val (.int 1), .val (.int 2), .val (.ref a3), .val (.int 1), .val (.int 1), .val (.int xa), .unset, .unset, .unset, .unset] [(.int 0), (.ref a3)])) ?_ (fun tX kX => XS.ifNo X4.here hx rfl (hb hby d27_296) rfl ((if0 _ _).trans (feq (by decide)).1) (XS.iload X4.here hx rfl (hb hby d27_299) rfl (XS.ifYes X4.here hx rfl (pc0 := 301) (pc' := 311) rfl (hb hby d27_301) rfl ((if0 _ _).trans (feq (by decide)).2) (by decide) (by decide) (XS.aloadN X4.here hx rfl (hb hby d27_311) rfl rfl (XS.iload X4.here hx rfl (hb hby d27_312) rfl (XS.iinc X4.here hx rfl (hb hby d27_314) rfl (l' := #[.val (.ref a0), .val (.int 1), .val (.int 2), .val (.ref a3), .val (.int 1), .val (.int 1), .val (.int xa), .unset, .unset, .unset, .unset]) rfl kX))))))
      refine og (T4.setTop (mkF m 319 #[.val (.ref a0), .val (.int 1), .val (.int 2), .val (.ref a3), .val (.int 1), .val (.int 1), .val (.int xa), .unset, .unset, .unset, .unset] [(.int 65533), (.int 0), (.ref a3)])) ?_ (fun tX kX => X4.ldcInt hx hown (mvT hZ (oW hw 173 rfl)) (g := (mkF m 317 #[.val (.ref a0), .val (.int 1), .val (.int 2), .val (.ref a3), .val (.int 1), .val (.int 1), .val (.int xa), .unset, .unset, .unset, .unset] [(.int 0), (.ref a3)])) rfl (hb hby d27_317) _ kX)
      obtain ⟨_, _, ⟨T5, L5, k5, n5⟩, -, X5, ⟨Lc5, hQ5, l5, y5, z5⟩, st5⟩ := Jvm.LawKit.callS X4 hx (y := oM37) hown (mvT hZ (oW hw 145 rfl)) (mvT hZ (oW hw 146 rfl)) (mvT hZ (oW hw 106 rfl)) (mvT hZ (oW hw 147 rfl)) (by decide) (backOf (W := 0) (rm31 l Z aV hw [] a3 (0 : Int32) (65533 : Int32) kd (4 : Int32) [(.int 0), (.int 0), (.int 0), (.int 0)] 0 hJ143 n0 znJ143 V_a3 S__assertionsDisabled S_HI_BYTE_SHIFT S_LO_BYTE_SHIFT ga ⟨by decide, by decide⟩ ⟨by decide, by decide⟩ (by decide) (by decide) (Nat.le_of_ble_eq_true rfl)) hZ (oW hw 147 rfl) (oW hw 106 rfl) (by decide) (by decide)) (g := (mkF m 319 #[.val (.ref a0), .val (.int 1), .val (.int 2), .val (.ref a3), .val (.int 1), .val (.int 1), .val (.int xa), .unset, .unset, .unset, .unset] [(.int 65533), (.int 0), (.ref a3)])) rfl (by rw [hml]; rfl) (argsL := [(.ref a3), (.int 0), (.int 65533)]) (rest := []) (lenOf pd___BII_V rfl) rfl (by show 2 * 0 + _ ≤ _; exact Nat.le_of_eq rfl) (hb hby d27_319) (fun _ _ => ⟨rfl, e4, (by decide : 0 + 0 ≤ _), (by decide : 0 + 0 ≤ _)⟩)
      dsimp only [Pt.U, Pt.locs, Pt.cells, Pt.slots] at X5 l5 y5 z5 st5 hQ5
      subst l5 y5 z5
      obtain ⟨rfl, N5q, Kq5, V_a3_p⟩ := hQ5
      have N5 := Fr.app N4 N5q
      have S__assertionsDisabled := Sta.keepE S__assertionsDisabled Kq5 (staS (own_acell V_a3) (fun x hx' => nomatch hx'))
      have S_HI_BYTE_SHIFT := Sta.keepE S_HI_BYTE_SHIFT Kq5 (staS (own_acell V_a3) (fun x hx' => nomatch hx'))
      have S_LO_BYTE_SHIFT := Sta.keepE S_LO_BYTE_SHIFT Kq5 (staS (own_acell V_a3) (fun x hx' => nomatch hx'))
      have V_a0 := V_a0.keep Kq5 (ninS nab nin0)
      have K5 := KJ143.trans Kq5 (allS (P := fun x => x ∈ [a3] ∨ h0.size ≤ x) (Or.inl (List.mem_of_getElem? (i := 0) rfl)) all0)
      have zn5 : n0 ≤ T5.heap.size := Nat.le_trans znJ143 Kq5.1
      have V_a3 := V_a3_p
      refine og (T5.setTop (mkF m 322 #[.val (.ref a0), .val (.int 1), .val (.int 2), .val (.ref a3), .val (.int 1), .val (.int 1), .val (.int xa), .unset, .unset, .unset, .unset] [])) ?_ st5
      have V_a3 : Arv Z T5.heap a3 kd .byte (4 : Int32) [(.int (own_lo (65533 : Int32))), (.int (own_hi (65533 : Int32))), (.int 0), (.int 0)] (.int 0) := V_a3
      refine og (T5.setTop (mkF m 0 #[.val (.ref a0), .val (.int 1), .val (.int 2), .val (.ref a3), .val (.int 1), .val (.int 1), .val (.int xa), .unset, .unset, .unset, .unset] [])) ?_ (fun tX kX => XS.goto X5.here hx rfl (pc0 := 322) (pc' := 0) rfl (hb hby d27_322) (by decide) (by decide) kX)
      exact J0 T5 _ T5.heap xa (.unset) X5 rfl N5 zn5 K5 V_a0 V_a3 S__assertionsDisabled S_HI_BYTE_SHIFT S_LO_BYTE_SHIFT
    ·
      refine og (TJ143.setTop (mkF m 355 #[.val (.ref a0), .val (.int 1), .val (.int 2), .val (.ref a3), .val (.int 0), .val (.int 1), .val (.int xa), .unset, .unset, .unset, .unset] [(.int (-2)), (.int (xa >>> ((3 : Int32) &&& 31)))])) ?_ (fun tX kX => XS.icmpYes XJ143.here hx rfl (pc0 := 149) (pc' := 349) rfl (hb hby d27_149) rfl (feq hc149).2 (by decide) (by decide) (XS.iload XJ143.here hx rfl (hb hby d27_349) rfl (XS.iconst XJ143.here hx rfl (hb hby d27_351) (XS.ishr XJ143.here hx rfl (hb hby d27_352) rfl (XS.bipush XJ143.here hx rfl (hb hby d27_353) kX)))))
      by_cases hc355 : (xa >>> ((3 : Int32) &&& 31)) = (-2 : Int32)
      ·
        refine og (TJ143.setTop (mkF m 490 #[.val (.ref a0), .val (.int 1), .val (.int 2), .val (.ref a3), .val (.int 0), .val (.int 1), .val (.int xa), .unset, .unset, .unset, .unset] [])) ?_ (fun tX kX => XS.icmpNo XJ143.here hx rfl (hb hby d27_355) rfl (teq hc355).2 (XS.iloadN XJ143.here hx rfl (hb hby d27_358) rfl (XS.iconst XJ143.here hx rfl (hb hby d27_359) (XS.iadd XJ143.here hx rfl (hb hby d27_360) rfl (XS.iloadN XJ143.here hx rfl (hb hby d27_361) rfl (XS.icmpYes XJ143.here hx rfl (pc0 := 362) (pc' := 490) rfl (hb hby d27_362) rfl (flt (by decide)).2.1 (by decide) (by decide) kX))))))
        refine og (TJ143.setTop (mkF m 503 #[.val (.ref a0), .val (.int 1), .val (.int 2), .val (.ref a3), .val (.int 0), .val (.int 1), .val (.int (xa &&& (255 : Int32))), .unset, .unset, .unset, .unset] [(.int 244), (.int (xa &&& (255 : Int32)))])) ?_ (fun tX kX => XS.iload XJ143.here hx rfl (hb hby d27_490) rfl (XS.sipush XJ143.here hx rfl (hb hby d27_492) (XS.iand XJ143.here hx rfl (hb hby d27_495) rfl (XS.istore XJ143.here hx rfl (hb hby d27_496) rfl (l' := #[.val (.ref a0), .val (.int 1), .val (.int 2), .val (.ref a3), .val (.int 0), .val (.int 1), .val (.int (xa &&& (255 : Int32))), .unset, .unset, .unset, .unset]) rfl (XS.iload XJ143.here hx rfl (hb hby d27_498) rfl (XS.sipush XJ143.here hx rfl (hb hby d27_500) kX))))))
        by_cases hc503 : (244 : Int32) < (xa &&& (255 : Int32))
        ·
          refine og (TJ143.setTop (mkF m 544 #[.val (.ref a0), .val (.int 1), .val (.int 2), .val (.ref a3), .val (.int 1), .val (.int 1), .val (.int (xa &&& (255 : Int32))), .unset, .unset, .unset, .unset] [(.int 0), (.ref a3)])) ?_ (fun tX kX => XS.icmpYes XJ143.here hx rfl (pc0 := 503) (pc' := 526) rfl (hb hby d27_503) rfl (tlt hc503).2.2.1 (by decide) (by decide) (XS.iload XJ143.here hx rfl (hb hby d27_526) rfl (XS.ifYes XJ143.here hx rfl (pc0 := 528) (pc' := 538) rfl (hb hby d27_528) rfl ((if0 _ _).trans (feq (by decide)).2) (by decide) (by decide) (XS.aloadN XJ143.here hx rfl (hb hby d27_538) rfl rfl (XS.iload XJ143.here hx rfl (hb hby d27_539) rfl (XS.iinc XJ143.here hx rfl (hb hby d27_541) rfl (l' := #[.val (.ref a0), .val (.int 1), .val (.int 2), .val (.ref a3), .val (.int 1), .val (.int 1), .val (.int (xa &&& (255 : Int32))), .unset, .unset, .unset, .unset]) rfl kX))))))
          refine og (TJ143.setTop (mkF m 546 #[.val (.ref a0), .val (.int 1), .val (.int 2), .val (.ref a3), .val (.int 1), .val (.int 1), .val (.int (xa &&& (255 : Int32))), .unset, .unset, .unset, .unset] [(.int 65533), (.int 0), (.ref a3)])) ?_ (fun tX kX => XJ143.ldcInt hx hown (mvT hZ (oW hw 173 rfl)) (g := (mkF m 544 #[.val (.ref a0), .val (.int 1), .val (.int 2), .val (.ref a3), .val (.int 1), .val (.int 1), .val (.int (xa &&& (255 : Int32))), .unset, .unset, .unset, .unset] [(.int 0), (.ref a3)])) rfl (hb hby d27_544) _ kX)
          obtain ⟨_, _, ⟨T6, L6, k6, n6⟩, -, X6, ⟨Lc6, hQ6, l6, y6, z6⟩, st6⟩ := Jvm.LawKit.callS XJ143 hx (y := oM37) hown (mvT hZ (oW hw 145 rfl)) (mvT hZ (oW hw 146 rfl)) (mvT hZ (oW hw 106 rfl)) (mvT hZ (oW hw 147 rfl)) (by decide) (backOf (W := 0) (rm31 l Z aV hw [] a3 (0 : Int32) (65533 : Int32) kd (4 : Int32) [(.int 0), (.int 0), (.int 0), (.int 0)] 0 hJ143 n0 znJ143 V_a3 S__assertionsDisabled S_HI_BYTE_SHIFT S_LO_BYTE_SHIFT ga ⟨by decide, by decide⟩ ⟨by decide, by decide⟩ (by decide) (by decide) (Nat.le_of_ble_eq_true rfl)) hZ (oW hw 147 rfl) (oW hw 106 rfl) (by decide) (by decide)) (g := (mkF m 546 #[.val (.ref a0), .val (.int 1), .val (.int 2), .val (.ref a3), .val (.int 1), .val (.int 1), .val (.int (xa &&& (255 : Int32))), .unset, .unset, .unset, .unset] [(.int 65533), (.int 0), (.ref a3)])) rfl (by rw [hml]; rfl) (argsL := [(.ref a3), (.int 0), (.int 65533)]) (rest := []) (lenOf pd___BII_V rfl) rfl (by show 2 * 0 + _ ≤ _; exact Nat.le_of_eq rfl) (hb hby d27_546) (fun _ _ => ⟨rfl, eJ143, (by decide : 0 + 0 ≤ _), (by decide : 0 + 0 ≤ _)⟩)
          dsimp only [Pt.U, Pt.locs, Pt.cells, Pt.slots] at X6 l6 y6 z6 st6 hQ6
          subst l6 y6 z6
          obtain ⟨rfl, N6q, Kq6, V_a3_p⟩ := hQ6
          have N6 := Fr.app NJ143 N6q
          have S__assertionsDisabled := Sta.keepE S__assertionsDisabled Kq6 (staS (own_acell V_a3) (fun x hx' => nomatch hx'))
          have S_HI_BYTE_SHIFT := Sta.keepE S_HI_BYTE_SHIFT Kq6 (staS (own_acell V_a3) (fun x hx' => nomatch hx'))
          have S_LO_BYTE_SHIFT := Sta.keepE S_LO_BYTE_SHIFT Kq6 (staS (own_acell V_a3) (fun x hx' => nomatch hx'))
          have V_a0 := V_a0.keep Kq6 (ninS nab nin0)
          have K6 := KJ143.trans Kq6 (allS (P := fun x => x ∈ [a3] ∨ h0.size ≤ x) (Or.inl (List.mem_of_getElem? (i := 0) rfl)) all0)
          have zn6 : n0 ≤ T6.heap.size := Nat.le_trans znJ143 Kq6.1
          have V_a3 := V_a3_p
          refine og (T6.setTop (mkF m 549 #[.val (.ref a0), .val (.int 1), .val (.int 2), .val (.ref a3), .val (.int 1), .val (.int 1), .val (.int (xa &&& (255 : Int32))), .unset, .unset, .unset, .unset] [])) ?_ st6
          have V_a3 : Arv Z T6.heap a3 kd .byte (4 : Int32) [(.int (own_lo (65533 : Int32))), (.int (own_hi (65533 : Int32))), (.int 0), (.int 0)] (.int 0) := V_a3
          refine og (T6.setTop (mkF m 0 #[.val (.ref a0), .val (.int 1), .val (.int 2), .val (.ref a3), .val (.int 1), .val (.int 1), .val (.int (xa &&& (255 : Int32))), .unset, .unset, .unset, .unset] [])) ?_ (fun tX kX => XS.goto X6.here hx rfl (pc0 := 549) (pc' := 0) rfl (hb hby d27_549) (by decide) (by decide) kX)
          exact J0 T6 _ T6.heap (xa &&& (255 : Int32)) (.unset) X6 rfl N6 zn6 K6 V_a0 V_a3 S__assertionsDisabled S_HI_BYTE_SHIFT S_LO_BYTE_SHIFT
        ·
          refine og (TJ143.setTop (mkF m 514 #[.val (.ref a0), .val (.int 1), .val (.int 2), .val (.ref a3), .val (.int 0), .val (.int 1), .val (.int (xa &&& (255 : Int32))), .unset, .unset, .unset, .unset] [(.ref a0), (.int (xa &&& (255 : Int32)))])) ?_ (fun tX kX => XS.icmpNo XJ143.here hx rfl (hb hby d27_503) rfl (flt hc503).2.2.1 (XS.iloadN XJ143.here hx rfl (hb hby d27_506) rfl (XS.iloadN XJ143.here hx rfl (hb hby d27_507) rfl (XS.icmpNo XJ143.here hx rfl (hb hby d27_508) rfl (tlt (by decide)).2.1 (XS.iload XJ143.here hx rfl (hb hby d27_511) rfl (XS.aloadN XJ143.here hx rfl (hb hby d27_513) rfl rfl kX))))))
          refine og (TJ143.setTop (mkF m 515 #[.val (.ref a0), .val (.int 1), .val (.int 2), .val (.ref a3), .val (.int 0), .val (.int 1), .val (.int (xa &&& (255 : Int32))), .unset, .unset, .unset, .unset] [(.int 1), (.ref a0), (.int (xa &&& (255 : Int32)))])) ?_ (fun tX kX => XS.iloadN XJ143.here hx rfl (hb hby d27_514) rfl kX)
          obtain ⟨cl7, Ar7, qa7, S7, N7', H7, G7⟩ := id V_a0
          have hin7 := inb_of (j := (1 : Int32)) S7 ⟨by decide, by decide⟩
          have hat7 := H7.at (v := (.int tv)) hin7 rfl
          refine og (TJ143.setTop (mkF m 520 #[.val (.ref a0), .val (.int 1), .val (.int 2), .val (.ref a3), .val (.int 0), .val (.int 1), .val (.int (xa &&& (255 : Int32))), .unset, .unset, .unset, .unset] [(.int (tv &&& (255 : Int32))), (.int (xa &&& (255 : Int32)))])) ?_ (fun tX kX => XJ143.baloadBytes hx (j := (1 : Int32)) (v := (.int tv)) (by rw [eJ143]; exact Ar7.1) (State.isArrayOf_alike hZ.alike Ar7.2.1) Ar7.2.2 hin7 hat7 (g := (mkF m 515 #[.val (.ref a0), .val (.int 1), .val (.int 2), .val (.ref a3), .val (.int 0), .val (.int 1), .val (.int (xa &&& (255 : Int32))), .unset, .unset, .unset, .unset] [(.int 1), (.ref a0), (.int (xa &&& (255 : Int32)))])) rfl rfl (hb hby d27_515) _ (XS.sipush XJ143.here hx rfl (hb hby d27_516) (XS.iand XJ143.here hx rfl (hb hby d27_519) rfl kX)))
          obtain ⟨_, _, ⟨T8, L8, k8, n8⟩, -, X8, ⟨Lc8, hQ8, l8, y8, z8⟩, st8⟩ := Jvm.LawKit.callS XJ143 hx (y := oM8) hown (mvT hZ (oW hw 201 rfl)) (mvT hZ (oW hw 202 rfl)) (mvT hZ (oW hw 9 rfl)) (mvT hZ (oW hw 203 rfl)) (by decide) (backOf (W := 0) (rm43 l Z aV hw [] (xa &&& (255 : Int32)) (tv &&& (255 : Int32)) hJ143 n0 znJ143 hT.2.2.2.1 hT.2.2.2.2.1) hZ (oW hw 203 rfl) (oW hw 9 rfl) (by decide) (by decide)) (g := (mkF m 520 #[.val (.ref a0), .val (.int 1), .val (.int 2), .val (.ref a3), .val (.int 0), .val (.int 1), .val (.int (xa &&& (255 : Int32))), .unset, .unset, .unset, .unset] [(.int (tv &&& (255 : Int32))), (.int (xa &&& (255 : Int32)))])) rfl (by rw [hml]; rfl) (argsL := [(.int (xa &&& (255 : Int32))), (.int (tv &&& (255 : Int32)))]) (rest := []) (lenOf pd__II_Z rfl) rfl (by show 2 * 0 + _ ≤ _; exact Nat.le_of_eq rfl) (hb hby d27_520) (fun _ _ => ⟨rfl, eJ143, (by decide : 0 + 0 ≤ _), (by decide : 0 + 0 ≤ _)⟩)
          dsimp only [Pt.U, Pt.locs, Pt.cells, Pt.slots] at X8 l8 y8 z8 st8 hQ8
          subst l8 y8 z8
          obtain ⟨rfl, N8q, e8⟩ := hQ8
          have N8 := Fr.app NJ143 N8q
          refine og (T8.setTop (mkF m 523 #[.val (.ref a0), .val (.int 1), .val (.int 2), .val (.ref a3), .val (.int 0), .val (.int 1), .val (.int (xa &&& (255 : Int32))), .unset, .unset, .unset, .unset] [(.int 1)])) ?_ st8
          refine og (T8.setTop (mkF m 544 #[.val (.ref a0), .val (.int 1), .val (.int 2), .val (.ref a3), .val (.int 1), .val (.int 1), .val (.int (xa &&& (255 : Int32))), .unset, .unset, .unset, .unset] [(.int 0), (.ref a3)])) ?_ (fun tX kX => XS.ifNo X8.here hx rfl (hb hby d27_523) rfl ((if0 _ _).trans (feq (by decide)).1) (XS.iload X8.here hx rfl (hb hby d27_526) rfl (XS.ifYes X8.here hx rfl (pc0 := 528) (pc' := 538) rfl (hb hby d27_528) rfl ((if0 _ _).trans (feq (by decide)).2) (by decide) (by decide) (XS.aloadN X8.here hx rfl (hb hby d27_538) rfl rfl (XS.iload X8.here hx rfl (hb hby d27_539) rfl (XS.iinc X8.here hx rfl (hb hby d27_541) rfl (l' := #[.val (.ref a0), .val (.int 1), .val (.int 2), .val (.ref a3), .val (.int 1), .val (.int 1), .val (.int (xa &&& (255 : Int32))), .unset, .unset, .unset, .unset]) rfl kX))))))
          refine og (T8.setTop (mkF m 546 #[.val (.ref a0), .val (.int 1), .val (.int 2), .val (.ref a3), .val (.int 1), .val (.int 1), .val (.int (xa &&& (255 : Int32))), .unset, .unset, .unset, .unset] [(.int 65533), (.int 0), (.ref a3)])) ?_ (fun tX kX => X8.ldcInt hx hown (mvT hZ (oW hw 173 rfl)) (g := (mkF m 544 #[.val (.ref a0), .val (.int 1), .val (.int 2), .val (.ref a3), .val (.int 1), .val (.int 1), .val (.int (xa &&& (255 : Int32))), .unset, .unset, .unset, .unset] [(.int 0), (.ref a3)])) rfl (hb hby d27_544) _ kX)
          obtain ⟨_, _, ⟨T9, L9, k9, n9⟩, -, X9, ⟨Lc9, hQ9, l9, y9, z9⟩, st9⟩ := Jvm.LawKit.callS X8 hx (y := oM37) hown (mvT hZ (oW hw 145 rfl)) (mvT hZ (oW hw 146 rfl)) (mvT hZ (oW hw 106 rfl)) (mvT hZ (oW hw 147 rfl)) (by decide) (backOf (W := 0) (rm31 l Z aV hw [] a3 (0 : Int32) (65533 : Int32) kd (4 : Int32) [(.int 0), (.int 0), (.int 0), (.int 0)] 0 hJ143 n0 znJ143 V_a3 S__assertionsDisabled S_HI_BYTE_SHIFT S_LO_BYTE_SHIFT ga ⟨by decide, by decide⟩ ⟨by decide, by decide⟩ (by decide) (by decide) (Nat.le_of_ble_eq_true rfl)) hZ (oW hw 147 rfl) (oW hw 106 rfl) (by decide) (by decide)) (g := (mkF m 546 #[.val (.ref a0), .val (.int 1), .val (.int 2), .val (.ref a3), .val (.int 1), .val (.int 1), .val (.int (xa &&& (255 : Int32))), .unset, .unset, .unset, .unset] [(.int 65533), (.int 0), (.ref a3)])) rfl (by rw [hml]; rfl) (argsL := [(.ref a3), (.int 0), (.int 65533)]) (rest := []) (lenOf pd___BII_V rfl) rfl (by show 2 * 0 + _ ≤ _; exact Nat.le_of_eq rfl) (hb hby d27_546) (fun _ _ => ⟨rfl, e8, (by decide : 0 + 0 ≤ _), (by decide : 0 + 0 ≤ _)⟩)
          dsimp only [Pt.U, Pt.locs, Pt.cells, Pt.slots] at X9 l9 y9 z9 st9 hQ9
          subst l9 y9 z9
          obtain ⟨rfl, N9q, Kq9, V_a3_p⟩ := hQ9
          have N9 := Fr.app N8 N9q
          have S__assertionsDisabled := Sta.keepE S__assertionsDisabled Kq9 (staS (own_acell V_a3) (fun x hx' => nomatch hx'))
          have S_HI_BYTE_SHIFT := Sta.keepE S_HI_BYTE_SHIFT Kq9 (staS (own_acell V_a3) (fun x hx' => nomatch hx'))
          have S_LO_BYTE_SHIFT := Sta.keepE S_LO_BYTE_SHIFT Kq9 (staS (own_acell V_a3) (fun x hx' => nomatch hx'))
          have V_a0 := V_a0.keep Kq9 (ninS nab nin0)
          have K9 := KJ143.trans Kq9 (allS (P := fun x => x ∈ [a3] ∨ h0.size ≤ x) (Or.inl (List.mem_of_getElem? (i := 0) rfl)) all0)
          have zn9 : n0 ≤ T9.heap.size := Nat.le_trans znJ143 Kq9.1
          have V_a3 := V_a3_p
          refine og (T9.setTop (mkF m 549 #[.val (.ref a0), .val (.int 1), .val (.int 2), .val (.ref a3), .val (.int 1), .val (.int 1), .val (.int (xa &&& (255 : Int32))), .unset, .unset, .unset, .unset] [])) ?_ st9
          have V_a3 : Arv Z T9.heap a3 kd .byte (4 : Int32) [(.int (own_lo (65533 : Int32))), (.int (own_hi (65533 : Int32))), (.int 0), (.int 0)] (.int 0) := V_a3
          refine og (T9.setTop (mkF m 0 #[.val (.ref a0), .val (.int 1), .val (.int 2), .val (.ref a3), .val (.int 1), .val (.int 1), .val (.int (xa &&& (255 : Int32))), .unset, .unset, .unset, .unset] [])) ?_ (fun tX kX => XS.goto X9.here hx rfl (pc0 := 549) (pc' := 0) rfl (hb hby d27_549) (by decide) (by decide) kX)
          exact J0 T9 _ T9.heap (xa &&& (255 : Int32)) (.unset) X9 rfl N9 zn9 K9 V_a0 V_a3 S__assertionsDisabled S_HI_BYTE_SHIFT S_LO_BYTE_SHIFT
      ·
        refine og (TJ143.setTop (mkF m 613 #[.val (.ref a0), .val (.int 1), .val (.int 2), .val (.ref a3), .val (.int 1), .val (.int 1), .val (.int xa), .unset, .unset, .unset, .unset] [(.int 0), (.ref a3)])) ?_ (fun tX kX => XS.icmpYes XJ143.here hx rfl (pc0 := 355) (pc' := 595) rfl (hb hby d27_355) rfl (feq hc355).2 (by decide) (by decide) (XS.iload XJ143.here hx rfl (hb hby d27_595) rfl (XS.ifYes XJ143.here hx rfl (pc0 := 597) (pc' := 607) rfl (hb hby d27_597) rfl ((if0 _ _).trans (feq (by decide)).2) (by decide) (by decide) (XS.aloadN XJ143.here hx rfl (hb hby d27_607) rfl rfl (XS.iload XJ143.here hx rfl (hb hby d27_608) rfl (XS.iinc XJ143.here hx rfl (hb hby d27_610) rfl (l' := #[.val (.ref a0), .val (.int 1), .val (.int 2), .val (.ref a3), .val (.int 1), .val (.int 1), .val (.int xa), .unset, .unset, .unset, .unset]) rfl kX))))))
        refine og (TJ143.setTop (mkF m 615 #[.val (.ref a0), .val (.int 1), .val (.int 2), .val (.ref a3), .val (.int 1), .val (.int 1), .val (.int xa), .unset, .unset, .unset, .unset] [(.int 65533), (.int 0), (.ref a3)])) ?_ (fun tX kX => XJ143.ldcInt hx hown (mvT hZ (oW hw 173 rfl)) (g := (mkF m 613 #[.val (.ref a0), .val (.int 1), .val (.int 2), .val (.ref a3), .val (.int 1), .val (.int 1), .val (.int xa), .unset, .unset, .unset, .unset] [(.int 0), (.ref a3)])) rfl (hb hby d27_613) _ kX)
        obtain ⟨_, _, ⟨T10, L10, k10, n10⟩, -, X10, ⟨Lc10, hQ10, l10, y10, z10⟩, st10⟩ := Jvm.LawKit.callS XJ143 hx (y := oM37) hown (mvT hZ (oW hw 145 rfl)) (mvT hZ (oW hw 146 rfl)) (mvT hZ (oW hw 106 rfl)) (mvT hZ (oW hw 147 rfl)) (by decide) (backOf (W := 0) (rm31 l Z aV hw [] a3 (0 : Int32) (65533 : Int32) kd (4 : Int32) [(.int 0), (.int 0), (.int 0), (.int 0)] 0 hJ143 n0 znJ143 V_a3 S__assertionsDisabled S_HI_BYTE_SHIFT S_LO_BYTE_SHIFT ga ⟨by decide, by decide⟩ ⟨by decide, by decide⟩ (by decide) (by decide) (Nat.le_of_ble_eq_true rfl)) hZ (oW hw 147 rfl) (oW hw 106 rfl) (by decide) (by decide)) (g := (mkF m 615 #[.val (.ref a0), .val (.int 1), .val (.int 2), .val (.ref a3), .val (.int 1), .val (.int 1), .val (.int xa), .unset, .unset, .unset, .unset] [(.int 65533), (.int 0), (.ref a3)])) rfl (by rw [hml]; rfl) (argsL := [(.ref a3), (.int 0), (.int 65533)]) (rest := []) (lenOf pd___BII_V rfl) rfl (by show 2 * 0 + _ ≤ _; exact Nat.le_of_eq rfl) (hb hby d27_615) (fun _ _ => ⟨rfl, eJ143, (by decide : 0 + 0 ≤ _), (by decide : 0 + 0 ≤ _)⟩)
        dsimp only [Pt.U, Pt.locs, Pt.cells, Pt.slots] at X10 l10 y10 z10 st10 hQ10
        subst l10 y10 z10
        obtain ⟨rfl, N10q, Kq10, V_a3_p⟩ := hQ10
        have N10 := Fr.app NJ143 N10q
        have S__assertionsDisabled := Sta.keepE S__assertionsDisabled Kq10 (staS (own_acell V_a3) (fun x hx' => nomatch hx'))
        have S_HI_BYTE_SHIFT := Sta.keepE S_HI_BYTE_SHIFT Kq10 (staS (own_acell V_a3) (fun x hx' => nomatch hx'))
        have S_LO_BYTE_SHIFT := Sta.keepE S_LO_BYTE_SHIFT Kq10 (staS (own_acell V_a3) (fun x hx' => nomatch hx'))
        have V_a0 := V_a0.keep Kq10 (ninS nab nin0)
        have K10 := KJ143.trans Kq10 (allS (P := fun x => x ∈ [a3] ∨ h0.size ≤ x) (Or.inl (List.mem_of_getElem? (i := 0) rfl)) all0)
        have zn10 : n0 ≤ T10.heap.size := Nat.le_trans znJ143 Kq10.1
        have V_a3 := V_a3_p
        refine og (T10.setTop (mkF m 618 #[.val (.ref a0), .val (.int 1), .val (.int 2), .val (.ref a3), .val (.int 1), .val (.int 1), .val (.int xa), .unset, .unset, .unset, .unset] [])) ?_ st10
        have V_a3 : Arv Z T10.heap a3 kd .byte (4 : Int32) [(.int (own_lo (65533 : Int32))), (.int (own_hi (65533 : Int32))), (.int 0), (.int 0)] (.int 0) := V_a3
        refine og (T10.setTop (mkF m 0 #[.val (.ref a0), .val (.int 1), .val (.int 2), .val (.ref a3), .val (.int 1), .val (.int 1), .val (.int xa), .unset, .unset, .unset, .unset] [])) ?_ (fun tX kX => XS.goto X10.here hx rfl (pc0 := 618) (pc' := 0) rfl (hb hby d27_618) (by decide) (by decide) kX)
        exact J0 T10 _ T10.heap xa (.unset) X10 rfl N10 zn10 K10 V_a0 V_a3 S__assertionsDisabled S_HI_BYTE_SHIFT S_LO_BYTE_SHIFT
  refine og (s₁.setTop (mkF m 10 #[.val (.ref a0), .val (.int 1), .val (.int 2), .val (.ref a3), .val (.int 0), .val (.int 1), .unset, .unset, .unset, .unset, .unset] [(.int 0), (.ref a0)])) ?_ (fun tX kX => XS.iloadN X0.here hx rfl (hb hby d27_0) rfl (XS.iloadN X0.here hx rfl (hb hby d27_1) rfl (XS.icmpNo X0.here hx rfl (hb hby d27_2) rfl (tlt (by decide)).2.1 (XS.aloadN X0.here hx rfl (hb hby d27_5) rfl rfl (XS.iloadN X0.here hx rfl (hb hby d27_6) rfl (XS.iinc X0.here hx rfl (hb hby d27_7) rfl (l' := #[.val (.ref a0), .val (.int 1), .val (.int 2), .val (.ref a3), .val (.int 0), .val (.int 1), .unset, .unset, .unset, .unset, .unset]) rfl kX))))))
  obtain ⟨cl11, Ar11, qa11, S11, N11', H11, G11⟩ := id V_a0
  have hin11 := inb_of (j := (0 : Int32)) S11 ⟨by decide, by decide⟩
  have hat11 := H11.at (v := (.int xa)) hin11 rfl
  refine og (s₁.setTop (mkF m 36 #[.val (.ref a0), .val (.int 1), .val (.int 2), .val (.ref a3), .val (.int 0), .val (.int 1), .val (.int xa), .unset, .unset, .unset, .unset] [(.int 5), (.int xa)])) ?_ (fun tX kX => X0.baloadBytes hx (j := (0 : Int32)) (v := (.int xa)) (by rw [e0]; exact Ar11.1) (State.isArrayOf_alike hZ.alike Ar11.2.1) Ar11.2.2 hin11 hat11 (g := (mkF m 10 #[.val (.ref a0), .val (.int 1), .val (.int 2), .val (.ref a3), .val (.int 0), .val (.int 1), .unset, .unset, .unset, .unset, .unset] [(.int 0), (.ref a0)])) rfl rfl (hb hby d27_10) _ (XS.istore X0.here hx rfl (hb hby d27_11) rfl (l' := #[.val (.ref a0), .val (.int 1), .val (.int 2), .val (.ref a3), .val (.int 0), .val (.int 1), .val (.int xa), .unset, .unset, .unset, .unset]) rfl (XS.iload X0.here hx rfl (hb hby d27_13) rfl (XS.ifYes X0.here hx rfl (pc0 := 15) (pc' := 33) rfl (hb hby d27_15) rfl ((if0 _ _).trans (tlt hH).1) (by decide) (by decide) (XS.iload X0.here hx rfl (hb hby d27_33) rfl (XS.iconst X0.here hx rfl (hb hby d27_35) kX))))))
  refine og (s₁.setTop (mkF m 39 #[.val (.ref a0), .val (.int 1), .val (.int 2), .val (.ref a3), .val (.int 0), .val (.int 1), .val (.int xa), .unset, .unset, .unset, .unset] [(.int (-2)), (.int (xa >>> ((5 : Int32) &&& 31)))])) ?_ (fun tX kX => XS.ishr X0.here hx rfl (hb hby d27_36) rfl (XS.bipush X0.here hx rfl (hb hby d27_37) kX))
  by_cases hc39 : (xa >>> ((5 : Int32) &&& 31)) = (-2 : Int32)
  ·
    refine og (s₁.setTop (mkF m 47 #[.val (.ref a0), .val (.int 1), .val (.int 2), .val (.ref a3), .val (.int 0), .val (.int 1), .val (.int xa), .unset, .unset, .unset, .unset] [(.int (xa &&& (30 : Int32)))])) ?_ (fun tX kX => XS.icmpNo X0.here hx rfl (hb hby d27_39) rfl (teq hc39).2 (XS.iload X0.here hx rfl (hb hby d27_42) rfl (XS.bipush X0.here hx rfl (hb hby d27_44) (XS.iand X0.here hx rfl (hb hby d27_46) rfl kX))))
    by_cases hc47 : (xa &&& (30 : Int32)) = (0 : Int32)
    ·
      refine og (s₁.setTop (mkF m 143 #[.val (.ref a0), .val (.int 1), .val (.int 2), .val (.ref a3), .val (.int 0), .val (.int 1), .val (.int xa), .unset, .unset, .unset, .unset] [])) ?_ (fun tX kX => XS.ifYes X0.here hx rfl (pc0 := 47) (pc' := 143) rfl (hb hby d27_47) rfl ((if0 _ _).trans (teq hc47).1) (by decide) (by decide) kX)
      exact J143 s₁ _ h0 X0 e0 N0 Z0 K0 V_a0 V_a3 S__assertionsDisabled S_HI_BYTE_SHIFT S_LO_BYTE_SHIFT
    ·
      refine og (s₁.setTop (mkF m 57 #[.val (.ref a0), .val (.int 1), .val (.int 2), .val (.ref a3), .val (.int 0), .val (.int 1), .val (.int xa), .unset, .unset, .unset, .unset] [(.int 1), (.ref a0)])) ?_ (fun tX kX => XS.ifNo X0.here hx rfl (hb hby d27_47) rfl ((if0 _ _).trans (feq hc47).1) (XS.iloadN X0.here hx rfl (hb hby d27_50) rfl (XS.iloadN X0.here hx rfl (hb hby d27_51) rfl (XS.icmpNo X0.here hx rfl (hb hby d27_52) rfl (tlt (by decide)).2.1 (XS.aloadN X0.here hx rfl (hb hby d27_55) rfl rfl (XS.iloadN X0.here hx rfl (hb hby d27_56) rfl kX))))))
      refine og (s₁.setTop (mkF m 60 #[.val (.ref a0), .val (.int 2), .val (.int 2), .val (.ref a3), .val (.int 0), .val (.int 1), .val (.int xa), .unset, .unset, .unset, .unset] [(.int 1), (.ref a0)])) ?_ (fun tX kX => XS.iinc X0.here hx rfl (hb hby d27_57) rfl (l' := #[.val (.ref a0), .val (.int 2), .val (.int 2), .val (.ref a3), .val (.int 0), .val (.int 1), .val (.int xa), .unset, .unset, .unset, .unset]) rfl kX)
      obtain ⟨cl12, Ar12, qa12, S12, N12', H12, G12⟩ := id V_a0
      have hin12 := inb_of (j := (1 : Int32)) S12 ⟨by decide, by decide⟩
      have hat12 := H12.at (v := (.int tv)) hin12 rfl
      refine og (s₁.setTop (mkF m 65 #[.val (.ref a0), .val (.int 2), .val (.int 2), .val (.ref a3), .val (.int 0), .val (.int 1), .val (.int xa), .val (.int tv), .unset, .unset, .unset] [(.int tv)])) ?_ (fun tX kX => X0.baloadBytes hx (j := (1 : Int32)) (v := (.int tv)) (by rw [e0]; exact Ar12.1) (State.isArrayOf_alike hZ.alike Ar12.2.1) Ar12.2.2 hin12 hat12 (g := (mkF m 60 #[.val (.ref a0), .val (.int 2), .val (.int 2), .val (.ref a3), .val (.int 0), .val (.int 1), .val (.int xa), .unset, .unset, .unset, .unset] [(.int 1), (.ref a0)])) rfl rfl (hb hby d27_60) _ (XS.istore X0.here hx rfl (hb hby d27_61) rfl (l' := #[.val (.ref a0), .val (.int 2), .val (.int 2), .val (.ref a3), .val (.int 0), .val (.int 1), .val (.int xa), .val (.int tv), .unset, .unset, .unset]) rfl (XS.iload X0.here hx rfl (hb hby d27_63) rfl kX)))
      obtain ⟨_, _, ⟨T13, L13, k13, n13⟩, -, X13, ⟨Lc13, hQ13, l13, y13, z13⟩, st13⟩ := Jvm.LawKit.callS X0 hx (y := oM6) hown (mvT hZ (oW hw 198 rfl)) (mvT hZ (oW hw 199 rfl)) (mvT hZ (oW hw 9 rfl)) (mvT hZ (oW hw 200 rfl)) (by decide) (backOf (W := 0) (rm42t l Z aV hw [] tv h0 n0 Z0 hT.2.2.1) hZ (oW hw 200 rfl) (oW hw 9 rfl) (by decide) (by decide)) (g := (mkF m 65 #[.val (.ref a0), .val (.int 2), .val (.int 2), .val (.ref a3), .val (.int 0), .val (.int 1), .val (.int xa), .val (.int tv), .unset, .unset, .unset] [(.int tv)])) rfl (by rw [hml]; rfl) (argsL := [(.int tv)]) (rest := []) (lenOf pd__I_Z rfl) rfl (by show 2 * 0 + _ ≤ _; exact Nat.le_of_eq rfl) (hb hby d27_65) (fun _ _ => ⟨rfl, e0, (by decide : 0 + 0 ≤ _), (by decide : 0 + 0 ≤ _)⟩)
      dsimp only [Pt.U, Pt.locs, Pt.cells, Pt.slots] at X13 l13 y13 z13 st13 hQ13
      subst l13 y13 z13
      obtain ⟨rfl, N13q, e13⟩ := hQ13
      have N13 := Fr.app N0 N13q
      refine og (T13.setTop (mkF m 68 #[.val (.ref a0), .val (.int 2), .val (.int 2), .val (.ref a3), .val (.int 0), .val (.int 1), .val (.int xa), .val (.int tv), .unset, .unset, .unset] [(.int 1)])) ?_ st13
      refine og (T13.setTop (mkF m 89 #[.val (.ref a0), .val (.int 2), .val (.int 2), .val (.ref a3), .val (.int 1), .val (.int 1), .val (.int xa), .val (.int tv), .unset, .unset, .unset] [(.int 0), (.ref a3)])) ?_ (fun tX kX => XS.ifNo X13.here hx rfl (hb hby d27_68) rfl ((if0 _ _).trans (feq (by decide)).1) (XS.iload X13.here hx rfl (hb hby d27_71) rfl (XS.ifYes X13.here hx rfl (pc0 := 73) (pc' := 83) rfl (hb hby d27_73) rfl ((if0 _ _).trans (feq (by decide)).2) (by decide) (by decide) (XS.aloadN X13.here hx rfl (hb hby d27_83) rfl rfl (XS.iload X13.here hx rfl (hb hby d27_84) rfl (XS.iinc X13.here hx rfl (hb hby d27_86) rfl (l' := #[.val (.ref a0), .val (.int 2), .val (.int 2), .val (.ref a3), .val (.int 1), .val (.int 1), .val (.int xa), .val (.int tv), .unset, .unset, .unset]) rfl kX))))))
      refine og (T13.setTop (mkF m 91 #[.val (.ref a0), .val (.int 2), .val (.int 2), .val (.ref a3), .val (.int 1), .val (.int 1), .val (.int xa), .val (.int tv), .unset, .unset, .unset] [(.int 65533), (.int 0), (.ref a3)])) ?_ (fun tX kX => X13.ldcInt hx hown (mvT hZ (oW hw 173 rfl)) (g := (mkF m 89 #[.val (.ref a0), .val (.int 2), .val (.int 2), .val (.ref a3), .val (.int 1), .val (.int 1), .val (.int xa), .val (.int tv), .unset, .unset, .unset] [(.int 0), (.ref a3)])) rfl (hb hby d27_89) _ kX)
      obtain ⟨_, _, ⟨T14, L14, k14, n14⟩, -, X14, ⟨Lc14, hQ14, l14, y14, z14⟩, st14⟩ := Jvm.LawKit.callS X13 hx (y := oM37) hown (mvT hZ (oW hw 145 rfl)) (mvT hZ (oW hw 146 rfl)) (mvT hZ (oW hw 106 rfl)) (mvT hZ (oW hw 147 rfl)) (by decide) (backOf (W := 0) (rm31 l Z aV hw [] a3 (0 : Int32) (65533 : Int32) kd (4 : Int32) [(.int 0), (.int 0), (.int 0), (.int 0)] 0 h0 n0 Z0 V_a3 S__assertionsDisabled S_HI_BYTE_SHIFT S_LO_BYTE_SHIFT ga ⟨by decide, by decide⟩ ⟨by decide, by decide⟩ (by decide) (by decide) (Nat.le_of_ble_eq_true rfl)) hZ (oW hw 147 rfl) (oW hw 106 rfl) (by decide) (by decide)) (g := (mkF m 91 #[.val (.ref a0), .val (.int 2), .val (.int 2), .val (.ref a3), .val (.int 1), .val (.int 1), .val (.int xa), .val (.int tv), .unset, .unset, .unset] [(.int 65533), (.int 0), (.ref a3)])) rfl (by rw [hml]; rfl) (argsL := [(.ref a3), (.int 0), (.int 65533)]) (rest := []) (lenOf pd___BII_V rfl) rfl (by show 2 * 0 + _ ≤ _; exact Nat.le_of_eq rfl) (hb hby d27_91) (fun _ _ => ⟨rfl, e13, (by decide : 0 + 0 ≤ _), (by decide : 0 + 0 ≤ _)⟩)
      dsimp only [Pt.U, Pt.locs, Pt.cells, Pt.slots] at X14 l14 y14 z14 st14 hQ14
      subst l14 y14 z14
      obtain ⟨rfl, N14q, Kq14, V_a3_p⟩ := hQ14
      have N14 := Fr.app N13 N14q
      have S__assertionsDisabled := Sta.keepE S__assertionsDisabled Kq14 (staS (own_acell V_a3) (fun x hx' => nomatch hx'))
      have S_HI_BYTE_SHIFT := Sta.keepE S_HI_BYTE_SHIFT Kq14 (staS (own_acell V_a3) (fun x hx' => nomatch hx'))
      have S_LO_BYTE_SHIFT := Sta.keepE S_LO_BYTE_SHIFT Kq14 (staS (own_acell V_a3) (fun x hx' => nomatch hx'))
      have V_a0 := V_a0.keep Kq14 (ninS nab nin0)
      have K14 := K0.trans Kq14 (allS (P := fun x => x ∈ [a3] ∨ h0.size ≤ x) (Or.inl (List.mem_of_getElem? (i := 0) rfl)) all0)
      have zn14 : n0 ≤ T14.heap.size := Nat.le_trans Z0 Kq14.1
      have V_a3 := V_a3_p
      refine og (T14.setTop (mkF m 94 #[.val (.ref a0), .val (.int 2), .val (.int 2), .val (.ref a3), .val (.int 1), .val (.int 1), .val (.int xa), .val (.int tv), .unset, .unset, .unset] [])) ?_ st14
      have V_a3 : Arv Z T14.heap a3 kd .byte (4 : Int32) [(.int (own_lo (65533 : Int32))), (.int (own_hi (65533 : Int32))), (.int 0), (.int 0)] (.int 0) := V_a3
      refine og (T14.setTop (mkF m 0 #[.val (.ref a0), .val (.int 1), .val (.int 2), .val (.ref a3), .val (.int 1), .val (.int 1), .val (.int xa), .val (.int tv), .unset, .unset, .unset] [])) ?_ (fun tX kX => XS.iinc X14.here hx rfl (hb hby d27_94) rfl (l' := #[.val (.ref a0), .val (.int 1), .val (.int 2), .val (.ref a3), .val (.int 1), .val (.int 1), .val (.int xa), .val (.int tv), .unset, .unset, .unset]) rfl (XS.goto X14.here hx rfl (pc0 := 97) (pc' := 0) rfl (hb hby d27_97) (by decide) (by decide) kX))
      exact J0 T14 _ T14.heap xa (.val (.int tv)) X14 rfl N14 zn14 K14 V_a0 V_a3 S__assertionsDisabled S_HI_BYTE_SHIFT S_LO_BYTE_SHIFT
  ·
    refine og (s₁.setTop (mkF m 143 #[.val (.ref a0), .val (.int 1), .val (.int 2), .val (.ref a3), .val (.int 0), .val (.int 1), .val (.int xa), .unset, .unset, .unset, .unset] [])) ?_ (fun tX kX => XS.icmpYes X0.here hx rfl (pc0 := 39) (pc' := 143) rfl (hb hby d27_39) rfl (feq hc39).2 (by decide) (by decide) kX)
    exact J143 s₁ _ h0 X0 e0 N0 Z0 K0 V_a0 V_a3 S__assertionsDisabled S_HI_BYTE_SHIFT S_LO_BYTE_SHIFT
theorem d27_100 : oD27 100 (.aload_n 3) 1 := by decide +kernel
theorem d27_101 : oD27 101 (.iload 4) 2 := by decide +kernel
theorem d27_103 : oD27 103 (.iinc 4 1) 3 := by decide +kernel
theorem d27_106 : oD27 106 (.iload 6) 2 := by decide +kernel
theorem d27_108 : oD27 108 (.iload 7) 2 := by decide +kernel
theorem d27_110 : oD27 110 (.invokestatic 98) 3 := by decide +kernel
theorem pd__II_C : parseMethodDescriptor "(II)C" = some ⟨[.int, .int], some .char⟩ := by decide +kernel
theorem d27_113 : oD27 113 (.invokestatic 64) 3 := by decide +kernel
theorem d27_116 : oD27 116 (.goto (-116)) 3 := by decide +kernel
def Q27b (Z : State) (a0 : Addr) (a3 : Addr) (kb : ClassId) (kd : ClassId) (xa : Int32) (xb : Int32) (tv : Int32) (ca : Int32) (h0 : Heap) (n0 : Nat) (v : Option Value) (h : Heap) (L : List Loc) : Prop := v = some (.int 2) ∧ Fr n0 L ∧ Keep h0 h [a3] ∧ Arv Z h a3 kd .byte (6 : Int32) [(.int (own_lo ca)), (.int (own_hi ca)), (.int (own_lo tv)), (.int (own_hi tv)), (.int 0), (.int 0)] (.int 0)
def P27b (Z : State) (a0 : Addr) (a3 : Addr) (kb : ClassId) (kd : ClassId) (xa : Int32) (xb : Int32) (tv : Int32) (ca : Int32) (h0 : Heap) (n0 : Nat) (s : State) (o : Outcome) (U' : State) : Prop := ∃ v L, o = .returned v ∧ Q27b Z a0 a3 kb kd xa xb tv ca h0 n0 v U'.heap L ∧ FrameEnd s o U' L oR10.cells oR10.slots
set_option maxRecDepth 65536 in
set_option maxHeartbeats 40000000 in
theorem rm27b (l : Launch) (Z : State) (aV : Array Value) (hw : ∀ d ∈ tables_1, d.before aV Z = true) (ws : List Jvm.Cond) (a0 : Addr) (a3 : Addr) (kb : ClassId) (kd : ClassId) (xa : Int32) (xb : Int32) (tv : Int32) (ca : Int32) (h0 : Heap) (n0 : Nat) (Z0 : n0 ≤ h0.size) (V_a0 : Arv Z h0 a0 kb .byte (3 : Int32) [(.int xa), (.int xb), (.int tv)] (.int 0)) (V_a3 : Arv Z h0 a3 kd .byte (6 : Int32) [(.int 0), (.int 0), (.int 0), (.int 0), (.int 0), (.int 0)] (.int 0)) (S__assertionsDisabled : Sta Z h0 "java/lang/StringUTF16" "$assertionsDisabled" "Z" (.int 1)) (S_HI_BYTE_SHIFT : Sta Z h0 "java/lang/StringUTF16" "HI_BYTE_SHIFT" "I" (.int 0)) (S_LO_BYTE_SHIFT : Sta Z h0 "java/lang/StringUTF16" "LO_BYTE_SHIFT" "I" (.int 8)) (ga : n0 ≤ a3) (nab : a0 ≠ a3) (hH : own_H1 xa xb ca) (hT : own_HT tv) :
    MetFree l oM38 (head1 (Jvm.Cond.code oM38 jdk_42_method_38_code 11 (some .int) :: ws) oR10) (fun a U => a = #[(.ref a0), (.int 0), (.int 3), (.ref a3), (.int 0), (.int 1)] ∧ Z.Warmed39 U.vm ∧ U.heap = h0) (fun _ _ _ _ _ => True) (fun _ U o U' => ∃ v L, o = .returned v ∧ Q27b Z a0 a3 kb kd xa xb tv ca h0 n0 v U'.heap L ∧ FrameEnd U o U' L oR10.cells oR10.slots) := by
  refine MetFree.of_bodySF (plainFor_of_name pn_java_lang_String) hisR ?_
  intro p e s m args below meth c s₁ Bd hml0 hP hK
  obtain ⟨rfl, hZ, hh⟩ := hP
  have hx := Bd.exec
  have hby := Bd.bytes
  have hml : c.maxLocals = 11 := hml0
  have hown : s.vm.findClass "java/lang/String" = some m.cls := findClass_of_methodNamed Bd.named
  have hnm := (name_of_methodNamed Bd.named Bd.method).1
  have X0 : Stand p l e oR10 s m #[(.ref a0), (.int 0), (.int 3), (.ref a3), (.int 0), (.int 1)] below meth c s₁ [] 0 0 := Stand.of_body Bd
  have e0 : s₁.heap = h0 := by rw [← hh, Bd.state]; rfl
  have efx : entryFrame m #[(.ref a0), (.int 0), (.int 3), (.ref a3), (.int 0), (.int 1)] 11 = mkF m 0 #[.val (.ref a0), .val (.int 0), .val (.int 3), .val (.ref a3), .val (.int 0), .val (.int 1), .unset, .unset, .unset, .unset, .unset] [] := by first | (simp [entryFrame, mkF, argsToLocals, Value.category]; done) | rfl
  have N0 := Fr.nil n0
  have K0 : Keep h0 h0 [a3] := Keep.refl h0 _
  refine OGo.start (g' := mkF m 0 #[.val (.ref a0), .val (.int 0), .val (.int 3), .val (.ref a3), .val (.int 0), .val (.int 1), .unset, .unset, .unset, .unset, .unset] []) (efx) ?_
  show OGo p.tables e below (P27b Z a0 a3 kb kd xa xb tv ca h0 n0 s) (s₁.setTop (mkF m 0 #[.val (.ref a0), .val (.int 0), .val (.int 3), .val (.ref a3), .val (.int 0), .val (.int 1), .unset, .unset, .unset, .unset, .unset] []))
  refine og (s₁.setTop (mkF m 10 #[.val (.ref a0), .val (.int 1), .val (.int 3), .val (.ref a3), .val (.int 0), .val (.int 1), .unset, .unset, .unset, .unset, .unset] [(.int 0), (.ref a0)])) ?_ (fun tX kX => XS.iloadN X0.here hx rfl (hb hby d27_0) rfl (XS.iloadN X0.here hx rfl (hb hby d27_1) rfl (XS.icmpNo X0.here hx rfl (hb hby d27_2) rfl (tlt (by decide)).2.1 (XS.aloadN X0.here hx rfl (hb hby d27_5) rfl rfl (XS.iloadN X0.here hx rfl (hb hby d27_6) rfl (XS.iinc X0.here hx rfl (hb hby d27_7) rfl (l' := #[.val (.ref a0), .val (.int 1), .val (.int 3), .val (.ref a3), .val (.int 0), .val (.int 1), .unset, .unset, .unset, .unset, .unset]) rfl kX))))))
  obtain ⟨cl1, Ar1, qa1, S1, N1', H1, G1⟩ := id V_a0
  have hin1 := inb_of (j := (0 : Int32)) S1 ⟨by decide, by decide⟩
  have hat1 := H1.at (v := (.int xa)) hin1 rfl
  refine og (s₁.setTop (mkF m 36 #[.val (.ref a0), .val (.int 1), .val (.int 3), .val (.ref a3), .val (.int 0), .val (.int 1), .val (.int xa), .unset, .unset, .unset, .unset] [(.int 5), (.int xa)])) ?_ (fun tX kX => X0.baloadBytes hx (j := (0 : Int32)) (v := (.int xa)) (by rw [e0]; exact Ar1.1) (State.isArrayOf_alike hZ.alike Ar1.2.1) Ar1.2.2 hin1 hat1 (g := (mkF m 10 #[.val (.ref a0), .val (.int 1), .val (.int 3), .val (.ref a3), .val (.int 0), .val (.int 1), .unset, .unset, .unset, .unset, .unset] [(.int 0), (.ref a0)])) rfl rfl (hb hby d27_10) _ (XS.istore X0.here hx rfl (hb hby d27_11) rfl (l' := #[.val (.ref a0), .val (.int 1), .val (.int 3), .val (.ref a3), .val (.int 0), .val (.int 1), .val (.int xa), .unset, .unset, .unset, .unset]) rfl (XS.iload X0.here hx rfl (hb hby d27_13) rfl (XS.ifYes X0.here hx rfl (pc0 := 15) (pc' := 33) rfl (hb hby d27_15) rfl ((if0 _ _).trans (tlt hH.1).1) (by decide) (by decide) (XS.iload X0.here hx rfl (hb hby d27_33) rfl (XS.iconst X0.here hx rfl (hb hby d27_35) kX))))))
  refine og (s₁.setTop (mkF m 47 #[.val (.ref a0), .val (.int 1), .val (.int 3), .val (.ref a3), .val (.int 0), .val (.int 1), .val (.int xa), .unset, .unset, .unset, .unset] [(.int (xa &&& (30 : Int32)))])) ?_ (fun tX kX => XS.ishr X0.here hx rfl (hb hby d27_36) rfl (XS.bipush X0.here hx rfl (hb hby d27_37) (XS.icmpNo X0.here hx rfl (hb hby d27_39) rfl (teq hH.2.2.1).2 (XS.iload X0.here hx rfl (hb hby d27_42) rfl (XS.bipush X0.here hx rfl (hb hby d27_44) (XS.iand X0.here hx rfl (hb hby d27_46) rfl kX))))))
  refine og (s₁.setTop (mkF m 57 #[.val (.ref a0), .val (.int 1), .val (.int 3), .val (.ref a3), .val (.int 0), .val (.int 1), .val (.int xa), .unset, .unset, .unset, .unset] [(.int 1), (.ref a0)])) ?_ (fun tX kX => XS.ifNo X0.here hx rfl (hb hby d27_47) rfl ((if0 _ _).trans (feq hH.2.2.2.1).1) (XS.iloadN X0.here hx rfl (hb hby d27_50) rfl (XS.iloadN X0.here hx rfl (hb hby d27_51) rfl (XS.icmpNo X0.here hx rfl (hb hby d27_52) rfl (tlt (by decide)).2.1 (XS.aloadN X0.here hx rfl (hb hby d27_55) rfl rfl (XS.iloadN X0.here hx rfl (hb hby d27_56) rfl kX))))))
  refine og (s₁.setTop (mkF m 60 #[.val (.ref a0), .val (.int 2), .val (.int 3), .val (.ref a3), .val (.int 0), .val (.int 1), .val (.int xa), .unset, .unset, .unset, .unset] [(.int 1), (.ref a0)])) ?_ (fun tX kX => XS.iinc X0.here hx rfl (hb hby d27_57) rfl (l' := #[.val (.ref a0), .val (.int 2), .val (.int 3), .val (.ref a3), .val (.int 0), .val (.int 1), .val (.int xa), .unset, .unset, .unset, .unset]) rfl kX)
  obtain ⟨cl2, Ar2, qa2, S2, N2', H2, G2⟩ := id V_a0
  have hin2 := inb_of (j := (1 : Int32)) S2 ⟨by decide, by decide⟩
  have hat2 := H2.at (v := (.int xb)) hin2 rfl
  refine og (s₁.setTop (mkF m 65 #[.val (.ref a0), .val (.int 2), .val (.int 3), .val (.ref a3), .val (.int 0), .val (.int 1), .val (.int xa), .val (.int xb), .unset, .unset, .unset] [(.int xb)])) ?_ (fun tX kX => X0.baloadBytes hx (j := (1 : Int32)) (v := (.int xb)) (by rw [e0]; exact Ar2.1) (State.isArrayOf_alike hZ.alike Ar2.2.1) Ar2.2.2 hin2 hat2 (g := (mkF m 60 #[.val (.ref a0), .val (.int 2), .val (.int 3), .val (.ref a3), .val (.int 0), .val (.int 1), .val (.int xa), .unset, .unset, .unset, .unset] [(.int 1), (.ref a0)])) rfl rfl (hb hby d27_60) _ (XS.istore X0.here hx rfl (hb hby d27_61) rfl (l' := #[.val (.ref a0), .val (.int 2), .val (.int 3), .val (.ref a3), .val (.int 0), .val (.int 1), .val (.int xa), .val (.int xb), .unset, .unset, .unset]) rfl (XS.iload X0.here hx rfl (hb hby d27_63) rfl kX)))
  obtain ⟨_, _, ⟨T3, L3, k3, n3⟩, -, X3, ⟨Lc3, hQ3, l3, y3, z3⟩, st3⟩ := Jvm.LawKit.callS X0 hx (y := oM6) hown (mvT hZ (oW hw 198 rfl)) (mvT hZ (oW hw 199 rfl)) (mvT hZ (oW hw 9 rfl)) (mvT hZ (oW hw 200 rfl)) (by decide) (backOf (W := 0) (rm42f l Z aV hw [] xb h0 n0 Z0 hH.2.2.2.2.1) hZ (oW hw 200 rfl) (oW hw 9 rfl) (by decide) (by decide)) (g := (mkF m 65 #[.val (.ref a0), .val (.int 2), .val (.int 3), .val (.ref a3), .val (.int 0), .val (.int 1), .val (.int xa), .val (.int xb), .unset, .unset, .unset] [(.int xb)])) rfl (by rw [hml]; rfl) (argsL := [(.int xb)]) (rest := []) (lenOf pd__I_Z rfl) rfl (by show 2 * 0 + _ ≤ _; exact Nat.le_of_eq rfl) (hb hby d27_65) (fun _ _ => ⟨rfl, e0, (by decide : 0 + 0 ≤ _), (by decide : 0 + 0 ≤ _)⟩)
  dsimp only [Pt.U, Pt.locs, Pt.cells, Pt.slots] at X3 l3 y3 z3 st3 hQ3
  subst l3 y3 z3
  obtain ⟨rfl, N3q, e3⟩ := hQ3
  have N3 := Fr.app N0 N3q
  refine og (T3.setTop (mkF m 68 #[.val (.ref a0), .val (.int 2), .val (.int 3), .val (.ref a3), .val (.int 0), .val (.int 1), .val (.int xa), .val (.int xb), .unset, .unset, .unset] [(.int 0)])) ?_ st3
  refine og (T3.setTop (mkF m 110 #[.val (.ref a0), .val (.int 2), .val (.int 3), .val (.ref a3), .val (.int 1), .val (.int 1), .val (.int xa), .val (.int xb), .unset, .unset, .unset] [(.int xb), (.int xa), (.int 0), (.ref a3)])) ?_ (fun tX kX => XS.ifYes X3.here hx rfl (pc0 := 68) (pc' := 100) rfl (hb hby d27_68) rfl ((if0 _ _).trans (teq (by decide)).1) (by decide) (by decide) (XS.aloadN X3.here hx rfl (hb hby d27_100) rfl rfl (XS.iload X3.here hx rfl (hb hby d27_101) rfl (XS.iinc X3.here hx rfl (hb hby d27_103) rfl (l' := #[.val (.ref a0), .val (.int 2), .val (.int 3), .val (.ref a3), .val (.int 1), .val (.int 1), .val (.int xa), .val (.int xb), .unset, .unset, .unset]) rfl (XS.iload X3.here hx rfl (hb hby d27_106) rfl (XS.iload X3.here hx rfl (hb hby d27_108) rfl kX))))))
  obtain ⟨_, _, ⟨T4, L4, k4, n4⟩, -, X4, ⟨Lc4, hQ4, l4, y4, z4⟩, st4⟩ := Jvm.LawKit.callS X3 hx (y := oM1) hown (mvT hZ (oW hw 88 rfl)) (mvT hZ (oW hw 89 rfl)) (mvT hZ (oW hw 9 rfl)) (mvT hZ (oW hw 90 rfl)) (by decide) (backOf (W := 2) (rm16 l Z aV hw [] xa xb h0 n0 Z0) hZ (oW hw 90 rfl) (oW hw 9 rfl) (by decide) (by decide)) (g := (mkF m 110 #[.val (.ref a0), .val (.int 2), .val (.int 3), .val (.ref a3), .val (.int 1), .val (.int 1), .val (.int xa), .val (.int xb), .unset, .unset, .unset] [(.int xb), (.int xa), (.int 0), (.ref a3)])) rfl (by rw [hml]; rfl) (argsL := [(.int xa), (.int xb)]) (rest := [(.int 0), (.ref a3)]) (lenOf pd__II_C rfl) rfl (by show 2 * 0 + _ ≤ _; exact Nat.le_of_eq rfl) (hb hby d27_110) (fun _ _ => ⟨rfl, e3, (by decide : 0 + 0 ≤ _), (by decide : 0 + 0 ≤ _)⟩)
  dsimp only [Pt.U, Pt.locs, Pt.cells, Pt.slots] at X4 l4 y4 z4 st4 hQ4
  subst l4 y4 z4
  obtain ⟨rfl, N4q, e4⟩ := hQ4
  have N4 := Fr.app N3 N4q
  refine og (T4.setTop (mkF m 113 #[.val (.ref a0), .val (.int 2), .val (.int 3), .val (.ref a3), .val (.int 1), .val (.int 1), .val (.int xa), .val (.int xb), .unset, .unset, .unset] [(.int (own_d2 xa xb)), (.int 0), (.ref a3)])) ?_ st4
  rw [hH.2.2.2.2.2]
  obtain ⟨_, _, ⟨T5, L5, k5, n5⟩, -, X5, ⟨Lc5, hQ5, l5, y5, z5⟩, st5⟩ := Jvm.LawKit.callS X4 hx (y := oM37) hown (mvT hZ (oW hw 145 rfl)) (mvT hZ (oW hw 146 rfl)) (mvT hZ (oW hw 106 rfl)) (mvT hZ (oW hw 147 rfl)) (by decide) (backOf (W := 0) (rm31 l Z aV hw [] a3 (0 : Int32) ca kd (6 : Int32) [(.int 0), (.int 0), (.int 0), (.int 0), (.int 0), (.int 0)] 0 h0 n0 Z0 V_a3 S__assertionsDisabled S_HI_BYTE_SHIFT S_LO_BYTE_SHIFT ga ⟨by decide, by decide⟩ ⟨by decide, by decide⟩ (by decide) (by decide) (Nat.le_of_ble_eq_true rfl)) hZ (oW hw 147 rfl) (oW hw 106 rfl) (by decide) (by decide)) (g := (mkF m 113 #[.val (.ref a0), .val (.int 2), .val (.int 3), .val (.ref a3), .val (.int 1), .val (.int 1), .val (.int xa), .val (.int xb), .unset, .unset, .unset] [(.int ca), (.int 0), (.ref a3)])) rfl (by rw [hml]; rfl) (argsL := [(.ref a3), (.int 0), (.int ca)]) (rest := []) (lenOf pd___BII_V rfl) rfl (by show 2 * 0 + _ ≤ _; exact Nat.le_of_eq rfl) (hb hby d27_113) (fun _ _ => ⟨rfl, e4, (by decide : 0 + 0 ≤ _), (by decide : 0 + 0 ≤ _)⟩)
  dsimp only [Pt.U, Pt.locs, Pt.cells, Pt.slots] at X5 l5 y5 z5 st5 hQ5
  subst l5 y5 z5
  obtain ⟨rfl, N5q, Kq5, V_a3_p⟩ := hQ5
  have N5 := Fr.app N4 N5q
  have S__assertionsDisabled := Sta.keepE S__assertionsDisabled Kq5 (staS (own_acell V_a3) (fun x hx' => nomatch hx'))
  have S_HI_BYTE_SHIFT := Sta.keepE S_HI_BYTE_SHIFT Kq5 (staS (own_acell V_a3) (fun x hx' => nomatch hx'))
  have S_LO_BYTE_SHIFT := Sta.keepE S_LO_BYTE_SHIFT Kq5 (staS (own_acell V_a3) (fun x hx' => nomatch hx'))
  have V_a0 := V_a0.keep Kq5 (ninS nab nin0)
  have K5 := K0.trans Kq5 (allS (P := fun x => x ∈ [a3] ∨ h0.size ≤ x) (Or.inl (List.mem_of_getElem? (i := 0) rfl)) all0)
  have zn5 : n0 ≤ T5.heap.size := Nat.le_trans Z0 Kq5.1
  have V_a3 := V_a3_p
  refine og (T5.setTop (mkF m 116 #[.val (.ref a0), .val (.int 2), .val (.int 3), .val (.ref a3), .val (.int 1), .val (.int 1), .val (.int xa), .val (.int xb), .unset, .unset, .unset] [])) ?_ st5
  have V_a3 : Arv Z T5.heap a3 kd .byte (6 : Int32) [(.int (own_lo ca)), (.int (own_hi ca)), (.int 0), (.int 0), (.int 0), (.int 0)] (.int 0) := V_a3
  refine og (T5.setTop (mkF m 7 #[.val (.ref a0), .val (.int 2), .val (.int 3), .val (.ref a3), .val (.int 1), .val (.int 1), .val (.int xa), .val (.int xb), .unset, .unset, .unset] [(.int 2), (.ref a0)])) ?_ (fun tX kX => XS.goto X5.here hx rfl (pc0 := 116) (pc' := 0) rfl (hb hby d27_116) (by decide) (by decide) (XS.iloadN X5.here hx rfl (hb hby d27_0) rfl (XS.iloadN X5.here hx rfl (hb hby d27_1) rfl (XS.icmpNo X5.here hx rfl (hb hby d27_2) rfl (tlt (by decide)).2.1 (XS.aloadN X5.here hx rfl (hb hby d27_5) rfl rfl (XS.iloadN X5.here hx rfl (hb hby d27_6) rfl kX))))))
  refine og (T5.setTop (mkF m 10 #[.val (.ref a0), .val (.int 3), .val (.int 3), .val (.ref a3), .val (.int 1), .val (.int 1), .val (.int xa), .val (.int xb), .unset, .unset, .unset] [(.int 2), (.ref a0)])) ?_ (fun tX kX => XS.iinc X5.here hx rfl (hb hby d27_7) rfl (l' := #[.val (.ref a0), .val (.int 3), .val (.int 3), .val (.ref a3), .val (.int 1), .val (.int 1), .val (.int xa), .val (.int xb), .unset, .unset, .unset]) rfl kX)
  obtain ⟨cl6, Ar6, qa6, S6, N6', H6, G6⟩ := id V_a0
  have hin6 := inb_of (j := (2 : Int32)) S6 ⟨by decide, by decide⟩
  have hat6 := H6.at (v := (.int tv)) hin6 rfl
  refine og (T5.setTop (mkF m 21 #[.val (.ref a0), .val (.int 3), .val (.int 3), .val (.ref a3), .val (.int 1), .val (.int 1), .val (.int tv), .val (.int xb), .unset, .unset, .unset] [(.int 1), (.ref a3)])) ?_ (fun tX kX => X5.baloadBytes hx (j := (2 : Int32)) (v := (.int tv)) Ar6.1 (State.isArrayOf_alike hZ.alike Ar6.2.1) Ar6.2.2 hin6 hat6 (g := (mkF m 10 #[.val (.ref a0), .val (.int 3), .val (.int 3), .val (.ref a3), .val (.int 1), .val (.int 1), .val (.int xa), .val (.int xb), .unset, .unset, .unset] [(.int 2), (.ref a0)])) rfl rfl (hb hby d27_10) _ (XS.istore X5.here hx rfl (hb hby d27_11) rfl (l' := #[.val (.ref a0), .val (.int 3), .val (.int 3), .val (.ref a3), .val (.int 1), .val (.int 1), .val (.int tv), .val (.int xb), .unset, .unset, .unset]) rfl (XS.iload X5.here hx rfl (hb hby d27_13) rfl (XS.ifNo X5.here hx rfl (hb hby d27_15) rfl ((if0 _ _).trans (flt hT.1).1) (XS.aloadN X5.here hx rfl (hb hby d27_18) rfl rfl (XS.iload X5.here hx rfl (hb hby d27_19) rfl kX))))))
  refine og (T5.setTop (mkF m 27 #[.val (.ref a0), .val (.int 3), .val (.int 3), .val (.ref a3), .val (.int 2), .val (.int 1), .val (.int tv), .val (.int xb), .unset, .unset, .unset] [(.int (tv.toUInt32.toUInt16.toUInt32.toInt32)), (.int 1), (.ref a3)])) ?_ (fun tX kX => XS.iinc X5.here hx rfl (hb hby d27_21) rfl (l' := #[.val (.ref a0), .val (.int 3), .val (.int 3), .val (.ref a3), .val (.int 2), .val (.int 1), .val (.int tv), .val (.int xb), .unset, .unset, .unset]) rfl (XS.iload X5.here hx rfl (hb hby d27_24) rfl (XS.i2c X5.here hx rfl (hb hby d27_26) rfl kX)))
  rw [hT.2.1]
  obtain ⟨_, _, ⟨T7, L7, k7, n7⟩, -, X7, ⟨Lc7, hQ7, l7, y7, z7⟩, st7⟩ := Jvm.LawKit.callS X5 hx (y := oM37) hown (mvT hZ (oW hw 145 rfl)) (mvT hZ (oW hw 146 rfl)) (mvT hZ (oW hw 106 rfl)) (mvT hZ (oW hw 147 rfl)) (by decide) (backOf (W := 0) (rm31 l Z aV hw [] a3 (1 : Int32) tv kd (6 : Int32) [(.int (own_lo ca)), (.int (own_hi ca)), (.int 0), (.int 0), (.int 0), (.int 0)] 2 T5.heap n0 zn5 V_a3 S__assertionsDisabled S_HI_BYTE_SHIFT S_LO_BYTE_SHIFT ga ⟨by decide, by decide⟩ ⟨by decide, by decide⟩ (by decide) (by decide) (Nat.le_of_ble_eq_true rfl)) hZ (oW hw 147 rfl) (oW hw 106 rfl) (by decide) (by decide)) (g := (mkF m 27 #[.val (.ref a0), .val (.int 3), .val (.int 3), .val (.ref a3), .val (.int 2), .val (.int 1), .val (.int tv), .val (.int xb), .unset, .unset, .unset] [(.int tv), (.int 1), (.ref a3)])) rfl (by rw [hml]; rfl) (argsL := [(.ref a3), (.int 1), (.int tv)]) (rest := []) (lenOf pd___BII_V rfl) rfl (by show 2 * 0 + _ ≤ _; exact Nat.le_of_eq rfl) (hb hby d27_27) (fun _ _ => ⟨rfl, rfl, (by decide : 0 + 0 ≤ _), (by decide : 0 + 0 ≤ _)⟩)
  dsimp only [Pt.U, Pt.locs, Pt.cells, Pt.slots] at X7 l7 y7 z7 st7 hQ7
  subst l7 y7 z7
  obtain ⟨rfl, N7q, Kq7, V_a3_p⟩ := hQ7
  have N7 := Fr.app N5 N7q
  have S__assertionsDisabled := Sta.keepE S__assertionsDisabled Kq7 (staS (own_acell V_a3) (fun x hx' => nomatch hx'))
  have S_HI_BYTE_SHIFT := Sta.keepE S_HI_BYTE_SHIFT Kq7 (staS (own_acell V_a3) (fun x hx' => nomatch hx'))
  have S_LO_BYTE_SHIFT := Sta.keepE S_LO_BYTE_SHIFT Kq7 (staS (own_acell V_a3) (fun x hx' => nomatch hx'))
  have V_a0 := V_a0.keep Kq7 (ninS nab nin0)
  have K7 := K5.trans Kq7 (allS (P := fun x => x ∈ [a3] ∨ h0.size ≤ x) (Or.inl (List.mem_of_getElem? (i := 0) rfl)) all0)
  have zn7 : n0 ≤ T7.heap.size := Nat.le_trans zn5 Kq7.1
  have V_a3 := V_a3_p
  refine og (T7.setTop (mkF m 30 #[.val (.ref a0), .val (.int 3), .val (.int 3), .val (.ref a3), .val (.int 2), .val (.int 1), .val (.int tv), .val (.int xb), .unset, .unset, .unset] [])) ?_ st7
  have V_a3 : Arv Z T7.heap a3 kd .byte (6 : Int32) [(.int (own_lo ca)), (.int (own_hi ca)), (.int (own_lo tv)), (.int (own_hi tv)), (.int 0), (.int 0)] (.int 0) := V_a3
  refine og (T7.setTop (mkF m 623 #[.val (.ref a0), .val (.int 3), .val (.int 3), .val (.ref a3), .val (.int 2), .val (.int 1), .val (.int tv), .val (.int xb), .unset, .unset, .unset] [(.int 2)])) ?_ (fun tX kX => XS.goto X7.here hx rfl (pc0 := 30) (pc' := 618) rfl (hb hby d27_30) (by decide) (by decide) (XS.goto X7.here hx rfl (pc0 := 618) (pc' := 0) rfl (hb hby d27_618) (by decide) (by decide) (XS.iloadN X7.here hx rfl (hb hby d27_0) rfl (XS.iloadN X7.here hx rfl (hb hby d27_1) rfl (XS.icmpYes X7.here hx rfl (pc0 := 2) (pc' := 621) rfl (hb hby d27_2) rfl (flt (by decide)).2.1 (by decide) (by decide) (XS.iload X7.here hx rfl (hb hby d27_621) rfl kX))))))
  refine OGo.ret X7 (v := (some (.int 2))) (fun h => by rw [Bd.returns] at h; cases h) (BodyLoose.notSynchronized Bd) (fun fs hr => retOut X7 hx Bd.returns rfl (Or.inl ⟨rfl, Or.inl rfl, _, rfl⟩) (hb hby d27_623) hr) (Q := Q27b Z a0 a3 kb kd xa xb tv ca h0 n0) ?_ (by decide) (by decide)
  show Q27b Z a0 a3 kb kd xa xb tv ca h0 n0 _ T7.heap _
  exact ⟨rfl, N7, K7, V_a3⟩
theorem d27_159 : oD27 159 (.aload_n 0) 1 := by decide +kernel
theorem d27_160 : oD27 160 (.iload_n 1) 1 := by decide +kernel
theorem d27_161 : oD27 161 (.iinc 1 1) 3 := by decide +kernel
theorem d27_164 : oD27 164 .baload 1 := by decide +kernel
theorem d27_165 : oD27 165 (.istore 7) 2 := by decide +kernel
theorem d27_167 : oD27 167 (.aload_n 0) 1 := by decide +kernel
theorem d27_168 : oD27 168 (.iload_n 1) 1 := by decide +kernel
theorem d27_169 : oD27 169 (.iinc 1 1) 3 := by decide +kernel
theorem d27_172 : oD27 172 .baload 1 := by decide +kernel
theorem d27_173 : oD27 173 (.istore 8) 2 := by decide +kernel
theorem d27_175 : oD27 175 (.iload 6) 2 := by decide +kernel
theorem d27_177 : oD27 177 (.iload 7) 2 := by decide +kernel
theorem d27_179 : oD27 179 (.iload 8) 2 := by decide +kernel
theorem d27_181 : oD27 181 (.invokestatic 392) 3 := by decide +kernel
theorem pd__III_Z : parseMethodDescriptor "(III)Z" = some ⟨[.int, .int, .int], some .boolean⟩ := by decide +kernel
theorem d27_184 : oD27 184 (.ifCond .eq 40) 3 := by decide +kernel
theorem d27_224 : oD27 224 (.iload 6) 2 := by decide +kernel
theorem d27_226 : oD27 226 (.iload 7) 2 := by decide +kernel
theorem d27_228 : oD27 228 (.iload 8) 2 := by decide +kernel
theorem d27_230 : oD27 230 (.invokestatic 400) 3 := by decide +kernel
theorem pd__III_C : parseMethodDescriptor "(III)C" = some ⟨[.int, .int, .int], some .char⟩ := by decide +kernel
theorem d27_233 : oD27 233 (.istore 9) 2 := by decide +kernel
theorem d27_235 : oD27 235 (.iload 9) 2 := by decide +kernel
theorem d27_237 : oD27 237 (.invokestatic 404) 3 := by decide +kernel
theorem pd__C_Z : parseMethodDescriptor "(C)Z" = some ⟨[.char], some .boolean⟩ := by decide +kernel
theorem d27_240 : oD27 240 (.ifCond .eq 29) 3 := by decide +kernel
theorem d27_269 : oD27 269 (.aload_n 3) 1 := by decide +kernel
theorem d27_270 : oD27 270 (.iload 4) 2 := by decide +kernel
theorem d27_272 : oD27 272 (.iinc 4 1) 3 := by decide +kernel
theorem d27_275 : oD27 275 (.iload 9) 2 := by decide +kernel
theorem d27_277 : oD27 277 (.invokestatic 64) 3 := by decide +kernel
theorem d27_280 : oD27 280 (.goto (-280)) 3 := by decide +kernel
def Q27c (Z : State) (a0 : Addr) (a3 : Addr) (kb : ClassId) (kd : ClassId) (xa : Int32) (xb : Int32) (xc : Int32) (tv : Int32) (ca : Int32) (h0 : Heap) (n0 : Nat) (v : Option Value) (h : Heap) (L : List Loc) : Prop := v = some (.int 2) ∧ Fr n0 L ∧ Keep h0 h [a3] ∧ Arv Z h a3 kd .byte (8 : Int32) [(.int (own_lo ca)), (.int (own_hi ca)), (.int (own_lo tv)), (.int (own_hi tv)), (.int 0), (.int 0), (.int 0), (.int 0)] (.int 0)
def P27c (Z : State) (a0 : Addr) (a3 : Addr) (kb : ClassId) (kd : ClassId) (xa : Int32) (xb : Int32) (xc : Int32) (tv : Int32) (ca : Int32) (h0 : Heap) (n0 : Nat) (s : State) (o : Outcome) (U' : State) : Prop := ∃ v L, o = .returned v ∧ Q27c Z a0 a3 kb kd xa xb xc tv ca h0 n0 v U'.heap L ∧ FrameEnd s o U' L oR2.cells oR2.slots
set_option maxRecDepth 65536 in
set_option maxHeartbeats 40000000 in
theorem rm27c (l : Launch) (Z : State) (aV : Array Value) (hw : ∀ d ∈ tables_1, d.before aV Z = true) (ws : List Jvm.Cond) (a0 : Addr) (a3 : Addr) (kb : ClassId) (kd : ClassId) (xa : Int32) (xb : Int32) (xc : Int32) (tv : Int32) (ca : Int32) (h0 : Heap) (n0 : Nat) (Z0 : n0 ≤ h0.size) (V_a0 : Arv Z h0 a0 kb .byte (4 : Int32) [(.int xa), (.int xb), (.int xc), (.int tv)] (.int 0)) (V_a3 : Arv Z h0 a3 kd .byte (8 : Int32) [(.int 0), (.int 0), (.int 0), (.int 0), (.int 0), (.int 0), (.int 0), (.int 0)] (.int 0)) (S__assertionsDisabled : Sta Z h0 "java/lang/StringUTF16" "$assertionsDisabled" "Z" (.int 1)) (S_HI_BYTE_SHIFT : Sta Z h0 "java/lang/StringUTF16" "HI_BYTE_SHIFT" "I" (.int 0)) (S_LO_BYTE_SHIFT : Sta Z h0 "java/lang/StringUTF16" "LO_BYTE_SHIFT" "I" (.int 8)) (ga : n0 ≤ a3) (nab : a0 ≠ a3) (hH : own_H2 xa xb xc ca) (hT : own_HT tv) :
    MetFree l oM38 (head1 (Jvm.Cond.code oM38 jdk_42_method_38_code 11 (some .int) :: ws) oR2) (fun a U => a = #[(.ref a0), (.int 0), (.int 4), (.ref a3), (.int 0), (.int 1)] ∧ Z.Warmed39 U.vm ∧ U.heap = h0) (fun _ _ _ _ _ => True) (fun _ U o U' => ∃ v L, o = .returned v ∧ Q27c Z a0 a3 kb kd xa xb xc tv ca h0 n0 v U'.heap L ∧ FrameEnd U o U' L oR2.cells oR2.slots) := by
  refine MetFree.of_bodySF (plainFor_of_name pn_java_lang_String) hisR ?_
  intro p e s m args below meth c s₁ Bd hml0 hP hK
  obtain ⟨rfl, hZ, hh⟩ := hP
  have hx := Bd.exec
  have hby := Bd.bytes
  have hml : c.maxLocals = 11 := hml0
  have hown : s.vm.findClass "java/lang/String" = some m.cls := findClass_of_methodNamed Bd.named
  have hnm := (name_of_methodNamed Bd.named Bd.method).1
  have X0 : Stand p l e oR2 s m #[(.ref a0), (.int 0), (.int 4), (.ref a3), (.int 0), (.int 1)] below meth c s₁ [] 0 0 := Stand.of_body Bd
  have e0 : s₁.heap = h0 := by rw [← hh, Bd.state]; rfl
  have efx : entryFrame m #[(.ref a0), (.int 0), (.int 4), (.ref a3), (.int 0), (.int 1)] 11 = mkF m 0 #[.val (.ref a0), .val (.int 0), .val (.int 4), .val (.ref a3), .val (.int 0), .val (.int 1), .unset, .unset, .unset, .unset, .unset] [] := by first | (simp [entryFrame, mkF, argsToLocals, Value.category]; done) | rfl
  have N0 := Fr.nil n0
  have K0 : Keep h0 h0 [a3] := Keep.refl h0 _
  refine OGo.start (g' := mkF m 0 #[.val (.ref a0), .val (.int 0), .val (.int 4), .val (.ref a3), .val (.int 0), .val (.int 1), .unset, .unset, .unset, .unset, .unset] []) (efx) ?_
  show OGo p.tables e below (P27c Z a0 a3 kb kd xa xb xc tv ca h0 n0 s) (s₁.setTop (mkF m 0 #[.val (.ref a0), .val (.int 0), .val (.int 4), .val (.ref a3), .val (.int 0), .val (.int 1), .unset, .unset, .unset, .unset, .unset] []))
  refine og (s₁.setTop (mkF m 10 #[.val (.ref a0), .val (.int 1), .val (.int 4), .val (.ref a3), .val (.int 0), .val (.int 1), .unset, .unset, .unset, .unset, .unset] [(.int 0), (.ref a0)])) ?_ (fun tX kX => XS.iloadN X0.here hx rfl (hb hby d27_0) rfl (XS.iloadN X0.here hx rfl (hb hby d27_1) rfl (XS.icmpNo X0.here hx rfl (hb hby d27_2) rfl (tlt (by decide)).2.1 (XS.aloadN X0.here hx rfl (hb hby d27_5) rfl rfl (XS.iloadN X0.here hx rfl (hb hby d27_6) rfl (XS.iinc X0.here hx rfl (hb hby d27_7) rfl (l' := #[.val (.ref a0), .val (.int 1), .val (.int 4), .val (.ref a3), .val (.int 0), .val (.int 1), .unset, .unset, .unset, .unset, .unset]) rfl kX))))))
  obtain ⟨cl1, Ar1, qa1, S1, N1', H1, G1⟩ := id V_a0
  have hin1 := inb_of (j := (0 : Int32)) S1 ⟨by decide, by decide⟩
  have hat1 := H1.at (v := (.int xa)) hin1 rfl
  refine og (s₁.setTop (mkF m 36 #[.val (.ref a0), .val (.int 1), .val (.int 4), .val (.ref a3), .val (.int 0), .val (.int 1), .val (.int xa), .unset, .unset, .unset, .unset] [(.int 5), (.int xa)])) ?_ (fun tX kX => X0.baloadBytes hx (j := (0 : Int32)) (v := (.int xa)) (by rw [e0]; exact Ar1.1) (State.isArrayOf_alike hZ.alike Ar1.2.1) Ar1.2.2 hin1 hat1 (g := (mkF m 10 #[.val (.ref a0), .val (.int 1), .val (.int 4), .val (.ref a3), .val (.int 0), .val (.int 1), .unset, .unset, .unset, .unset, .unset] [(.int 0), (.ref a0)])) rfl rfl (hb hby d27_10) _ (XS.istore X0.here hx rfl (hb hby d27_11) rfl (l' := #[.val (.ref a0), .val (.int 1), .val (.int 4), .val (.ref a3), .val (.int 0), .val (.int 1), .val (.int xa), .unset, .unset, .unset, .unset]) rfl (XS.iload X0.here hx rfl (hb hby d27_13) rfl (XS.ifYes X0.here hx rfl (pc0 := 15) (pc' := 33) rfl (hb hby d27_15) rfl ((if0 _ _).trans (tlt hH.1).1) (by decide) (by decide) (XS.iload X0.here hx rfl (hb hby d27_33) rfl (XS.iconst X0.here hx rfl (hb hby d27_35) kX))))))
  refine og (s₁.setTop (mkF m 147 #[.val (.ref a0), .val (.int 1), .val (.int 4), .val (.ref a3), .val (.int 0), .val (.int 1), .val (.int xa), .unset, .unset, .unset, .unset] [(.int (xa >>> ((4 : Int32) &&& 31)))])) ?_ (fun tX kX => XS.ishr X0.here hx rfl (hb hby d27_36) rfl (XS.bipush X0.here hx rfl (hb hby d27_37) (XS.icmpYes X0.here hx rfl (pc0 := 39) (pc' := 143) rfl (hb hby d27_39) rfl (feq hH.2.2.1).2 (by decide) (by decide) (XS.iload X0.here hx rfl (hb hby d27_143) rfl (XS.iconst X0.here hx rfl (hb hby d27_145) (XS.ishr X0.here hx rfl (hb hby d27_146) rfl kX))))))
  refine og (s₁.setTop (mkF m 156 #[.val (.ref a0), .val (.int 1), .val (.int 4), .val (.ref a3), .val (.int 0), .val (.int 1), .val (.int xa), .unset, .unset, .unset, .unset] [(.int 4), (.int 2)])) ?_ (fun tX kX => XS.bipush X0.here hx rfl (hb hby d27_147) (XS.icmpNo X0.here hx rfl (hb hby d27_149) rfl (teq hH.2.2.2.1).2 (XS.iloadN X0.here hx rfl (hb hby d27_152) rfl (XS.iconst X0.here hx rfl (hb hby d27_153) (XS.iadd X0.here hx rfl (hb hby d27_154) rfl (XS.iloadN X0.here hx rfl (hb hby d27_155) rfl kX))))))
  refine og (s₁.setTop (mkF m 164 #[.val (.ref a0), .val (.int 2), .val (.int 4), .val (.ref a3), .val (.int 0), .val (.int 1), .val (.int xa), .unset, .unset, .unset, .unset] [(.int 1), (.ref a0)])) ?_ (fun tX kX => XS.icmpNo X0.here hx rfl (hb hby d27_156) rfl (tlt (by decide)).2.1 (XS.aloadN X0.here hx rfl (hb hby d27_159) rfl rfl (XS.iloadN X0.here hx rfl (hb hby d27_160) rfl (XS.iinc X0.here hx rfl (hb hby d27_161) rfl (l' := #[.val (.ref a0), .val (.int 2), .val (.int 4), .val (.ref a3), .val (.int 0), .val (.int 1), .val (.int xa), .unset, .unset, .unset, .unset]) rfl kX))))
  obtain ⟨cl2, Ar2, qa2, S2, N2', H2, G2⟩ := id V_a0
  have hin2 := inb_of (j := (1 : Int32)) S2 ⟨by decide, by decide⟩
  have hat2 := H2.at (v := (.int xb)) hin2 rfl
  refine og (s₁.setTop (mkF m 172 #[.val (.ref a0), .val (.int 3), .val (.int 4), .val (.ref a3), .val (.int 0), .val (.int 1), .val (.int xa), .val (.int xb), .unset, .unset, .unset] [(.int 2), (.ref a0)])) ?_ (fun tX kX => X0.baloadBytes hx (j := (1 : Int32)) (v := (.int xb)) (by rw [e0]; exact Ar2.1) (State.isArrayOf_alike hZ.alike Ar2.2.1) Ar2.2.2 hin2 hat2 (g := (mkF m 164 #[.val (.ref a0), .val (.int 2), .val (.int 4), .val (.ref a3), .val (.int 0), .val (.int 1), .val (.int xa), .unset, .unset, .unset, .unset] [(.int 1), (.ref a0)])) rfl rfl (hb hby d27_164) _ (XS.istore X0.here hx rfl (hb hby d27_165) rfl (l' := #[.val (.ref a0), .val (.int 2), .val (.int 4), .val (.ref a3), .val (.int 0), .val (.int 1), .val (.int xa), .val (.int xb), .unset, .unset, .unset]) rfl (XS.aloadN X0.here hx rfl (hb hby d27_167) rfl rfl (XS.iloadN X0.here hx rfl (hb hby d27_168) rfl (XS.iinc X0.here hx rfl (hb hby d27_169) rfl (l' := #[.val (.ref a0), .val (.int 3), .val (.int 4), .val (.ref a3), .val (.int 0), .val (.int 1), .val (.int xa), .val (.int xb), .unset, .unset, .unset]) rfl kX)))))
  obtain ⟨cl3, Ar3, qa3, S3, N3', H3, G3⟩ := id V_a0
  have hin3 := inb_of (j := (2 : Int32)) S3 ⟨by decide, by decide⟩
  have hat3 := H3.at (v := (.int xc)) hin3 rfl
  refine og (s₁.setTop (mkF m 181 #[.val (.ref a0), .val (.int 3), .val (.int 4), .val (.ref a3), .val (.int 0), .val (.int 1), .val (.int xa), .val (.int xb), .val (.int xc), .unset, .unset] [(.int xc), (.int xb), (.int xa)])) ?_ (fun tX kX => X0.baloadBytes hx (j := (2 : Int32)) (v := (.int xc)) (by rw [e0]; exact Ar3.1) (State.isArrayOf_alike hZ.alike Ar3.2.1) Ar3.2.2 hin3 hat3 (g := (mkF m 172 #[.val (.ref a0), .val (.int 3), .val (.int 4), .val (.ref a3), .val (.int 0), .val (.int 1), .val (.int xa), .val (.int xb), .unset, .unset, .unset] [(.int 2), (.ref a0)])) rfl rfl (hb hby d27_172) _ (XS.istore X0.here hx rfl (hb hby d27_173) rfl (l' := #[.val (.ref a0), .val (.int 3), .val (.int 4), .val (.ref a3), .val (.int 0), .val (.int 1), .val (.int xa), .val (.int xb), .val (.int xc), .unset, .unset]) rfl (XS.iload X0.here hx rfl (hb hby d27_175) rfl (XS.iload X0.here hx rfl (hb hby d27_177) rfl (XS.iload X0.here hx rfl (hb hby d27_179) rfl kX)))))
  obtain ⟨_, _, ⟨T4, L4, k4, n4⟩, -, X4, ⟨Lc4, hQ4, l4, y4, z4⟩, st4⟩ := Jvm.LawKit.callS X0 hx (y := oM9) hown (mvT hZ (oW hw 133 rfl)) (mvT hZ (oW hw 134 rfl)) (mvT hZ (oW hw 9 rfl)) (mvT hZ (oW hw 135 rfl)) (by decide) (backOf (W := 0) (rm28 l Z aV hw [] xa xb xc h0 n0 Z0 hH.2.2.2.2.1 hH.2.2.2.2.2.1 hH.2.2.2.2.2.2.1) hZ (oW hw 135 rfl) (oW hw 9 rfl) (by decide) (by decide)) (g := (mkF m 181 #[.val (.ref a0), .val (.int 3), .val (.int 4), .val (.ref a3), .val (.int 0), .val (.int 1), .val (.int xa), .val (.int xb), .val (.int xc), .unset, .unset] [(.int xc), (.int xb), (.int xa)])) rfl (by rw [hml]; rfl) (argsL := [(.int xa), (.int xb), (.int xc)]) (rest := []) (lenOf pd__III_Z rfl) rfl (by show 2 * 0 + _ ≤ _; exact Nat.le_of_eq rfl) (hb hby d27_181) (fun _ _ => ⟨rfl, e0, (by decide : 0 + 0 ≤ _), (by decide : 0 + 0 ≤ _)⟩)
  dsimp only [Pt.U, Pt.locs, Pt.cells, Pt.slots] at X4 l4 y4 z4 st4 hQ4
  subst l4 y4 z4
  obtain ⟨rfl, N4q, e4⟩ := hQ4
  have N4 := Fr.app N0 N4q
  refine og (T4.setTop (mkF m 184 #[.val (.ref a0), .val (.int 3), .val (.int 4), .val (.ref a3), .val (.int 0), .val (.int 1), .val (.int xa), .val (.int xb), .val (.int xc), .unset, .unset] [(.int 0)])) ?_ st4
  refine og (T4.setTop (mkF m 230 #[.val (.ref a0), .val (.int 3), .val (.int 4), .val (.ref a3), .val (.int 0), .val (.int 1), .val (.int xa), .val (.int xb), .val (.int xc), .unset, .unset] [(.int xc), (.int xb), (.int xa)])) ?_ (fun tX kX => XS.ifYes X4.here hx rfl (pc0 := 184) (pc' := 224) rfl (hb hby d27_184) rfl ((if0 _ _).trans (teq (by decide)).1) (by decide) (by decide) (XS.iload X4.here hx rfl (hb hby d27_224) rfl (XS.iload X4.here hx rfl (hb hby d27_226) rfl (XS.iload X4.here hx rfl (hb hby d27_228) rfl kX))))
  obtain ⟨_, _, ⟨T5, L5, k5, n5⟩, -, X5, ⟨Lc5, hQ5, l5, y5, z5⟩, st5⟩ := Jvm.LawKit.callS X4 hx (y := oM2) hown (mvT hZ (oW hw 136 rfl)) (mvT hZ (oW hw 137 rfl)) (mvT hZ (oW hw 9 rfl)) (mvT hZ (oW hw 138 rfl)) (by decide) (backOf (W := 0) (rm29 l Z aV hw [] xa xb xc h0 n0 Z0) hZ (oW hw 138 rfl) (oW hw 9 rfl) (by decide) (by decide)) (g := (mkF m 230 #[.val (.ref a0), .val (.int 3), .val (.int 4), .val (.ref a3), .val (.int 0), .val (.int 1), .val (.int xa), .val (.int xb), .val (.int xc), .unset, .unset] [(.int xc), (.int xb), (.int xa)])) rfl (by rw [hml]; rfl) (argsL := [(.int xa), (.int xb), (.int xc)]) (rest := []) (lenOf pd__III_C rfl) rfl (by show 2 * 0 + _ ≤ _; exact Nat.le_of_eq rfl) (hb hby d27_230) (fun _ _ => ⟨rfl, e4, (by decide : 0 + 0 ≤ _), (by decide : 0 + 0 ≤ _)⟩)
  dsimp only [Pt.U, Pt.locs, Pt.cells, Pt.slots] at X5 l5 y5 z5 st5 hQ5
  subst l5 y5 z5
  obtain ⟨rfl, N5q, e5⟩ := hQ5
  have N5 := Fr.app N4 N5q
  refine og (T5.setTop (mkF m 233 #[.val (.ref a0), .val (.int 3), .val (.int 4), .val (.ref a3), .val (.int 0), .val (.int 1), .val (.int xa), .val (.int xb), .val (.int xc), .unset, .unset] [(.int (own_d3 xa xb xc))])) ?_ st5
  rw [hH.2.2.2.2.2.2.2.1]
  refine og (T5.setTop (mkF m 237 #[.val (.ref a0), .val (.int 3), .val (.int 4), .val (.ref a3), .val (.int 0), .val (.int 1), .val (.int xa), .val (.int xb), .val (.int xc), .val (.int ca), .unset] [(.int ca)])) ?_ (fun tX kX => XS.istore X5.here hx rfl (hb hby d27_233) rfl (l' := #[.val (.ref a0), .val (.int 3), .val (.int 4), .val (.ref a3), .val (.int 0), .val (.int 1), .val (.int xa), .val (.int xb), .val (.int xc), .val (.int ca), .unset]) rfl (XS.iload X5.here hx rfl (hb hby d27_235) rfl kX))
  obtain ⟨_, _, ⟨T6, L6, k6, n6⟩, -, X6, ⟨Lc6, hQ6, l6, y6, z6⟩, st6⟩ := Jvm.LawKit.callS X5 hx (y := oM10) hown (mvT hZ (oW hw 140 rfl)) (mvT hZ (oW hw 141 rfl)) (mvT hZ (oW hw 142 rfl)) (mvT hZ (oW hw 143 rfl)) (by decide) (backOf (W := 0) (rm30 l Z aV hw [] ca h0 n0 Z0 hH.2.2.2.2.2.2.2.2) hZ (oW hw 143 rfl) (oW hw 142 rfl) (by decide) (by decide)) (g := (mkF m 237 #[.val (.ref a0), .val (.int 3), .val (.int 4), .val (.ref a3), .val (.int 0), .val (.int 1), .val (.int xa), .val (.int xb), .val (.int xc), .val (.int ca), .unset] [(.int ca)])) rfl (by rw [hml]; rfl) (argsL := [(.int ca)]) (rest := []) (lenOf pd__C_Z rfl) rfl (by show 2 * 0 + _ ≤ _; exact Nat.le_of_eq rfl) (hb hby d27_237) (fun _ _ => ⟨rfl, e5, (by decide : 0 + 0 ≤ _), (by decide : 0 + 0 ≤ _)⟩)
  dsimp only [Pt.U, Pt.locs, Pt.cells, Pt.slots] at X6 l6 y6 z6 st6 hQ6
  subst l6 y6 z6
  obtain ⟨rfl, N6q, e6⟩ := hQ6
  have N6 := Fr.app N5 N6q
  refine og (T6.setTop (mkF m 240 #[.val (.ref a0), .val (.int 3), .val (.int 4), .val (.ref a3), .val (.int 0), .val (.int 1), .val (.int xa), .val (.int xb), .val (.int xc), .val (.int ca), .unset] [(.int 0)])) ?_ st6
  refine og (T6.setTop (mkF m 277 #[.val (.ref a0), .val (.int 3), .val (.int 4), .val (.ref a3), .val (.int 1), .val (.int 1), .val (.int xa), .val (.int xb), .val (.int xc), .val (.int ca), .unset] [(.int ca), (.int 0), (.ref a3)])) ?_ (fun tX kX => XS.ifYes X6.here hx rfl (pc0 := 240) (pc' := 269) rfl (hb hby d27_240) rfl ((if0 _ _).trans (teq (by decide)).1) (by decide) (by decide) (XS.aloadN X6.here hx rfl (hb hby d27_269) rfl rfl (XS.iload X6.here hx rfl (hb hby d27_270) rfl (XS.iinc X6.here hx rfl (hb hby d27_272) rfl (l' := #[.val (.ref a0), .val (.int 3), .val (.int 4), .val (.ref a3), .val (.int 1), .val (.int 1), .val (.int xa), .val (.int xb), .val (.int xc), .val (.int ca), .unset]) rfl (XS.iload X6.here hx rfl (hb hby d27_275) rfl kX)))))
  obtain ⟨_, _, ⟨T7, L7, k7, n7⟩, -, X7, ⟨Lc7, hQ7, l7, y7, z7⟩, st7⟩ := Jvm.LawKit.callS X6 hx (y := oM37) hown (mvT hZ (oW hw 145 rfl)) (mvT hZ (oW hw 146 rfl)) (mvT hZ (oW hw 106 rfl)) (mvT hZ (oW hw 147 rfl)) (by decide) (backOf (W := 0) (rm31 l Z aV hw [] a3 (0 : Int32) ca kd (8 : Int32) [(.int 0), (.int 0), (.int 0), (.int 0), (.int 0), (.int 0), (.int 0), (.int 0)] 0 h0 n0 Z0 V_a3 S__assertionsDisabled S_HI_BYTE_SHIFT S_LO_BYTE_SHIFT ga ⟨by decide, by decide⟩ ⟨by decide, by decide⟩ (by decide) (by decide) (Nat.le_of_ble_eq_true rfl)) hZ (oW hw 147 rfl) (oW hw 106 rfl) (by decide) (by decide)) (g := (mkF m 277 #[.val (.ref a0), .val (.int 3), .val (.int 4), .val (.ref a3), .val (.int 1), .val (.int 1), .val (.int xa), .val (.int xb), .val (.int xc), .val (.int ca), .unset] [(.int ca), (.int 0), (.ref a3)])) rfl (by rw [hml]; rfl) (argsL := [(.ref a3), (.int 0), (.int ca)]) (rest := []) (lenOf pd___BII_V rfl) rfl (by show 2 * 0 + _ ≤ _; exact Nat.le_of_eq rfl) (hb hby d27_277) (fun _ _ => ⟨rfl, e6, (by decide : 0 + 0 ≤ _), (by decide : 0 + 0 ≤ _)⟩)
  dsimp only [Pt.U, Pt.locs, Pt.cells, Pt.slots] at X7 l7 y7 z7 st7 hQ7
  subst l7 y7 z7
  obtain ⟨rfl, N7q, Kq7, V_a3_p⟩ := hQ7
  have N7 := Fr.app N6 N7q
  have S__assertionsDisabled := Sta.keepE S__assertionsDisabled Kq7 (staS (own_acell V_a3) (fun x hx' => nomatch hx'))
  have S_HI_BYTE_SHIFT := Sta.keepE S_HI_BYTE_SHIFT Kq7 (staS (own_acell V_a3) (fun x hx' => nomatch hx'))
  have S_LO_BYTE_SHIFT := Sta.keepE S_LO_BYTE_SHIFT Kq7 (staS (own_acell V_a3) (fun x hx' => nomatch hx'))
  have V_a0 := V_a0.keep Kq7 (ninS nab nin0)
  have K7 := K0.trans Kq7 (allS (P := fun x => x ∈ [a3] ∨ h0.size ≤ x) (Or.inl (List.mem_of_getElem? (i := 0) rfl)) all0)
  have zn7 : n0 ≤ T7.heap.size := Nat.le_trans Z0 Kq7.1
  have V_a3 := V_a3_p
  refine og (T7.setTop (mkF m 280 #[.val (.ref a0), .val (.int 3), .val (.int 4), .val (.ref a3), .val (.int 1), .val (.int 1), .val (.int xa), .val (.int xb), .val (.int xc), .val (.int ca), .unset] [])) ?_ st7
  have V_a3 : Arv Z T7.heap a3 kd .byte (8 : Int32) [(.int (own_lo ca)), (.int (own_hi ca)), (.int 0), (.int 0), (.int 0), (.int 0), (.int 0), (.int 0)] (.int 0) := V_a3
  refine og (T7.setTop (mkF m 7 #[.val (.ref a0), .val (.int 3), .val (.int 4), .val (.ref a3), .val (.int 1), .val (.int 1), .val (.int xa), .val (.int xb), .val (.int xc), .val (.int ca), .unset] [(.int 3), (.ref a0)])) ?_ (fun tX kX => XS.goto X7.here hx rfl (pc0 := 280) (pc' := 0) rfl (hb hby d27_280) (by decide) (by decide) (XS.iloadN X7.here hx rfl (hb hby d27_0) rfl (XS.iloadN X7.here hx rfl (hb hby d27_1) rfl (XS.icmpNo X7.here hx rfl (hb hby d27_2) rfl (tlt (by decide)).2.1 (XS.aloadN X7.here hx rfl (hb hby d27_5) rfl rfl (XS.iloadN X7.here hx rfl (hb hby d27_6) rfl kX))))))
  refine og (T7.setTop (mkF m 10 #[.val (.ref a0), .val (.int 4), .val (.int 4), .val (.ref a3), .val (.int 1), .val (.int 1), .val (.int xa), .val (.int xb), .val (.int xc), .val (.int ca), .unset] [(.int 3), (.ref a0)])) ?_ (fun tX kX => XS.iinc X7.here hx rfl (hb hby d27_7) rfl (l' := #[.val (.ref a0), .val (.int 4), .val (.int 4), .val (.ref a3), .val (.int 1), .val (.int 1), .val (.int xa), .val (.int xb), .val (.int xc), .val (.int ca), .unset]) rfl kX)
  obtain ⟨cl8, Ar8, qa8, S8, N8', H8, G8⟩ := id V_a0
  have hin8 := inb_of (j := (3 : Int32)) S8 ⟨by decide, by decide⟩
  have hat8 := H8.at (v := (.int tv)) hin8 rfl
  refine og (T7.setTop (mkF m 21 #[.val (.ref a0), .val (.int 4), .val (.int 4), .val (.ref a3), .val (.int 1), .val (.int 1), .val (.int tv), .val (.int xb), .val (.int xc), .val (.int ca), .unset] [(.int 1), (.ref a3)])) ?_ (fun tX kX => X7.baloadBytes hx (j := (3 : Int32)) (v := (.int tv)) Ar8.1 (State.isArrayOf_alike hZ.alike Ar8.2.1) Ar8.2.2 hin8 hat8 (g := (mkF m 10 #[.val (.ref a0), .val (.int 4), .val (.int 4), .val (.ref a3), .val (.int 1), .val (.int 1), .val (.int xa), .val (.int xb), .val (.int xc), .val (.int ca), .unset] [(.int 3), (.ref a0)])) rfl rfl (hb hby d27_10) _ (XS.istore X7.here hx rfl (hb hby d27_11) rfl (l' := #[.val (.ref a0), .val (.int 4), .val (.int 4), .val (.ref a3), .val (.int 1), .val (.int 1), .val (.int tv), .val (.int xb), .val (.int xc), .val (.int ca), .unset]) rfl (XS.iload X7.here hx rfl (hb hby d27_13) rfl (XS.ifNo X7.here hx rfl (hb hby d27_15) rfl ((if0 _ _).trans (flt hT.1).1) (XS.aloadN X7.here hx rfl (hb hby d27_18) rfl rfl (XS.iload X7.here hx rfl (hb hby d27_19) rfl kX))))))
  refine og (T7.setTop (mkF m 27 #[.val (.ref a0), .val (.int 4), .val (.int 4), .val (.ref a3), .val (.int 2), .val (.int 1), .val (.int tv), .val (.int xb), .val (.int xc), .val (.int ca), .unset] [(.int (tv.toUInt32.toUInt16.toUInt32.toInt32)), (.int 1), (.ref a3)])) ?_ (fun tX kX => XS.iinc X7.here hx rfl (hb hby d27_21) rfl (l' := #[.val (.ref a0), .val (.int 4), .val (.int 4), .val (.ref a3), .val (.int 2), .val (.int 1), .val (.int tv), .val (.int xb), .val (.int xc), .val (.int ca), .unset]) rfl (XS.iload X7.here hx rfl (hb hby d27_24) rfl (XS.i2c X7.here hx rfl (hb hby d27_26) rfl kX)))
  rw [hT.2.1]
  obtain ⟨_, _, ⟨T9, L9, k9, n9⟩, -, X9, ⟨Lc9, hQ9, l9, y9, z9⟩, st9⟩ := Jvm.LawKit.callS X7 hx (y := oM37) hown (mvT hZ (oW hw 145 rfl)) (mvT hZ (oW hw 146 rfl)) (mvT hZ (oW hw 106 rfl)) (mvT hZ (oW hw 147 rfl)) (by decide) (backOf (W := 0) (rm31 l Z aV hw [] a3 (1 : Int32) tv kd (8 : Int32) [(.int (own_lo ca)), (.int (own_hi ca)), (.int 0), (.int 0), (.int 0), (.int 0), (.int 0), (.int 0)] 2 T7.heap n0 zn7 V_a3 S__assertionsDisabled S_HI_BYTE_SHIFT S_LO_BYTE_SHIFT ga ⟨by decide, by decide⟩ ⟨by decide, by decide⟩ (by decide) (by decide) (Nat.le_of_ble_eq_true rfl)) hZ (oW hw 147 rfl) (oW hw 106 rfl) (by decide) (by decide)) (g := (mkF m 27 #[.val (.ref a0), .val (.int 4), .val (.int 4), .val (.ref a3), .val (.int 2), .val (.int 1), .val (.int tv), .val (.int xb), .val (.int xc), .val (.int ca), .unset] [(.int tv), (.int 1), (.ref a3)])) rfl (by rw [hml]; rfl) (argsL := [(.ref a3), (.int 1), (.int tv)]) (rest := []) (lenOf pd___BII_V rfl) rfl (by show 2 * 0 + _ ≤ _; exact Nat.le_of_eq rfl) (hb hby d27_27) (fun _ _ => ⟨rfl, rfl, (by decide : 0 + 0 ≤ _), (by decide : 0 + 0 ≤ _)⟩)
  dsimp only [Pt.U, Pt.locs, Pt.cells, Pt.slots] at X9 l9 y9 z9 st9 hQ9
  subst l9 y9 z9
  obtain ⟨rfl, N9q, Kq9, V_a3_p⟩ := hQ9
  have N9 := Fr.app N7 N9q
  have S__assertionsDisabled := Sta.keepE S__assertionsDisabled Kq9 (staS (own_acell V_a3) (fun x hx' => nomatch hx'))
  have S_HI_BYTE_SHIFT := Sta.keepE S_HI_BYTE_SHIFT Kq9 (staS (own_acell V_a3) (fun x hx' => nomatch hx'))
  have S_LO_BYTE_SHIFT := Sta.keepE S_LO_BYTE_SHIFT Kq9 (staS (own_acell V_a3) (fun x hx' => nomatch hx'))
  have V_a0 := V_a0.keep Kq9 (ninS nab nin0)
  have K9 := K7.trans Kq9 (allS (P := fun x => x ∈ [a3] ∨ h0.size ≤ x) (Or.inl (List.mem_of_getElem? (i := 0) rfl)) all0)
  have zn9 : n0 ≤ T9.heap.size := Nat.le_trans zn7 Kq9.1
  have V_a3 := V_a3_p
  refine og (T9.setTop (mkF m 30 #[.val (.ref a0), .val (.int 4), .val (.int 4), .val (.ref a3), .val (.int 2), .val (.int 1), .val (.int tv), .val (.int xb), .val (.int xc), .val (.int ca), .unset] [])) ?_ st9
  have V_a3 : Arv Z T9.heap a3 kd .byte (8 : Int32) [(.int (own_lo ca)), (.int (own_hi ca)), (.int (own_lo tv)), (.int (own_hi tv)), (.int 0), (.int 0), (.int 0), (.int 0)] (.int 0) := V_a3
  refine og (T9.setTop (mkF m 623 #[.val (.ref a0), .val (.int 4), .val (.int 4), .val (.ref a3), .val (.int 2), .val (.int 1), .val (.int tv), .val (.int xb), .val (.int xc), .val (.int ca), .unset] [(.int 2)])) ?_ (fun tX kX => XS.goto X9.here hx rfl (pc0 := 30) (pc' := 618) rfl (hb hby d27_30) (by decide) (by decide) (XS.goto X9.here hx rfl (pc0 := 618) (pc' := 0) rfl (hb hby d27_618) (by decide) (by decide) (XS.iloadN X9.here hx rfl (hb hby d27_0) rfl (XS.iloadN X9.here hx rfl (hb hby d27_1) rfl (XS.icmpYes X9.here hx rfl (pc0 := 2) (pc' := 621) rfl (hb hby d27_2) rfl (flt (by decide)).2.1 (by decide) (by decide) (XS.iload X9.here hx rfl (hb hby d27_621) rfl kX))))))
  refine OGo.ret X9 (v := (some (.int 2))) (fun h => by rw [Bd.returns] at h; cases h) (BodyLoose.notSynchronized Bd) (fun fs hr => retOut X9 hx Bd.returns rfl (Or.inl ⟨rfl, Or.inl rfl, _, rfl⟩) (hb hby d27_623) hr) (Q := Q27c Z a0 a3 kb kd xa xb xc tv ca h0 n0) ?_ (by decide) (by decide)
  show Q27c Z a0 a3 kb kd xa xb xc tv ca h0 n0 _ T9.heap _
  exact ⟨rfl, N9, K9, V_a3⟩
theorem d27_365 : oD27 365 (.aload_n 0) 1 := by decide +kernel
theorem d27_366 : oD27 366 (.iload_n 1) 1 := by decide +kernel
theorem d27_367 : oD27 367 (.iinc 1 1) 3 := by decide +kernel
theorem d27_370 : oD27 370 .baload 1 := by decide +kernel
theorem d27_371 : oD27 371 (.istore 7) 2 := by decide +kernel
theorem d27_373 : oD27 373 (.aload_n 0) 1 := by decide +kernel
theorem d27_374 : oD27 374 (.iload_n 1) 1 := by decide +kernel
theorem d27_375 : oD27 375 (.iinc 1 1) 3 := by decide +kernel
theorem d27_378 : oD27 378 .baload 1 := by decide +kernel
theorem d27_379 : oD27 379 (.istore 8) 2 := by decide +kernel
theorem d27_381 : oD27 381 (.aload_n 0) 1 := by decide +kernel
theorem d27_382 : oD27 382 (.iload_n 1) 1 := by decide +kernel
theorem d27_383 : oD27 383 (.iinc 1 1) 3 := by decide +kernel
theorem d27_386 : oD27 386 .baload 1 := by decide +kernel
theorem d27_387 : oD27 387 (.istore 9) 2 := by decide +kernel
theorem d27_389 : oD27 389 (.iload 6) 2 := by decide +kernel
theorem d27_391 : oD27 391 (.iload 7) 2 := by decide +kernel
theorem d27_393 : oD27 393 (.iload 8) 2 := by decide +kernel
theorem d27_395 : oD27 395 (.iload 9) 2 := by decide +kernel
theorem d27_397 : oD27 397 (.invokestatic 411) 3 := by decide +kernel
theorem pd__IIII_I : parseMethodDescriptor "(IIII)I" = some ⟨[.int, .int, .int, .int], some .int⟩ := by decide +kernel
theorem d27_400 : oD27 400 (.istore 10) 2 := by decide +kernel
theorem d27_402 : oD27 402 (.iload 7) 2 := by decide +kernel
theorem d27_404 : oD27 404 (.iload 8) 2 := by decide +kernel
theorem d27_406 : oD27 406 (.iload 9) 2 := by decide +kernel
theorem d27_408 : oD27 408 (.invokestatic 415) 3 := by decide +kernel
theorem d27_411 : oD27 411 (.ifCond .ne 11) 3 := by decide +kernel
theorem d27_414 : oD27 414 (.iload 10) 2 := by decide +kernel
theorem d27_416 : oD27 416 (.invokestatic 418) 3 := by decide +kernel
theorem d27_419 : oD27 419 (.ifCond .ne 40) 3 := by decide +kernel
theorem d27_459 : oD27 459 (.aload_n 3) 1 := by decide +kernel
theorem d27_460 : oD27 460 (.iload 4) 2 := by decide +kernel
theorem d27_462 : oD27 462 (.iinc 4 1) 3 := by decide +kernel
theorem d27_465 : oD27 465 (.iload 10) 2 := by decide +kernel
theorem d27_467 : oD27 467 (.invokestatic 424) 3 := by decide +kernel
theorem d27_470 : oD27 470 (.invokestatic 64) 3 := by decide +kernel
theorem d27_473 : oD27 473 (.aload_n 3) 1 := by decide +kernel
theorem d27_474 : oD27 474 (.iload 4) 2 := by decide +kernel
theorem d27_476 : oD27 476 (.iinc 4 1) 3 := by decide +kernel
theorem d27_479 : oD27 479 (.iload 10) 2 := by decide +kernel
theorem d27_481 : oD27 481 (.invokestatic 428) 3 := by decide +kernel
theorem d27_484 : oD27 484 (.invokestatic 64) 3 := by decide +kernel
theorem d27_487 : oD27 487 (.goto (-487)) 3 := by decide +kernel
def Q27d (Z : State) (a0 : Addr) (a3 : Addr) (kb : ClassId) (kd : ClassId) (xa : Int32) (xb : Int32) (xc : Int32) (xd : Int32) (tv : Int32) (cq : Int32) (ca : Int32) (cb : Int32) (h0 : Heap) (n0 : Nat) (v : Option Value) (h : Heap) (L : List Loc) : Prop := v = some (.int 3) ∧ Fr n0 L ∧ Keep h0 h [a3] ∧ Arv Z h a3 kd .byte (10 : Int32) [(.int (own_lo ca)), (.int (own_hi ca)), (.int (own_lo cb)), (.int (own_hi cb)), (.int (own_lo tv)), (.int (own_hi tv)), (.int 0), (.int 0), (.int 0), (.int 0)] (.int 0)
def P27d (Z : State) (a0 : Addr) (a3 : Addr) (kb : ClassId) (kd : ClassId) (xa : Int32) (xb : Int32) (xc : Int32) (xd : Int32) (tv : Int32) (cq : Int32) (ca : Int32) (cb : Int32) (h0 : Heap) (n0 : Nat) (s : State) (o : Outcome) (U' : State) : Prop := ∃ v L, o = .returned v ∧ Q27d Z a0 a3 kb kd xa xb xc xd tv cq ca cb h0 n0 v U'.heap L ∧ FrameEnd s o U' L oR10.cells oR10.slots
set_option maxRecDepth 65536 in
set_option maxHeartbeats 40000000 in
theorem rm27d (l : Launch) (Z : State) (aV : Array Value) (hw : ∀ d ∈ tables_1, d.before aV Z = true) (ws : List Jvm.Cond) (a0 : Addr) (a3 : Addr) (kb : ClassId) (kd : ClassId) (xa : Int32) (xb : Int32) (xc : Int32) (xd : Int32) (tv : Int32) (cq : Int32) (ca : Int32) (cb : Int32) (h0 : Heap) (n0 : Nat) (Z0 : n0 ≤ h0.size) (V_a0 : Arv Z h0 a0 kb .byte (5 : Int32) [(.int xa), (.int xb), (.int xc), (.int xd), (.int tv)] (.int 0)) (V_a3 : Arv Z h0 a3 kd .byte (10 : Int32) [(.int 0), (.int 0), (.int 0), (.int 0), (.int 0), (.int 0), (.int 0), (.int 0), (.int 0), (.int 0)] (.int 0)) (S__assertionsDisabled : Sta Z h0 "java/lang/StringUTF16" "$assertionsDisabled" "Z" (.int 1)) (S_HI_BYTE_SHIFT : Sta Z h0 "java/lang/StringUTF16" "HI_BYTE_SHIFT" "I" (.int 0)) (S_LO_BYTE_SHIFT : Sta Z h0 "java/lang/StringUTF16" "LO_BYTE_SHIFT" "I" (.int 8)) (ga : n0 ≤ a3) (nab : a0 ≠ a3) (hH : own_H3 xa xb xc xd cq ca cb) (hT : own_HT tv) :
    MetFree l oM38 (head1 (Jvm.Cond.code oM38 jdk_42_method_38_code 11 (some .int) :: ws) oR10) (fun a U => a = #[(.ref a0), (.int 0), (.int 5), (.ref a3), (.int 0), (.int 1)] ∧ Z.Warmed39 U.vm ∧ U.heap = h0) (fun _ _ _ _ _ => True) (fun _ U o U' => ∃ v L, o = .returned v ∧ Q27d Z a0 a3 kb kd xa xb xc xd tv cq ca cb h0 n0 v U'.heap L ∧ FrameEnd U o U' L oR10.cells oR10.slots) := by
  refine MetFree.of_bodySF (plainFor_of_name pn_java_lang_String) hisR ?_
  intro p e s m args below meth c s₁ Bd hml0 hP hK
  obtain ⟨rfl, hZ, hh⟩ := hP
  have hx := Bd.exec
  have hby := Bd.bytes
  have hml : c.maxLocals = 11 := hml0
  have hown : s.vm.findClass "java/lang/String" = some m.cls := findClass_of_methodNamed Bd.named
  have hnm := (name_of_methodNamed Bd.named Bd.method).1
  have X0 : Stand p l e oR10 s m #[(.ref a0), (.int 0), (.int 5), (.ref a3), (.int 0), (.int 1)] below meth c s₁ [] 0 0 := Stand.of_body Bd
  have e0 : s₁.heap = h0 := by rw [← hh, Bd.state]; rfl
  have efx : entryFrame m #[(.ref a0), (.int 0), (.int 5), (.ref a3), (.int 0), (.int 1)] 11 = mkF m 0 #[.val (.ref a0), .val (.int 0), .val (.int 5), .val (.ref a3), .val (.int 0), .val (.int 1), .unset, .unset, .unset, .unset, .unset] [] := by first | (simp [entryFrame, mkF, argsToLocals, Value.category]; done) | rfl
  have N0 := Fr.nil n0
  have K0 : Keep h0 h0 [a3] := Keep.refl h0 _
  refine OGo.start (g' := mkF m 0 #[.val (.ref a0), .val (.int 0), .val (.int 5), .val (.ref a3), .val (.int 0), .val (.int 1), .unset, .unset, .unset, .unset, .unset] []) (efx) ?_
  show OGo p.tables e below (P27d Z a0 a3 kb kd xa xb xc xd tv cq ca cb h0 n0 s) (s₁.setTop (mkF m 0 #[.val (.ref a0), .val (.int 0), .val (.int 5), .val (.ref a3), .val (.int 0), .val (.int 1), .unset, .unset, .unset, .unset, .unset] []))
  refine og (s₁.setTop (mkF m 10 #[.val (.ref a0), .val (.int 1), .val (.int 5), .val (.ref a3), .val (.int 0), .val (.int 1), .unset, .unset, .unset, .unset, .unset] [(.int 0), (.ref a0)])) ?_ (fun tX kX => XS.iloadN X0.here hx rfl (hb hby d27_0) rfl (XS.iloadN X0.here hx rfl (hb hby d27_1) rfl (XS.icmpNo X0.here hx rfl (hb hby d27_2) rfl (tlt (by decide)).2.1 (XS.aloadN X0.here hx rfl (hb hby d27_5) rfl rfl (XS.iloadN X0.here hx rfl (hb hby d27_6) rfl (XS.iinc X0.here hx rfl (hb hby d27_7) rfl (l' := #[.val (.ref a0), .val (.int 1), .val (.int 5), .val (.ref a3), .val (.int 0), .val (.int 1), .unset, .unset, .unset, .unset, .unset]) rfl kX))))))
  obtain ⟨cl1, Ar1, qa1, S1, N1', H1, G1⟩ := id V_a0
  have hin1 := inb_of (j := (0 : Int32)) S1 ⟨by decide, by decide⟩
  have hat1 := H1.at (v := (.int xa)) hin1 rfl
  refine og (s₁.setTop (mkF m 36 #[.val (.ref a0), .val (.int 1), .val (.int 5), .val (.ref a3), .val (.int 0), .val (.int 1), .val (.int xa), .unset, .unset, .unset, .unset] [(.int 5), (.int xa)])) ?_ (fun tX kX => X0.baloadBytes hx (j := (0 : Int32)) (v := (.int xa)) (by rw [e0]; exact Ar1.1) (State.isArrayOf_alike hZ.alike Ar1.2.1) Ar1.2.2 hin1 hat1 (g := (mkF m 10 #[.val (.ref a0), .val (.int 1), .val (.int 5), .val (.ref a3), .val (.int 0), .val (.int 1), .unset, .unset, .unset, .unset, .unset] [(.int 0), (.ref a0)])) rfl rfl (hb hby d27_10) _ (XS.istore X0.here hx rfl (hb hby d27_11) rfl (l' := #[.val (.ref a0), .val (.int 1), .val (.int 5), .val (.ref a3), .val (.int 0), .val (.int 1), .val (.int xa), .unset, .unset, .unset, .unset]) rfl (XS.iload X0.here hx rfl (hb hby d27_13) rfl (XS.ifYes X0.here hx rfl (pc0 := 15) (pc' := 33) rfl (hb hby d27_15) rfl ((if0 _ _).trans (tlt hH.1).1) (by decide) (by decide) (XS.iload X0.here hx rfl (hb hby d27_33) rfl (XS.iconst X0.here hx rfl (hb hby d27_35) kX))))))
  refine og (s₁.setTop (mkF m 147 #[.val (.ref a0), .val (.int 1), .val (.int 5), .val (.ref a3), .val (.int 0), .val (.int 1), .val (.int xa), .unset, .unset, .unset, .unset] [(.int (xa >>> ((4 : Int32) &&& 31)))])) ?_ (fun tX kX => XS.ishr X0.here hx rfl (hb hby d27_36) rfl (XS.bipush X0.here hx rfl (hb hby d27_37) (XS.icmpYes X0.here hx rfl (pc0 := 39) (pc' := 143) rfl (hb hby d27_39) rfl (feq hH.2.2.1).2 (by decide) (by decide) (XS.iload X0.here hx rfl (hb hby d27_143) rfl (XS.iconst X0.here hx rfl (hb hby d27_145) (XS.ishr X0.here hx rfl (hb hby d27_146) rfl kX))))))
  refine og (s₁.setTop (mkF m 355 #[.val (.ref a0), .val (.int 1), .val (.int 5), .val (.ref a3), .val (.int 0), .val (.int 1), .val (.int xa), .unset, .unset, .unset, .unset] [(.int (-2)), (.int (xa >>> ((3 : Int32) &&& 31)))])) ?_ (fun tX kX => XS.bipush X0.here hx rfl (hb hby d27_147) (XS.icmpYes X0.here hx rfl (pc0 := 149) (pc' := 349) rfl (hb hby d27_149) rfl (feq hH.2.2.2.1).2 (by decide) (by decide) (XS.iload X0.here hx rfl (hb hby d27_349) rfl (XS.iconst X0.here hx rfl (hb hby d27_351) (XS.ishr X0.here hx rfl (hb hby d27_352) rfl (XS.bipush X0.here hx rfl (hb hby d27_353) kX))))))
  refine og (s₁.setTop (mkF m 365 #[.val (.ref a0), .val (.int 1), .val (.int 5), .val (.ref a3), .val (.int 0), .val (.int 1), .val (.int xa), .unset, .unset, .unset, .unset] [])) ?_ (fun tX kX => XS.icmpNo X0.here hx rfl (hb hby d27_355) rfl (teq hH.2.2.2.2.1).2 (XS.iloadN X0.here hx rfl (hb hby d27_358) rfl (XS.iconst X0.here hx rfl (hb hby d27_359) (XS.iadd X0.here hx rfl (hb hby d27_360) rfl (XS.iloadN X0.here hx rfl (hb hby d27_361) rfl (XS.icmpNo X0.here hx rfl (hb hby d27_362) rfl (tlt (by decide)).2.1 kX))))))
  refine og (s₁.setTop (mkF m 370 #[.val (.ref a0), .val (.int 2), .val (.int 5), .val (.ref a3), .val (.int 0), .val (.int 1), .val (.int xa), .unset, .unset, .unset, .unset] [(.int 1), (.ref a0)])) ?_ (fun tX kX => XS.aloadN X0.here hx rfl (hb hby d27_365) rfl rfl (XS.iloadN X0.here hx rfl (hb hby d27_366) rfl (XS.iinc X0.here hx rfl (hb hby d27_367) rfl (l' := #[.val (.ref a0), .val (.int 2), .val (.int 5), .val (.ref a3), .val (.int 0), .val (.int 1), .val (.int xa), .unset, .unset, .unset, .unset]) rfl kX)))
  obtain ⟨cl2, Ar2, qa2, S2, N2', H2, G2⟩ := id V_a0
  have hin2 := inb_of (j := (1 : Int32)) S2 ⟨by decide, by decide⟩
  have hat2 := H2.at (v := (.int xb)) hin2 rfl
  refine og (s₁.setTop (mkF m 378 #[.val (.ref a0), .val (.int 3), .val (.int 5), .val (.ref a3), .val (.int 0), .val (.int 1), .val (.int xa), .val (.int xb), .unset, .unset, .unset] [(.int 2), (.ref a0)])) ?_ (fun tX kX => X0.baloadBytes hx (j := (1 : Int32)) (v := (.int xb)) (by rw [e0]; exact Ar2.1) (State.isArrayOf_alike hZ.alike Ar2.2.1) Ar2.2.2 hin2 hat2 (g := (mkF m 370 #[.val (.ref a0), .val (.int 2), .val (.int 5), .val (.ref a3), .val (.int 0), .val (.int 1), .val (.int xa), .unset, .unset, .unset, .unset] [(.int 1), (.ref a0)])) rfl rfl (hb hby d27_370) _ (XS.istore X0.here hx rfl (hb hby d27_371) rfl (l' := #[.val (.ref a0), .val (.int 2), .val (.int 5), .val (.ref a3), .val (.int 0), .val (.int 1), .val (.int xa), .val (.int xb), .unset, .unset, .unset]) rfl (XS.aloadN X0.here hx rfl (hb hby d27_373) rfl rfl (XS.iloadN X0.here hx rfl (hb hby d27_374) rfl (XS.iinc X0.here hx rfl (hb hby d27_375) rfl (l' := #[.val (.ref a0), .val (.int 3), .val (.int 5), .val (.ref a3), .val (.int 0), .val (.int 1), .val (.int xa), .val (.int xb), .unset, .unset, .unset]) rfl kX)))))
  obtain ⟨cl3, Ar3, qa3, S3, N3', H3, G3⟩ := id V_a0
  have hin3 := inb_of (j := (2 : Int32)) S3 ⟨by decide, by decide⟩
  have hat3 := H3.at (v := (.int xc)) hin3 rfl
  refine og (s₁.setTop (mkF m 386 #[.val (.ref a0), .val (.int 4), .val (.int 5), .val (.ref a3), .val (.int 0), .val (.int 1), .val (.int xa), .val (.int xb), .val (.int xc), .unset, .unset] [(.int 3), (.ref a0)])) ?_ (fun tX kX => X0.baloadBytes hx (j := (2 : Int32)) (v := (.int xc)) (by rw [e0]; exact Ar3.1) (State.isArrayOf_alike hZ.alike Ar3.2.1) Ar3.2.2 hin3 hat3 (g := (mkF m 378 #[.val (.ref a0), .val (.int 3), .val (.int 5), .val (.ref a3), .val (.int 0), .val (.int 1), .val (.int xa), .val (.int xb), .unset, .unset, .unset] [(.int 2), (.ref a0)])) rfl rfl (hb hby d27_378) _ (XS.istore X0.here hx rfl (hb hby d27_379) rfl (l' := #[.val (.ref a0), .val (.int 3), .val (.int 5), .val (.ref a3), .val (.int 0), .val (.int 1), .val (.int xa), .val (.int xb), .val (.int xc), .unset, .unset]) rfl (XS.aloadN X0.here hx rfl (hb hby d27_381) rfl rfl (XS.iloadN X0.here hx rfl (hb hby d27_382) rfl (XS.iinc X0.here hx rfl (hb hby d27_383) rfl (l' := #[.val (.ref a0), .val (.int 4), .val (.int 5), .val (.ref a3), .val (.int 0), .val (.int 1), .val (.int xa), .val (.int xb), .val (.int xc), .unset, .unset]) rfl kX)))))
  obtain ⟨cl4, Ar4, qa4, S4, N4', H4, G4⟩ := id V_a0
  have hin4 := inb_of (j := (3 : Int32)) S4 ⟨by decide, by decide⟩
  have hat4 := H4.at (v := (.int xd)) hin4 rfl
  refine og (s₁.setTop (mkF m 397 #[.val (.ref a0), .val (.int 4), .val (.int 5), .val (.ref a3), .val (.int 0), .val (.int 1), .val (.int xa), .val (.int xb), .val (.int xc), .val (.int xd), .unset] [(.int xd), (.int xc), (.int xb), (.int xa)])) ?_ (fun tX kX => X0.baloadBytes hx (j := (3 : Int32)) (v := (.int xd)) (by rw [e0]; exact Ar4.1) (State.isArrayOf_alike hZ.alike Ar4.2.1) Ar4.2.2 hin4 hat4 (g := (mkF m 386 #[.val (.ref a0), .val (.int 4), .val (.int 5), .val (.ref a3), .val (.int 0), .val (.int 1), .val (.int xa), .val (.int xb), .val (.int xc), .unset, .unset] [(.int 3), (.ref a0)])) rfl rfl (hb hby d27_386) _ (XS.istore X0.here hx rfl (hb hby d27_387) rfl (l' := #[.val (.ref a0), .val (.int 4), .val (.int 5), .val (.ref a3), .val (.int 0), .val (.int 1), .val (.int xa), .val (.int xb), .val (.int xc), .val (.int xd), .unset]) rfl (XS.iload X0.here hx rfl (hb hby d27_389) rfl (XS.iload X0.here hx rfl (hb hby d27_391) rfl (XS.iload X0.here hx rfl (hb hby d27_393) rfl (XS.iload X0.here hx rfl (hb hby d27_395) rfl kX))))))
  obtain ⟨_, _, ⟨T5, L5, k5, n5⟩, -, X5, ⟨Lc5, hQ5, l5, y5, z5⟩, st5⟩ := Jvm.LawKit.callS X0 hx (y := oM3) hown (mvT hZ (oW hw 177 rfl)) (mvT hZ (oW hw 178 rfl)) (mvT hZ (oW hw 9 rfl)) (mvT hZ (oW hw 179 rfl)) (by decide) (backOf (W := 0) (rm37 l Z aV hw [] xa xb xc xd h0 n0 Z0) hZ (oW hw 179 rfl) (oW hw 9 rfl) (by decide) (by decide)) (g := (mkF m 397 #[.val (.ref a0), .val (.int 4), .val (.int 5), .val (.ref a3), .val (.int 0), .val (.int 1), .val (.int xa), .val (.int xb), .val (.int xc), .val (.int xd), .unset] [(.int xd), (.int xc), (.int xb), (.int xa)])) rfl (by rw [hml]; rfl) (argsL := [(.int xa), (.int xb), (.int xc), (.int xd)]) (rest := []) (lenOf pd__IIII_I rfl) rfl (by show 2 * 0 + _ ≤ _; exact Nat.le_of_eq rfl) (hb hby d27_397) (fun _ _ => ⟨rfl, e0, (by decide : 0 + 0 ≤ _), (by decide : 0 + 0 ≤ _)⟩)
  dsimp only [Pt.U, Pt.locs, Pt.cells, Pt.slots] at X5 l5 y5 z5 st5 hQ5
  subst l5 y5 z5
  obtain ⟨rfl, N5q, e5⟩ := hQ5
  have N5 := Fr.app N0 N5q
  refine og (T5.setTop (mkF m 400 #[.val (.ref a0), .val (.int 4), .val (.int 5), .val (.ref a3), .val (.int 0), .val (.int 1), .val (.int xa), .val (.int xb), .val (.int xc), .val (.int xd), .unset] [(.int (own_d4 xa xb xc xd))])) ?_ st5
  rw [hH.2.2.2.2.2.2.2.2.1]
  refine og (T5.setTop (mkF m 408 #[.val (.ref a0), .val (.int 4), .val (.int 5), .val (.ref a3), .val (.int 0), .val (.int 1), .val (.int xa), .val (.int xb), .val (.int xc), .val (.int xd), .val (.int cq)] [(.int xd), (.int xc), (.int xb)])) ?_ (fun tX kX => XS.istore X5.here hx rfl (hb hby d27_400) rfl (l' := #[.val (.ref a0), .val (.int 4), .val (.int 5), .val (.ref a3), .val (.int 0), .val (.int 1), .val (.int xa), .val (.int xb), .val (.int xc), .val (.int xd), .val (.int cq)]) rfl (XS.iload X5.here hx rfl (hb hby d27_402) rfl (XS.iload X5.here hx rfl (hb hby d27_404) rfl (XS.iload X5.here hx rfl (hb hby d27_406) rfl kX))))
  obtain ⟨_, _, ⟨T6, L6, k6, n6⟩, -, X6, ⟨Lc6, hQ6, l6, y6, z6⟩, st6⟩ := Jvm.LawKit.callS X5 hx (y := oM11) hown (mvT hZ (oW hw 181 rfl)) (mvT hZ (oW hw 182 rfl)) (mvT hZ (oW hw 9 rfl)) (mvT hZ (oW hw 183 rfl)) (by decide) (backOf (W := 0) (rm38 l Z aV hw [] xb xc xd h0 n0 Z0 hH.2.2.2.2.2.1 hH.2.2.2.2.2.2.1 hH.2.2.2.2.2.2.2.1) hZ (oW hw 183 rfl) (oW hw 9 rfl) (by decide) (by decide)) (g := (mkF m 408 #[.val (.ref a0), .val (.int 4), .val (.int 5), .val (.ref a3), .val (.int 0), .val (.int 1), .val (.int xa), .val (.int xb), .val (.int xc), .val (.int xd), .val (.int cq)] [(.int xd), (.int xc), (.int xb)])) rfl (by rw [hml]; rfl) (argsL := [(.int xb), (.int xc), (.int xd)]) (rest := []) (lenOf pd__III_Z rfl) rfl (by show 2 * 0 + _ ≤ _; exact Nat.le_of_eq rfl) (hb hby d27_408) (fun _ _ => ⟨rfl, e5, (by decide : 0 + 0 ≤ _), (by decide : 0 + 0 ≤ _)⟩)
  dsimp only [Pt.U, Pt.locs, Pt.cells, Pt.slots] at X6 l6 y6 z6 st6 hQ6
  subst l6 y6 z6
  obtain ⟨rfl, N6q, e6⟩ := hQ6
  have N6 := Fr.app N5 N6q
  refine og (T6.setTop (mkF m 411 #[.val (.ref a0), .val (.int 4), .val (.int 5), .val (.ref a3), .val (.int 0), .val (.int 1), .val (.int xa), .val (.int xb), .val (.int xc), .val (.int xd), .val (.int cq)] [(.int 0)])) ?_ st6
  refine og (T6.setTop (mkF m 416 #[.val (.ref a0), .val (.int 4), .val (.int 5), .val (.ref a3), .val (.int 0), .val (.int 1), .val (.int xa), .val (.int xb), .val (.int xc), .val (.int xd), .val (.int cq)] [(.int cq)])) ?_ (fun tX kX => XS.ifNo X6.here hx rfl (hb hby d27_411) rfl ((if0 _ _).trans (teq (by decide)).2) (XS.iload X6.here hx rfl (hb hby d27_414) rfl kX))
  obtain ⟨_, _, ⟨T7, L7, k7, n7⟩, -, X7, ⟨Lc7, hQ7, l7, y7, z7⟩, st7⟩ := Jvm.LawKit.callS X6 hx (y := oM12) hown (mvT hZ (oW hw 184 rfl)) (mvT hZ (oW hw 185 rfl)) (mvT hZ (oW hw 142 rfl)) (mvT hZ (oW hw 186 rfl)) (by decide) (backOf (W := 0) (rm39 l Z aV hw [] cq h0 n0 Z0 hH.2.2.2.2.2.2.2.2.2.1 hH.2.2.2.2.2.2.2.2.2.2.1) hZ (oW hw 186 rfl) (oW hw 142 rfl) (by decide) (by decide)) (g := (mkF m 416 #[.val (.ref a0), .val (.int 4), .val (.int 5), .val (.ref a3), .val (.int 0), .val (.int 1), .val (.int xa), .val (.int xb), .val (.int xc), .val (.int xd), .val (.int cq)] [(.int cq)])) rfl (by rw [hml]; rfl) (argsL := [(.int cq)]) (rest := []) (lenOf pd__I_Z rfl) rfl (by show 2 * 0 + _ ≤ _; exact Nat.le_of_eq rfl) (hb hby d27_416) (fun _ _ => ⟨rfl, e6, (by decide : 0 + 0 ≤ _), (by decide : 0 + 0 ≤ _)⟩)
  dsimp only [Pt.U, Pt.locs, Pt.cells, Pt.slots] at X7 l7 y7 z7 st7 hQ7
  subst l7 y7 z7
  obtain ⟨rfl, N7q, e7⟩ := hQ7
  have N7 := Fr.app N6 N7q
  refine og (T7.setTop (mkF m 419 #[.val (.ref a0), .val (.int 4), .val (.int 5), .val (.ref a3), .val (.int 0), .val (.int 1), .val (.int xa), .val (.int xb), .val (.int xc), .val (.int xd), .val (.int cq)] [(.int 1)])) ?_ st7
  refine og (T7.setTop (mkF m 467 #[.val (.ref a0), .val (.int 4), .val (.int 5), .val (.ref a3), .val (.int 1), .val (.int 1), .val (.int xa), .val (.int xb), .val (.int xc), .val (.int xd), .val (.int cq)] [(.int cq), (.int 0), (.ref a3)])) ?_ (fun tX kX => XS.ifYes X7.here hx rfl (pc0 := 419) (pc' := 459) rfl (hb hby d27_419) rfl ((if0 _ _).trans (feq (by decide)).2) (by decide) (by decide) (XS.aloadN X7.here hx rfl (hb hby d27_459) rfl rfl (XS.iload X7.here hx rfl (hb hby d27_460) rfl (XS.iinc X7.here hx rfl (hb hby d27_462) rfl (l' := #[.val (.ref a0), .val (.int 4), .val (.int 5), .val (.ref a3), .val (.int 1), .val (.int 1), .val (.int xa), .val (.int xb), .val (.int xc), .val (.int xd), .val (.int cq)]) rfl (XS.iload X7.here hx rfl (hb hby d27_465) rfl kX)))))
  obtain ⟨_, _, ⟨T8, L8, k8, n8⟩, -, X8, ⟨Lc8, hQ8, l8, y8, z8⟩, st8⟩ := Jvm.LawKit.callS X7 hx (y := oM4) hown (mvT hZ (oW hw 189 rfl)) (mvT hZ (oW hw 190 rfl)) (mvT hZ (oW hw 142 rfl)) (mvT hZ (oW hw 191 rfl)) (by decide) (backOf (W := 2) (rm40 l Z aV hw [] cq h0 n0 Z0) hZ (oW hw 191 rfl) (oW hw 142 rfl) (by decide) (by decide)) (g := (mkF m 467 #[.val (.ref a0), .val (.int 4), .val (.int 5), .val (.ref a3), .val (.int 1), .val (.int 1), .val (.int xa), .val (.int xb), .val (.int xc), .val (.int xd), .val (.int cq)] [(.int cq), (.int 0), (.ref a3)])) rfl (by rw [hml]; rfl) (argsL := [(.int cq)]) (rest := [(.int 0), (.ref a3)]) (lenOf pd__I_C rfl) rfl (by show 2 * 0 + _ ≤ _; exact Nat.le_of_eq rfl) (hb hby d27_467) (fun _ _ => ⟨rfl, e7, (by decide : 0 + 0 ≤ _), (by decide : 0 + 0 ≤ _)⟩)
  dsimp only [Pt.U, Pt.locs, Pt.cells, Pt.slots] at X8 l8 y8 z8 st8 hQ8
  subst l8 y8 z8
  obtain ⟨rfl, N8q, e8⟩ := hQ8
  have N8 := Fr.app N7 N8q
  refine og (T8.setTop (mkF m 470 #[.val (.ref a0), .val (.int 4), .val (.int 5), .val (.ref a3), .val (.int 1), .val (.int 1), .val (.int xa), .val (.int xb), .val (.int xc), .val (.int xd), .val (.int cq)] [(.int (own_hs cq)), (.int 0), (.ref a3)])) ?_ st8
  rw [hH.2.2.2.2.2.2.2.2.2.2.2.1]
  obtain ⟨_, _, ⟨T9, L9, k9, n9⟩, -, X9, ⟨Lc9, hQ9, l9, y9, z9⟩, st9⟩ := Jvm.LawKit.callS X8 hx (y := oM37) hown (mvT hZ (oW hw 145 rfl)) (mvT hZ (oW hw 146 rfl)) (mvT hZ (oW hw 106 rfl)) (mvT hZ (oW hw 147 rfl)) (by decide) (backOf (W := 0) (rm31 l Z aV hw [] a3 (0 : Int32) ca kd (10 : Int32) [(.int 0), (.int 0), (.int 0), (.int 0), (.int 0), (.int 0), (.int 0), (.int 0), (.int 0), (.int 0)] 0 h0 n0 Z0 V_a3 S__assertionsDisabled S_HI_BYTE_SHIFT S_LO_BYTE_SHIFT ga ⟨by decide, by decide⟩ ⟨by decide, by decide⟩ (by decide) (by decide) (Nat.le_of_ble_eq_true rfl)) hZ (oW hw 147 rfl) (oW hw 106 rfl) (by decide) (by decide)) (g := (mkF m 470 #[.val (.ref a0), .val (.int 4), .val (.int 5), .val (.ref a3), .val (.int 1), .val (.int 1), .val (.int xa), .val (.int xb), .val (.int xc), .val (.int xd), .val (.int cq)] [(.int ca), (.int 0), (.ref a3)])) rfl (by rw [hml]; rfl) (argsL := [(.ref a3), (.int 0), (.int ca)]) (rest := []) (lenOf pd___BII_V rfl) rfl (by show 2 * 0 + _ ≤ _; exact Nat.le_of_eq rfl) (hb hby d27_470) (fun _ _ => ⟨rfl, e8, (by decide : 0 + 0 ≤ _), (by decide : 0 + 0 ≤ _)⟩)
  dsimp only [Pt.U, Pt.locs, Pt.cells, Pt.slots] at X9 l9 y9 z9 st9 hQ9
  subst l9 y9 z9
  obtain ⟨rfl, N9q, Kq9, V_a3_p⟩ := hQ9
  have N9 := Fr.app N8 N9q
  have S__assertionsDisabled := Sta.keepE S__assertionsDisabled Kq9 (staS (own_acell V_a3) (fun x hx' => nomatch hx'))
  have S_HI_BYTE_SHIFT := Sta.keepE S_HI_BYTE_SHIFT Kq9 (staS (own_acell V_a3) (fun x hx' => nomatch hx'))
  have S_LO_BYTE_SHIFT := Sta.keepE S_LO_BYTE_SHIFT Kq9 (staS (own_acell V_a3) (fun x hx' => nomatch hx'))
  have V_a0 := V_a0.keep Kq9 (ninS nab nin0)
  have K9 := K0.trans Kq9 (allS (P := fun x => x ∈ [a3] ∨ h0.size ≤ x) (Or.inl (List.mem_of_getElem? (i := 0) rfl)) all0)
  have zn9 : n0 ≤ T9.heap.size := Nat.le_trans Z0 Kq9.1
  have V_a3 := V_a3_p
  refine og (T9.setTop (mkF m 473 #[.val (.ref a0), .val (.int 4), .val (.int 5), .val (.ref a3), .val (.int 1), .val (.int 1), .val (.int xa), .val (.int xb), .val (.int xc), .val (.int xd), .val (.int cq)] [])) ?_ st9
  have V_a3 : Arv Z T9.heap a3 kd .byte (10 : Int32) [(.int (own_lo ca)), (.int (own_hi ca)), (.int 0), (.int 0), (.int 0), (.int 0), (.int 0), (.int 0), (.int 0), (.int 0)] (.int 0) := V_a3
  refine og (T9.setTop (mkF m 481 #[.val (.ref a0), .val (.int 4), .val (.int 5), .val (.ref a3), .val (.int 2), .val (.int 1), .val (.int xa), .val (.int xb), .val (.int xc), .val (.int xd), .val (.int cq)] [(.int cq), (.int 1), (.ref a3)])) ?_ (fun tX kX => XS.aloadN X9.here hx rfl (hb hby d27_473) rfl rfl (XS.iload X9.here hx rfl (hb hby d27_474) rfl (XS.iinc X9.here hx rfl (hb hby d27_476) rfl (l' := #[.val (.ref a0), .val (.int 4), .val (.int 5), .val (.ref a3), .val (.int 2), .val (.int 1), .val (.int xa), .val (.int xb), .val (.int xc), .val (.int xd), .val (.int cq)]) rfl (XS.iload X9.here hx rfl (hb hby d27_479) rfl kX))))
  obtain ⟨_, _, ⟨T10, L10, k10, n10⟩, -, X10, ⟨Lc10, hQ10, l10, y10, z10⟩, st10⟩ := Jvm.LawKit.callS X9 hx (y := oM5) hown (mvT hZ (oW hw 193 rfl)) (mvT hZ (oW hw 194 rfl)) (mvT hZ (oW hw 142 rfl)) (mvT hZ (oW hw 195 rfl)) (by decide) (backOf (W := 2) (rm41 l Z aV hw [] cq T9.heap n0 zn9) hZ (oW hw 195 rfl) (oW hw 142 rfl) (by decide) (by decide)) (g := (mkF m 481 #[.val (.ref a0), .val (.int 4), .val (.int 5), .val (.ref a3), .val (.int 2), .val (.int 1), .val (.int xa), .val (.int xb), .val (.int xc), .val (.int xd), .val (.int cq)] [(.int cq), (.int 1), (.ref a3)])) rfl (by rw [hml]; rfl) (argsL := [(.int cq)]) (rest := [(.int 1), (.ref a3)]) (lenOf pd__I_C rfl) rfl (by show 2 * 0 + _ ≤ _; exact Nat.le_of_eq rfl) (hb hby d27_481) (fun _ _ => ⟨rfl, rfl, (by decide : 0 + 0 ≤ _), (by decide : 0 + 0 ≤ _)⟩)
  dsimp only [Pt.U, Pt.locs, Pt.cells, Pt.slots] at X10 l10 y10 z10 st10 hQ10
  subst l10 y10 z10
  obtain ⟨rfl, N10q, e10⟩ := hQ10
  have N10 := Fr.app N9 N10q
  refine og (T10.setTop (mkF m 484 #[.val (.ref a0), .val (.int 4), .val (.int 5), .val (.ref a3), .val (.int 2), .val (.int 1), .val (.int xa), .val (.int xb), .val (.int xc), .val (.int xd), .val (.int cq)] [(.int (own_ls cq)), (.int 1), (.ref a3)])) ?_ st10
  rw [hH.2.2.2.2.2.2.2.2.2.2.2.2]
  obtain ⟨_, _, ⟨T11, L11, k11, n11⟩, -, X11, ⟨Lc11, hQ11, l11, y11, z11⟩, st11⟩ := Jvm.LawKit.callS X10 hx (y := oM37) hown (mvT hZ (oW hw 145 rfl)) (mvT hZ (oW hw 146 rfl)) (mvT hZ (oW hw 106 rfl)) (mvT hZ (oW hw 147 rfl)) (by decide) (backOf (W := 0) (rm31 l Z aV hw [] a3 (1 : Int32) cb kd (10 : Int32) [(.int (own_lo ca)), (.int (own_hi ca)), (.int 0), (.int 0), (.int 0), (.int 0), (.int 0), (.int 0), (.int 0), (.int 0)] 2 T9.heap n0 zn9 V_a3 S__assertionsDisabled S_HI_BYTE_SHIFT S_LO_BYTE_SHIFT ga ⟨by decide, by decide⟩ ⟨by decide, by decide⟩ (by decide) (by decide) (Nat.le_of_ble_eq_true rfl)) hZ (oW hw 147 rfl) (oW hw 106 rfl) (by decide) (by decide)) (g := (mkF m 484 #[.val (.ref a0), .val (.int 4), .val (.int 5), .val (.ref a3), .val (.int 2), .val (.int 1), .val (.int xa), .val (.int xb), .val (.int xc), .val (.int xd), .val (.int cq)] [(.int cb), (.int 1), (.ref a3)])) rfl (by rw [hml]; rfl) (argsL := [(.ref a3), (.int 1), (.int cb)]) (rest := []) (lenOf pd___BII_V rfl) rfl (by show 2 * 0 + _ ≤ _; exact Nat.le_of_eq rfl) (hb hby d27_484) (fun _ _ => ⟨rfl, e10, (by decide : 0 + 0 ≤ _), (by decide : 0 + 0 ≤ _)⟩)
  dsimp only [Pt.U, Pt.locs, Pt.cells, Pt.slots] at X11 l11 y11 z11 st11 hQ11
  subst l11 y11 z11
  obtain ⟨rfl, N11q, Kq11, V_a3_p⟩ := hQ11
  have N11 := Fr.app N10 N11q
  have S__assertionsDisabled := Sta.keepE S__assertionsDisabled Kq11 (staS (own_acell V_a3) (fun x hx' => nomatch hx'))
  have S_HI_BYTE_SHIFT := Sta.keepE S_HI_BYTE_SHIFT Kq11 (staS (own_acell V_a3) (fun x hx' => nomatch hx'))
  have S_LO_BYTE_SHIFT := Sta.keepE S_LO_BYTE_SHIFT Kq11 (staS (own_acell V_a3) (fun x hx' => nomatch hx'))
  have V_a0 := V_a0.keep Kq11 (ninS nab nin0)
  have K11 := K9.trans Kq11 (allS (P := fun x => x ∈ [a3] ∨ h0.size ≤ x) (Or.inl (List.mem_of_getElem? (i := 0) rfl)) all0)
  have zn11 : n0 ≤ T11.heap.size := Nat.le_trans zn9 Kq11.1
  have V_a3 := V_a3_p
  refine og (T11.setTop (mkF m 487 #[.val (.ref a0), .val (.int 4), .val (.int 5), .val (.ref a3), .val (.int 2), .val (.int 1), .val (.int xa), .val (.int xb), .val (.int xc), .val (.int xd), .val (.int cq)] [])) ?_ st11
  have V_a3 : Arv Z T11.heap a3 kd .byte (10 : Int32) [(.int (own_lo ca)), (.int (own_hi ca)), (.int (own_lo cb)), (.int (own_hi cb)), (.int 0), (.int 0), (.int 0), (.int 0), (.int 0), (.int 0)] (.int 0) := V_a3
  refine og (T11.setTop (mkF m 7 #[.val (.ref a0), .val (.int 4), .val (.int 5), .val (.ref a3), .val (.int 2), .val (.int 1), .val (.int xa), .val (.int xb), .val (.int xc), .val (.int xd), .val (.int cq)] [(.int 4), (.ref a0)])) ?_ (fun tX kX => XS.goto X11.here hx rfl (pc0 := 487) (pc' := 0) rfl (hb hby d27_487) (by decide) (by decide) (XS.iloadN X11.here hx rfl (hb hby d27_0) rfl (XS.iloadN X11.here hx rfl (hb hby d27_1) rfl (XS.icmpNo X11.here hx rfl (hb hby d27_2) rfl (tlt (by decide)).2.1 (XS.aloadN X11.here hx rfl (hb hby d27_5) rfl rfl (XS.iloadN X11.here hx rfl (hb hby d27_6) rfl kX))))))
  refine og (T11.setTop (mkF m 10 #[.val (.ref a0), .val (.int 5), .val (.int 5), .val (.ref a3), .val (.int 2), .val (.int 1), .val (.int xa), .val (.int xb), .val (.int xc), .val (.int xd), .val (.int cq)] [(.int 4), (.ref a0)])) ?_ (fun tX kX => XS.iinc X11.here hx rfl (hb hby d27_7) rfl (l' := #[.val (.ref a0), .val (.int 5), .val (.int 5), .val (.ref a3), .val (.int 2), .val (.int 1), .val (.int xa), .val (.int xb), .val (.int xc), .val (.int xd), .val (.int cq)]) rfl kX)
  obtain ⟨cl12, Ar12, qa12, S12, N12', H12, G12⟩ := id V_a0
  have hin12 := inb_of (j := (4 : Int32)) S12 ⟨by decide, by decide⟩
  have hat12 := H12.at (v := (.int tv)) hin12 rfl
  refine og (T11.setTop (mkF m 21 #[.val (.ref a0), .val (.int 5), .val (.int 5), .val (.ref a3), .val (.int 2), .val (.int 1), .val (.int tv), .val (.int xb), .val (.int xc), .val (.int xd), .val (.int cq)] [(.int 2), (.ref a3)])) ?_ (fun tX kX => X11.baloadBytes hx (j := (4 : Int32)) (v := (.int tv)) Ar12.1 (State.isArrayOf_alike hZ.alike Ar12.2.1) Ar12.2.2 hin12 hat12 (g := (mkF m 10 #[.val (.ref a0), .val (.int 5), .val (.int 5), .val (.ref a3), .val (.int 2), .val (.int 1), .val (.int xa), .val (.int xb), .val (.int xc), .val (.int xd), .val (.int cq)] [(.int 4), (.ref a0)])) rfl rfl (hb hby d27_10) _ (XS.istore X11.here hx rfl (hb hby d27_11) rfl (l' := #[.val (.ref a0), .val (.int 5), .val (.int 5), .val (.ref a3), .val (.int 2), .val (.int 1), .val (.int tv), .val (.int xb), .val (.int xc), .val (.int xd), .val (.int cq)]) rfl (XS.iload X11.here hx rfl (hb hby d27_13) rfl (XS.ifNo X11.here hx rfl (hb hby d27_15) rfl ((if0 _ _).trans (flt hT.1).1) (XS.aloadN X11.here hx rfl (hb hby d27_18) rfl rfl (XS.iload X11.here hx rfl (hb hby d27_19) rfl kX))))))
  refine og (T11.setTop (mkF m 27 #[.val (.ref a0), .val (.int 5), .val (.int 5), .val (.ref a3), .val (.int 3), .val (.int 1), .val (.int tv), .val (.int xb), .val (.int xc), .val (.int xd), .val (.int cq)] [(.int (tv.toUInt32.toUInt16.toUInt32.toInt32)), (.int 2), (.ref a3)])) ?_ (fun tX kX => XS.iinc X11.here hx rfl (hb hby d27_21) rfl (l' := #[.val (.ref a0), .val (.int 5), .val (.int 5), .val (.ref a3), .val (.int 3), .val (.int 1), .val (.int tv), .val (.int xb), .val (.int xc), .val (.int xd), .val (.int cq)]) rfl (XS.iload X11.here hx rfl (hb hby d27_24) rfl (XS.i2c X11.here hx rfl (hb hby d27_26) rfl kX)))
  rw [hT.2.1]
  obtain ⟨_, _, ⟨T13, L13, k13, n13⟩, -, X13, ⟨Lc13, hQ13, l13, y13, z13⟩, st13⟩ := Jvm.LawKit.callS X11 hx (y := oM37) hown (mvT hZ (oW hw 145 rfl)) (mvT hZ (oW hw 146 rfl)) (mvT hZ (oW hw 106 rfl)) (mvT hZ (oW hw 147 rfl)) (by decide) (backOf (W := 0) (rm31 l Z aV hw [] a3 (2 : Int32) tv kd (10 : Int32) [(.int (own_lo ca)), (.int (own_hi ca)), (.int (own_lo cb)), (.int (own_hi cb)), (.int 0), (.int 0), (.int 0), (.int 0), (.int 0), (.int 0)] 4 T11.heap n0 zn11 V_a3 S__assertionsDisabled S_HI_BYTE_SHIFT S_LO_BYTE_SHIFT ga ⟨by decide, by decide⟩ ⟨by decide, by decide⟩ (by decide) (by decide) (Nat.le_of_ble_eq_true rfl)) hZ (oW hw 147 rfl) (oW hw 106 rfl) (by decide) (by decide)) (g := (mkF m 27 #[.val (.ref a0), .val (.int 5), .val (.int 5), .val (.ref a3), .val (.int 3), .val (.int 1), .val (.int tv), .val (.int xb), .val (.int xc), .val (.int xd), .val (.int cq)] [(.int tv), (.int 2), (.ref a3)])) rfl (by rw [hml]; rfl) (argsL := [(.ref a3), (.int 2), (.int tv)]) (rest := []) (lenOf pd___BII_V rfl) rfl (by show 2 * 0 + _ ≤ _; exact Nat.le_of_eq rfl) (hb hby d27_27) (fun _ _ => ⟨rfl, rfl, (by decide : 0 + 0 ≤ _), (by decide : 0 + 0 ≤ _)⟩)
  dsimp only [Pt.U, Pt.locs, Pt.cells, Pt.slots] at X13 l13 y13 z13 st13 hQ13
  subst l13 y13 z13
  obtain ⟨rfl, N13q, Kq13, V_a3_p⟩ := hQ13
  have N13 := Fr.app N11 N13q
  have S__assertionsDisabled := Sta.keepE S__assertionsDisabled Kq13 (staS (own_acell V_a3) (fun x hx' => nomatch hx'))
  have S_HI_BYTE_SHIFT := Sta.keepE S_HI_BYTE_SHIFT Kq13 (staS (own_acell V_a3) (fun x hx' => nomatch hx'))
  have S_LO_BYTE_SHIFT := Sta.keepE S_LO_BYTE_SHIFT Kq13 (staS (own_acell V_a3) (fun x hx' => nomatch hx'))
  have V_a0 := V_a0.keep Kq13 (ninS nab nin0)
  have K13 := K11.trans Kq13 (allS (P := fun x => x ∈ [a3] ∨ h0.size ≤ x) (Or.inl (List.mem_of_getElem? (i := 0) rfl)) all0)
  have zn13 : n0 ≤ T13.heap.size := Nat.le_trans zn11 Kq13.1
  have V_a3 := V_a3_p
  refine og (T13.setTop (mkF m 30 #[.val (.ref a0), .val (.int 5), .val (.int 5), .val (.ref a3), .val (.int 3), .val (.int 1), .val (.int tv), .val (.int xb), .val (.int xc), .val (.int xd), .val (.int cq)] [])) ?_ st13
  have V_a3 : Arv Z T13.heap a3 kd .byte (10 : Int32) [(.int (own_lo ca)), (.int (own_hi ca)), (.int (own_lo cb)), (.int (own_hi cb)), (.int (own_lo tv)), (.int (own_hi tv)), (.int 0), (.int 0), (.int 0), (.int 0)] (.int 0) := V_a3
  refine og (T13.setTop (mkF m 623 #[.val (.ref a0), .val (.int 5), .val (.int 5), .val (.ref a3), .val (.int 3), .val (.int 1), .val (.int tv), .val (.int xb), .val (.int xc), .val (.int xd), .val (.int cq)] [(.int 3)])) ?_ (fun tX kX => XS.goto X13.here hx rfl (pc0 := 30) (pc' := 618) rfl (hb hby d27_30) (by decide) (by decide) (XS.goto X13.here hx rfl (pc0 := 618) (pc' := 0) rfl (hb hby d27_618) (by decide) (by decide) (XS.iloadN X13.here hx rfl (hb hby d27_0) rfl (XS.iloadN X13.here hx rfl (hb hby d27_1) rfl (XS.icmpYes X13.here hx rfl (pc0 := 2) (pc' := 621) rfl (hb hby d27_2) rfl (flt (by decide)).2.1 (by decide) (by decide) (XS.iload X13.here hx rfl (hb hby d27_621) rfl kX))))))
  refine OGo.ret X13 (v := (some (.int 3))) (fun h => by rw [Bd.returns] at h; cases h) (BodyLoose.notSynchronized Bd) (fun fs hr => retOut X13 hx Bd.returns rfl (Or.inl ⟨rfl, Or.inl rfl, _, rfl⟩) (hb hby d27_623) hr) (Q := Q27d Z a0 a3 kb kd xa xb xc xd tv cq ca cb h0 n0) ?_ (by decide) (by decide)
  show Q27d Z a0 a3 kb kd xa xb xc xd tv cq ca cb h0 n0 _ T13.heap _
  exact ⟨rfl, N13, K13, V_a3⟩
def Q4G (Z : State) (a0 : Addr) (cd mm : Int32) (res : List Value) (h0 : Heap) (n0 : Nat) (v : Option Value) (h : Heap) (L : List Loc) : Prop := ∃ (nb : Addr) (kn : ClassId), v = none ∧ Fr n0 L ∧ Keep h0 h [a0] ∧ h0.size ≤ nb ∧ Exa Z h a0 "java/lang/String" ∧ Fld Z h a0 "java/lang/String" "value" "[B" (.ref nb) ∧ Fld Z h a0 "java/lang/String" "coder" "B" (.int cd) ∧ Arv Z h nb kn .byte mm res (.int 0)
abbrev own_M4 (l : Launch) (Z : State) (ch a2 : Addr) (nn : Int32) (kb : ClassId) (vs : List Value) (cs : Int32) (fv : Value) (cd mm : Int32) (res : List Value) : Prop := ∀ (a0 : Addr) (u1 u2 : Value) (h0 : Heap) (n0 : Nat), n0 ≤ h0.size → (Exa Z h0 a0 "java/lang/String") → (Fld Z h0 a0 "java/lang/String" "value" "[B" u1) → (Fld Z h0 a0 "java/lang/String" "coder" "B" u2) → (Sta Z h0 "sun/nio/cs/UTF_8" "INSTANCE" "Lsun/nio/cs/UTF_8;" (.ref ch)) → (Sta Z h0 "java/lang/String" "COMPACT_STRINGS" "Z" (.int cs)) → (Sta Z h0 "jdk/internal/util/Preconditions" "SIOOBE_FORMATTER" "Ljava/util/function/BiFunction;" fv) → (Sta Z h0 "java/lang/StringUTF16" "$assertionsDisabled" "Z" (.int 1)) → (Sta Z h0 "java/lang/StringUTF16" "HI_BYTE_SHIFT" "I" (.int 0)) → (Sta Z h0 "java/lang/StringUTF16" "LO_BYTE_SHIFT" "I" (.int 8)) → (Exa Z h0 a2 "[B") → (Arv Z h0 a2 kb .byte nn vs (.int 0)) → n0 ≤ a0 → MetFree l oM39 (head1 [Jvm.Cond.codeWith oM39 jdk_42_method_11_code 11 none [(800, 813, 816, 202)]] oR14) (fun a U => a = #[(.ref a0), (.ref ch), (.ref a2), (.int 0), (.int nn)] ∧ Z.Warmed39 U.vm ∧ U.heap = h0) (fun _ _ _ _ _ => True) (fun _ U o U' => ∃ v L, o = .returned v ∧ Q4G Z a0 cd mm res h0 n0 v U'.heap L ∧ FrameEnd U o U' L oR14.cells oR14.slots)
theorem d2_0 : oD2 0 (.aload_n 0) 1 := by decide +kernel
theorem d2_1 : oD2 1 (.aload_n 2) 1 := by decide +kernel
theorem d2_2 : oD2 2 (.invokestatic 78) 3 := by decide +kernel
theorem pd__Ljava_lang_Object__Ljava_lang_Object_ : parseMethodDescriptor "(Ljava/lang/Object;)Ljava/lang/Object;" = some ⟨[(.object "java/lang/Object")], some (.object "java/lang/Object")⟩ := by decide +kernel
theorem d2_5 : oD2 5 (.checkcast 84) 3 := by decide +kernel
theorem d2_8 : oD2 8 (.aload_n 1) 1 := by decide +kernel
theorem d2_9 : oD2 9 (.iconst 0) 1 := by decide +kernel
theorem d2_10 : oD2 10 (.aload_n 1) 1 := by decide +kernel
theorem d2_11 : oD2 11 .arraylength 1 := by decide +kernel
theorem d2_12 : oD2 12 (.invokespecial 75) 3 := by decide +kernel
theorem pd__Ljava_nio_charset_Charset__BII_V : parseMethodDescriptor "(Ljava/nio/charset/Charset;[BII)V" = some ⟨[(.object "java/nio/charset/Charset"), (.array .byte), .int, .int], none⟩ := by decide +kernel
theorem d2_15 : oD2 15 .return_ 1 := by decide +kernel
def Q2G (Z : State) (a0 : Addr) (a1 : Addr) (ch : Addr) (u1 : Value) (u2 : Value) (nn : Int32) (kb : ClassId) (vs : List Value) (cs : Int32) (fv : Value) (cd : Int32) (mm : Int32) (res : List Value) (h0 : Heap) (n0 : Nat) (v : Option Value) (h : Heap) (L : List Loc) : Prop := ∃ (nb : Addr) (kn : ClassId), v = none ∧ Fr n0 L ∧ Keep h0 h [a0] ∧ h0.size ≤ nb ∧ Exa Z h a0 "java/lang/String" ∧ Fld Z h a0 "java/lang/String" "value" "[B" (.ref nb) ∧ Fld Z h a0 "java/lang/String" "coder" "B" (.int cd) ∧ Arv Z h nb kn .byte mm res (.int 0)
def P2G (Z : State) (a0 : Addr) (a1 : Addr) (ch : Addr) (u1 : Value) (u2 : Value) (nn : Int32) (kb : ClassId) (vs : List Value) (cs : Int32) (fv : Value) (cd : Int32) (mm : Int32) (res : List Value) (h0 : Heap) (n0 : Nat) (s : State) (o : Outcome) (U' : State) : Prop := ∃ v L, o = .returned v ∧ Q2G Z a0 a1 ch u1 u2 nn kb vs cs fv cd mm res h0 n0 v U'.heap L ∧ FrameEnd s o U' L oR15.cells oR15.slots
set_option maxRecDepth 65536 in
set_option maxHeartbeats 40000000 in
theorem rm2G (l : Launch) (Z : State) (aV : Array Value) (hw : ∀ d ∈ tables_1, d.before aV Z = true) (ws : List Jvm.Cond) (a0 : Addr) (a1 : Addr) (ch : Addr) (u1 : Value) (u2 : Value) (nn : Int32) (kb : ClassId) (vs : List Value) (cs : Int32) (fv : Value) (cd : Int32) (mm : Int32) (res : List Value) (h0 : Heap) (n0 : Nat) (Z0 : n0 ≤ h0.size) (E_a0 : Exa Z h0 a0 "java/lang/String") (F_value_a0 : Fld Z h0 a0 "java/lang/String" "value" "[B" u1) (F_coder_a0 : Fld Z h0 a0 "java/lang/String" "coder" "B" u2) (S_INSTANCE : Sta Z h0 "sun/nio/cs/UTF_8" "INSTANCE" "Lsun/nio/cs/UTF_8;" (.ref ch)) (S_COMPACT_STRINGS : Sta Z h0 "java/lang/String" "COMPACT_STRINGS" "Z" (.int cs)) (S_SIOOBE_FORMATTER : Sta Z h0 "jdk/internal/util/Preconditions" "SIOOBE_FORMATTER" "Ljava/util/function/BiFunction;" fv) (S__assertionsDisabled : Sta Z h0 "java/lang/StringUTF16" "$assertionsDisabled" "Z" (.int 1)) (S_HI_BYTE_SHIFT : Sta Z h0 "java/lang/StringUTF16" "HI_BYTE_SHIFT" "I" (.int 0)) (S_LO_BYTE_SHIFT : Sta Z h0 "java/lang/StringUTF16" "LO_BYTE_SHIFT" "I" (.int 8)) (E_ch : Exa Z h0 ch "sun/nio/cs/UTF_8") (E_a1 : Exa Z h0 a1 "[B") (V_a1 : Arv Z h0 a1 kb .byte nn vs (.int 0)) (ga : n0 ≤ a0) (hM : own_M4 l Z ch a1 nn kb vs cs fv cd mm res) :
    MetFree l oM40 (head1 (Jvm.Cond.code oM40 jdk_42_method_49_code 3 none :: ws) oR15) (fun a U => a = #[(.ref a0), (.ref a1), (.ref ch)] ∧ Z.Warmed39 U.vm ∧ U.heap = h0) (fun _ _ _ _ _ => True) (fun _ U o U' => ∃ v L, o = .returned v ∧ Q2G Z a0 a1 ch u1 u2 nn kb vs cs fv cd mm res h0 n0 v U'.heap L ∧ FrameEnd U o U' L oR15.cells oR15.slots) := by
  refine MetFree.of_bodySF (plainFor_of_name pn_java_lang_String) hisR ?_
  intro p e s m args below meth c s₁ Bd hml0 hP hK
  obtain ⟨rfl, hZ, hh⟩ := hP
  have hx := Bd.exec
  have hby := Bd.bytes
  have hml : c.maxLocals = 3 := hml0
  have hown : s.vm.findClass "java/lang/String" = some m.cls := findClass_of_methodNamed Bd.named
  have hnm := (name_of_methodNamed Bd.named Bd.method).1
  have X0 : Stand p l e oR15 s m #[(.ref a0), (.ref a1), (.ref ch)] below meth c s₁ [] 0 0 := Stand.of_body Bd
  have e0 : s₁.heap = h0 := by rw [← hh, Bd.state]; rfl
  have efx : entryFrame m #[(.ref a0), (.ref a1), (.ref ch)] 3 = mkF m 0 #[.val (.ref a0), .val (.ref a1), .val (.ref ch)] [] := by first | (simp [entryFrame, mkF, argsToLocals, Value.category]; done) | rfl
  have N0 := Fr.nil n0
  have K0 : Keep h0 h0 [a0] := Keep.refl h0 _
  refine OGo.start (g' := mkF m 0 #[.val (.ref a0), .val (.ref a1), .val (.ref ch)] []) (efx) ?_
  show OGo p.tables e below (P2G Z a0 a1 ch u1 u2 nn kb vs cs fv cd mm res h0 n0 s) (s₁.setTop (mkF m 0 #[.val (.ref a0), .val (.ref a1), .val (.ref ch)] []))
  refine og (s₁.setTop (mkF m 2 #[.val (.ref a0), .val (.ref a1), .val (.ref ch)] [(.ref ch), (.ref a0)])) ?_ (fun tX kX => XS.aloadN X0.here hx rfl (hb hby d2_0) rfl rfl (XS.aloadN X0.here hx rfl (hb hby d2_1) rfl rfl kX))
  obtain ⟨_, _, ⟨T1, L1, k1, n1⟩, -, X1, ⟨Lc1, hQ1, l1, y1, z1⟩, st1⟩ := Jvm.LawKit.callS X0 hx (y := oM0) hown (mvT hZ (oW hw 15 rfl)) (mvT hZ (oW hw 16 rfl)) (mvT hZ (oW hw 17 rfl)) (mvT hZ (oW hw 18 rfl)) (by decide) (backOf (W := 1) (rm3 l Z aV hw [] ch h0 n0 Z0) hZ (oW hw 18 rfl) (oW hw 17 rfl) (by decide) (by decide)) (g := (mkF m 2 #[.val (.ref a0), .val (.ref a1), .val (.ref ch)] [(.ref ch), (.ref a0)])) rfl (by rw [hml]; rfl) (argsL := [(.ref ch)]) (rest := [(.ref a0)]) (lenOf pd__Ljava_lang_Object__Ljava_lang_Object_ rfl) rfl (by show 2 * 0 + _ ≤ _; exact Nat.le_of_eq rfl) (hb hby d2_2) (fun _ _ => ⟨rfl, e0, (by decide : 0 + 0 ≤ _), (by decide : 0 + 0 ≤ _)⟩)
  dsimp only [Pt.U, Pt.locs, Pt.cells, Pt.slots] at X1 l1 y1 z1 st1 hQ1
  subst l1 y1 z1
  obtain ⟨rfl, N1q, e1⟩ := hQ1
  have N1 := Fr.app N0 N1q
  refine og (T1.setTop (mkF m 5 #[.val (.ref a0), .val (.ref a1), .val (.ref ch)] [(.ref ch), (.ref a0)])) ?_ st1
  obtain ⟨T2, X2, e2, st2⟩ := castY X1 hx hZ hown (oW hw 19 rfl) e1 (Ins.of_exa E_ch (oW hw 20 rfl)) (g := (mkF m 5 #[.val (.ref a0), .val (.ref a1), .val (.ref ch)] [(.ref ch), (.ref a0)])) rfl rfl (hb hby d2_5)
  refine og (T2.setTop (mkF m 8 #[.val (.ref a0), .val (.ref a1), .val (.ref ch)] [(.ref ch), (.ref a0)])) ?_ st2
  refine og (T2.setTop (mkF m 11 #[.val (.ref a0), .val (.ref a1), .val (.ref ch)] [(.ref a1), (.int 0), (.ref a1), (.ref ch), (.ref a0)])) ?_ (fun tX kX => XS.aloadN X2.here hx rfl (hb hby d2_8) rfl rfl (XS.iconst X2.here hx rfl (hb hby d2_9) (XS.aloadN X2.here hx rfl (hb hby d2_10) rfl rfl kX)))
  obtain ⟨cl3, Ar3, qa3, S3, N3', H3, G3⟩ := id V_a1
  refine OGo.go (B := T2.setTop (mkF m 12 #[.val (.ref a0), .val (.ref a1), .val (.ref ch)] [(.int nn), (.int 0), (.ref a1), (.ref ch), (.ref a0)])) ?_ (fun tX kX => X2.arraylength hx (by rw [e2]; exact Ar3.1) (State.isArrayOf_alike hZ.alike Ar3.2.1) (g := (mkF m 11 #[.val (.ref a0), .val (.ref a1), .val (.ref ch)] [(.ref a1), (.int 0), (.ref a1), (.ref ch), (.ref a0)])) rfl rfl (hb hby d2_11) _ (by rw [len_of S3 N3']; exact kX))
  obtain ⟨_, _, ⟨T4, L4, k4, n4⟩, -, X4, ⟨Lc4, hQ4, l4, y4, z4⟩, st4⟩ := X2.specialBackH hx (y := oM39) rfl hown (mvT hZ (oW hw 21 rfl)) (mvT hZ (oW hw 22 rfl)) (mvT hZ (oW hw 24 rfl)) (by decide) (backOfWith (W := 0) (hM a0 u1 u2 h0 n0 Z0 E_a0 F_value_a0 F_coder_a0 S_INSTANCE S_COMPACT_STRINGS S_SIOOBE_FORMATTER S__assertionsDisabled S_HI_BYTE_SHIFT S_LO_BYTE_SHIFT E_a1 V_a1 ga) hZ (oW hw 24 rfl) (oW hw 9 rfl) (by decide) (by decide)) (g := (mkF m 12 #[.val (.ref a0), .val (.ref a1), .val (.ref ch)] [(.int nn), (.int 0), (.ref a1), (.ref ch), (.ref a0)])) rfl (by rw [hml]; rfl) (Steps.refl _) (a := a0) (argsL := [(.ref ch), (.ref a1), (.int 0), (.int nn)]) (rest := []) (lenOf pd__Ljava_nio_charset_Charset__BII_V rfl) rfl (by show 2 * 0 + _ ≤ _; exact Nat.le_of_eq rfl) (hb hby d2_12) (fun _ _ => ⟨rfl, e2, (by decide : 0 + 4 ≤ _), (by decide : 0 + 40 ≤ _)⟩)
  dsimp only [Pt.U, Pt.locs, Pt.cells, Pt.slots] at X4 l4 y4 z4 st4 hQ4
  subst l4 y4 z4
  obtain ⟨nb_4, kn_4, rfl, N4q, Kq4, sz4_nb, E_a0_p, F_value_a0_p, F_coder_a0_p, V_nb_4_p⟩ := hQ4
  have N4 := Fr.app N1 N4q
  have ne_a0_nb_4 : a0 ≠ nb_4 := Nat.ne_of_lt (Nat.lt_of_lt_of_le E_a0.lt sz4_nb)
  have ne_ch_nb_4 : ch ≠ nb_4 := Nat.ne_of_lt (Nat.lt_of_lt_of_le E_ch.lt sz4_nb)
  have ne_a1_nb_4 : a1 ≠ nb_4 := Nat.ne_of_lt (Nat.lt_of_lt_of_le E_a1.lt sz4_nb)
  have S_INSTANCE := Sta.keepE S_INSTANCE Kq4 (staS E_a0.cell (fun x hx' => nomatch hx'))
  have S_COMPACT_STRINGS := Sta.keepE S_COMPACT_STRINGS Kq4 (staS E_a0.cell (fun x hx' => nomatch hx'))
  have S_SIOOBE_FORMATTER := Sta.keepE S_SIOOBE_FORMATTER Kq4 (staS E_a0.cell (fun x hx' => nomatch hx'))
  have S__assertionsDisabled := Sta.keepE S__assertionsDisabled Kq4 (staS E_a0.cell (fun x hx' => nomatch hx'))
  have S_HI_BYTE_SHIFT := Sta.keepE S_HI_BYTE_SHIFT Kq4 (staS E_a0.cell (fun x hx' => nomatch hx'))
  have S_LO_BYTE_SHIFT := Sta.keepE S_LO_BYTE_SHIFT Kq4 (staS E_a0.cell (fun x hx' => nomatch hx'))
  have E_a0 := E_a0.keep Kq4
  have E_ch := E_ch.keep Kq4
  have E_a1 := E_a1.keep Kq4
  have g_nb_4 : n0 ≤ nb_4 := Nat.le_trans Z0 sz4_nb
  have sz_nb_4 : h0.size ≤ nb_4 := Nat.le_trans K0.1 sz4_nb
  have K4 := K0.trans Kq4 (allS (P := fun x => x ∈ [a0] ∨ h0.size ≤ x) (Or.inl (List.mem_of_getElem? (i := 0) rfl)) all0)
  have zn4 : n0 ≤ T4.heap.size := Nat.le_trans Z0 Kq4.1
  have E_a0 := E_a0_p
  have F_value_a0 := F_value_a0_p
  have F_coder_a0 := F_coder_a0_p
  have V_nb_4 := V_nb_4_p
  refine og (T4.setTop (mkF m 15 #[.val (.ref a0), .val (.ref a1), .val (.ref ch)] [])) ?_ (fun tX kX => st4.trans kX)
  refine OGo.ret X4 (v := none) (fun _ => rfl) (BodyLoose.notSynchronized Bd) (fun fs hr => X4.returnOut hx Bd.returns (hb hby d2_15) hr) (Q := Q2G Z a0 a1 ch u1 u2 nn kb vs cs fv cd mm res h0 n0) ?_ (by decide) (by decide)
  show Q2G Z a0 a1 ch u1 u2 nn kb vs cs fv cd mm res h0 n0 _ T4.heap _
  exact ⟨nb_4, kn_4, rfl, N4, K4, sz_nb_4, E_a0, F_value_a0, F_coder_a0, V_nb_4⟩
theorem d1_0 : oD1 0 (.aload_n 0) 1 := by decide +kernel
theorem d1_1 : oD1 1 .arraylength 1 := by decide +kernel
theorem d1_2 : oD1 2 (.ldc 198) 2 := by decide +kernel
theorem d1_4 : oD1 4 (.if_icmp .le 13) 3 := by decide +kernel
theorem d1_17 : oD1 17 (.new 8) 3 := by decide +kernel
theorem d1_20 : oD1 20 .dup 1 := by decide +kernel
theorem d1_21 : oD1 21 (.aload_n 0) 1 := by decide +kernel
theorem d1_22 : oD1 22 (.getstatic 201) 3 := by decide +kernel
theorem d1_25 : oD1 25 (.invokespecial 207) 3 := by decide +kernel
theorem pd___BLjava_nio_charset_Charset__V : parseMethodDescriptor "([BLjava/nio/charset/Charset;)V" = some ⟨[(.array .byte), (.object "java/nio/charset/Charset")], none⟩ := by decide +kernel
theorem d1_28 : oD1 28 .areturn 1 := by decide +kernel
theorem pn_com_example_claimward_claimward_keys_KeyLocation : plainName "com/example/claimward/claimward/keys/KeyLocation" = true := by first | (simp [plainName, overriddenIn]; done) | decide +kernel
def Q1G (Z : State) (a0 : Addr) (ch : Addr) (nn : Int32) (kb : ClassId) (vs : List Value) (cs : Int32) (fv : Value) (cd : Int32) (mm : Int32) (res : List Value) (h0 : Heap) (n0 : Nat) (v : Option Value) (h : Heap) (L : List Loc) : Prop := ∃ (sb : Addr) (nb : Addr) (kn : ClassId), v = some (.ref sb) ∧ Fr n0 L ∧ Keep h0 h [] ∧ h0.size ≤ sb ∧ h0.size ≤ nb ∧ Exa Z h sb "java/lang/String" ∧ Fld Z h sb "java/lang/String" "value" "[B" (.ref nb) ∧ Fld Z h sb "java/lang/String" "coder" "B" (.int cd) ∧ Arv Z h nb kn .byte mm res (.int 0)
def P1G (Z : State) (a0 : Addr) (ch : Addr) (nn : Int32) (kb : ClassId) (vs : List Value) (cs : Int32) (fv : Value) (cd : Int32) (mm : Int32) (res : List Value) (h0 : Heap) (n0 : Nat) (s : State) (o : Outcome) (U' : State) : Prop := ∃ v L, o = .returned v ∧ Q1G Z a0 ch nn kb vs cs fv cd mm res h0 n0 v U'.heap L ∧ FrameEnd s o U' L oR16.cells oR16.slots
set_option maxRecDepth 65536 in
set_option maxHeartbeats 40000000 in
theorem rm1G (l : Launch) (Z : State) (aV : Array Value) (hw : ∀ d ∈ tables_1, d.before aV Z = true) (ws : List Jvm.Cond) (a0 : Addr) (ch : Addr) (nn : Int32) (kb : ClassId) (vs : List Value) (cs : Int32) (fv : Value) (cd : Int32) (mm : Int32) (res : List Value) (h0 : Heap) (n0 : Nat) (Z0 : n0 ≤ h0.size) (S_INSTANCE : Sta Z h0 "sun/nio/cs/UTF_8" "INSTANCE" "Lsun/nio/cs/UTF_8;" (.ref ch)) (S_COMPACT_STRINGS : Sta Z h0 "java/lang/String" "COMPACT_STRINGS" "Z" (.int cs)) (S_SIOOBE_FORMATTER : Sta Z h0 "jdk/internal/util/Preconditions" "SIOOBE_FORMATTER" "Ljava/util/function/BiFunction;" fv) (S__assertionsDisabled : Sta Z h0 "java/lang/StringUTF16" "$assertionsDisabled" "Z" (.int 1)) (S_HI_BYTE_SHIFT : Sta Z h0 "java/lang/StringUTF16" "HI_BYTE_SHIFT" "I" (.int 0)) (S_LO_BYTE_SHIFT : Sta Z h0 "java/lang/StringUTF16" "LO_BYTE_SHIFT" "I" (.int 8)) (S_UTF_8 : Sta Z h0 "java/nio/charset/StandardCharsets" "UTF_8" "Ljava/nio/charset/Charset;" (.ref ch)) (E_ch : Exa Z h0 ch "sun/nio/cs/UTF_8") (E_a0 : Exa Z h0 a0 "[B") (V_a0 : Arv Z h0 a0 kb .byte nn vs (.int 0)) (hle : ¬ (1048576 : Int32) < nn) (hM : own_M4 l Z ch a0 nn kb vs cs fv cd mm res) :
    MetFree l oM41 (head1 (Jvm.Cond.code oM41 prog_6_method_12_code 1 (some (.object "java/lang/String")) :: ws) oR16) (fun a U => a = #[(.ref a0)] ∧ Z.Warmed39 U.vm ∧ U.heap = h0) (fun _ _ _ _ _ => True) (fun _ U o U' => ∃ v L, o = .returned v ∧ Q1G Z a0 ch nn kb vs cs fv cd mm res h0 n0 v U'.heap L ∧ FrameEnd U o U' L oR16.cells oR16.slots) := by
  refine MetFree.of_bodySF (plainFor_of_name pn_com_example_claimward_claimward_keys_KeyLocation) hisR ?_
  intro p e s m args below meth c s₁ Bd hml0 hP hK
  obtain ⟨rfl, hZ, hh⟩ := hP
  have hx := Bd.exec
  have hby := Bd.bytes
  have hml : c.maxLocals = 1 := hml0
  have hown : s.vm.findClass "com/example/claimward/claimward/keys/KeyLocation" = some m.cls := findClass_of_methodNamed Bd.named
  have hnm := (name_of_methodNamed Bd.named Bd.method).1
  have X0 : Stand p l e oR16 s m #[(.ref a0)] below meth c s₁ [] 0 0 := Stand.of_body Bd
  have e0 : s₁.heap = h0 := by rw [← hh, Bd.state]; rfl
  have efx : entryFrame m #[(.ref a0)] 1 = mkF m 0 #[.val (.ref a0)] [] := by first | (simp [entryFrame, mkF, argsToLocals, Value.category]; done) | rfl
  have N0 := Fr.nil n0
  have K0 : Keep h0 h0 [] := Keep.refl h0 _
  refine OGo.start (g' := mkF m 0 #[.val (.ref a0)] []) (efx) ?_
  show OGo p.tables e below (P1G Z a0 ch nn kb vs cs fv cd mm res h0 n0 s) (s₁.setTop (mkF m 0 #[.val (.ref a0)] []))
  refine og (s₁.setTop (mkF m 1 #[.val (.ref a0)] [(.ref a0)])) ?_ (fun tX kX => XS.aloadN X0.here hx rfl (hb hby d1_0) rfl rfl kX)
  obtain ⟨cl1, Ar1, qa1, S1, N1', H1, G1⟩ := id V_a0
  refine OGo.go (B := s₁.setTop (mkF m 2 #[.val (.ref a0)] [(.int nn)])) ?_ (fun tX kX => X0.arraylength hx (by rw [e0]; exact Ar1.1) (State.isArrayOf_alike hZ.alike Ar1.2.1) (g := (mkF m 1 #[.val (.ref a0)] [(.ref a0)])) rfl rfl (hb hby d1_1) _ (by rw [len_of S1 N1']; exact kX))
  refine og (s₁.setTop (mkF m 17 #[.val (.ref a0)] [])) ?_ (fun tX kX => X0.ldcInt hx hown (mvT hZ (oW hw 6 rfl)) (g := (mkF m 2 #[.val (.ref a0)] [(.int nn)])) rfl (hb hby d1_2) _ (XS.icmpYes X0.here hx rfl (pc0 := 4) (pc' := 17) rfl (hb hby d1_4) rfl (flt hle).2.2.2 (by decide) (by decide) kX))
  obtain ⟨T2, h2, X2, e2, E2, A2, D2, C2, st2⟩ := newO X0 hx hZ hown (oW hw 7 rfl) (oW hw 8 rfl) (oW hw 9 rfl) e0 (g := (mkF m 17 #[.val (.ref a0)] [])) rfl (hb hby d1_17) (by decide) (by decide)
  obtain ⟨b2, g2⟩ : ∃ z, z = h0.size := ⟨_, rfl⟩
  rw [← g2] at A2 D2 st2 C2
  have ne_ch_b2 : ch ≠ b2 := Nat.ne_of_lt (Nat.lt_of_lt_of_le E_ch.lt (Nat.le_of_eq g2.symm))
  have ne_a0_b2 : a0 ≠ b2 := Nat.ne_of_lt (Nat.lt_of_lt_of_le E_a0.lt (Nat.le_of_eq g2.symm))
  have S_INSTANCE := S_INSTANCE.ext E2
  have S_COMPACT_STRINGS := S_COMPACT_STRINGS.ext E2
  have S_SIOOBE_FORMATTER := S_SIOOBE_FORMATTER.ext E2
  have S__assertionsDisabled := S__assertionsDisabled.ext E2
  have S_HI_BYTE_SHIFT := S_HI_BYTE_SHIFT.ext E2
  have S_LO_BYTE_SHIFT := S_LO_BYTE_SHIFT.ext E2
  have S_UTF_8 := S_UTF_8.ext E2
  have E_ch := E_ch.ext E2
  have E_a0 := E_a0.ext E2
  have V_a0 := V_a0.ext E2
  have g_b2 : n0 ≤ b2 := Nat.le_trans Z0 (Nat.le_of_eq g2.symm)
  have sz_b2 : h0.size ≤ b2 := Nat.le_trans K0.1 (Nat.le_of_eq g2.symm)
  have zn2 : n0 ≤ h2.size := Nat.le_trans Z0 E2.1
  have K2 := K0.ext E2
  have E_b2 := A2
  have F_value_b2 : Fld Z h2 b2 "java/lang/String" "value" "[B" .null := D2 (Or.inr (oW hw 49 rfl)) (ty := (.array .byte)) (by decide)
  have F_coder_b2 : Fld Z h2 b2 "java/lang/String" "coder" "B" (.int 0) := D2 (Or.inr (oW hw 51 rfl)) (ty := .byte) (by decide)
  refine og (T2.setTop (mkF m 20 #[.val (.ref a0)] [(.ref b2)])) ?_ st2
  refine og (T2.setTop (mkF m 22 #[.val (.ref a0)] [(.ref a0), (.ref b2), (.ref b2)])) ?_ (fun tX kX => XS.dup X2.here hx rfl (hb hby d1_20) rfl rfl (XS.aloadN X2.here hx rfl (hb hby d1_21) rfl rfl kX))
  obtain ⟨T3, X3, e3, st3⟩ := getS2 X2 hx hZ hown (host := "") (Or.inl (oW hw 10 rfl)) Via.refl e2 S_UTF_8 (g := (mkF m 22 #[.val (.ref a0)] [(.ref a0), (.ref b2), (.ref b2)])) rfl (hb hby d1_22)
  refine og (T3.setTop (mkF m 25 #[.val (.ref a0)] [(.ref ch), (.ref a0), (.ref b2), (.ref b2)])) ?_ st3
  obtain ⟨_, _, ⟨T4, L4, k4, n4⟩, -, X4, ⟨Lc4, hQ4, l4, y4, z4⟩, st4⟩ := X3.specialBack hx (y := oM40) rfl hown (mvT hZ (oW hw 12 rfl)) (mvT hZ (oW hw 13 rfl)) (mvT hZ (oW hw 14 rfl)) (by decide) (backOf (W := 1) (rm2G l Z aV hw [] b2 a0 ch .null (.int 0) nn kb vs cs fv cd mm res h2 n0 zn2 E_b2 F_value_b2 F_coder_b2 S_INSTANCE S_COMPACT_STRINGS S_SIOOBE_FORMATTER S__assertionsDisabled S_HI_BYTE_SHIFT S_LO_BYTE_SHIFT E_ch E_a0 V_a0 g_b2 hM) hZ (oW hw 14 rfl) (oW hw 9 rfl) (by decide) (by decide)) (g := (mkF m 25 #[.val (.ref a0)] [(.ref ch), (.ref a0), (.ref b2), (.ref b2)])) rfl (by rw [hml]; rfl) (Steps.refl _) (a := b2) (argsL := [(.ref a0), (.ref ch)]) (rest := [(.ref b2)]) (lenOf pd___BLjava_nio_charset_Charset__V rfl) rfl (by show 2 * 0 + _ ≤ _; exact Nat.le_of_eq rfl) (hb hby d1_25) (fun _ _ => ⟨rfl, e3, (by decide : 1 + 4 ≤ _), (by decide : 4 + 40 ≤ _)⟩)
  dsimp only [Pt.U, Pt.locs, Pt.cells, Pt.slots] at X4 l4 y4 z4 st4 hQ4
  subst l4 y4 z4
  obtain ⟨nb_4, kn_4, rfl, N4q, Kq4, sz4_nb, E_b2_p, F_value_b2_p, F_coder_b2_p, V_nb_4_p⟩ := hQ4
  have N4 := Fr.app N0 N4q
  have ne_ch_nb_4 : ch ≠ nb_4 := Nat.ne_of_lt (Nat.lt_of_lt_of_le E_ch.lt sz4_nb)
  have ne_a0_nb_4 : a0 ≠ nb_4 := Nat.ne_of_lt (Nat.lt_of_lt_of_le E_a0.lt sz4_nb)
  have ne_b2_nb_4 : b2 ≠ nb_4 := Nat.ne_of_lt (Nat.lt_of_lt_of_le E_b2.lt sz4_nb)
  have S_INSTANCE := Sta.keepE S_INSTANCE Kq4 (staS E_b2.cell (fun x hx' => nomatch hx'))
  have S_COMPACT_STRINGS := Sta.keepE S_COMPACT_STRINGS Kq4 (staS E_b2.cell (fun x hx' => nomatch hx'))
  have S_SIOOBE_FORMATTER := Sta.keepE S_SIOOBE_FORMATTER Kq4 (staS E_b2.cell (fun x hx' => nomatch hx'))
  have S__assertionsDisabled := Sta.keepE S__assertionsDisabled Kq4 (staS E_b2.cell (fun x hx' => nomatch hx'))
  have S_HI_BYTE_SHIFT := Sta.keepE S_HI_BYTE_SHIFT Kq4 (staS E_b2.cell (fun x hx' => nomatch hx'))
  have S_LO_BYTE_SHIFT := Sta.keepE S_LO_BYTE_SHIFT Kq4 (staS E_b2.cell (fun x hx' => nomatch hx'))
  have S_UTF_8 := Sta.keepE S_UTF_8 Kq4 (staS E_b2.cell (fun x hx' => nomatch hx'))
  have E_ch := E_ch.keep Kq4
  have E_a0 := E_a0.keep Kq4
  have V_a0 := V_a0.keep Kq4 (ninS ne_a0_b2 nin0)
  have E_b2 := E_b2.keep Kq4
  have g_nb_4 : n0 ≤ nb_4 := Nat.le_trans zn2 sz4_nb
  have sz_nb_4 : h0.size ≤ nb_4 := Nat.le_trans K2.1 sz4_nb
  have K4 := K2.trans Kq4 (allS (P := fun x => x ∈ ([] : List Addr) ∨ h0.size ≤ x) (Or.inr sz_b2) all0)
  have zn4 : n0 ≤ T4.heap.size := Nat.le_trans zn2 Kq4.1
  have E_b2 := E_b2_p
  have F_value_b2 := F_value_b2_p
  have F_coder_b2 := F_coder_b2_p
  have V_nb_4 := V_nb_4_p
  refine og (T4.setTop (mkF m 28 #[.val (.ref a0)] [(.ref b2)])) ?_ (fun tX kX => st4.trans kX)
  refine OGo.ret X4 (v := (some (.ref b2))) (fun h => by rw [Bd.returns] at h; cases h) (BodyLoose.notSynchronized Bd) (fun fs hr => retOut X4 hx Bd.returns rfl (Or.inr (Or.inr (Or.inr (Or.inr ⟨rfl, rfl, rfl⟩)))) (hb hby d1_28) hr) (Q := Q1G Z a0 ch nn kb vs cs fv cd mm res h0 n0) ?_ (by decide) (by decide)
  show Q1G Z a0 ch nn kb vs cs fv cd mm res h0 n0 _ T4.heap _
  exact ⟨b2, nb_4, kn_4, rfl, N4, K4, sz_b2, sz_nb_4, E_b2, F_value_b2, F_coder_b2, V_nb_4⟩
theorem d4_0 : oD4 0 (.aload_n 0) 1 := by decide +kernel
theorem d4_1 : oD4 1 (.invokespecial 1) 3 := by decide +kernel
theorem d4_4 : oD4 4 (.iload 4) 2 := by decide +kernel
theorem d4_6 : oD4 6 (.ifCond .ne 24) 3 := by decide +kernel
theorem d4_30 : oD4 30 (.aload_n 1) 1 := by decide +kernel
theorem d4_31 : oD4 31 (.getstatic 86) 3 := by decide +kernel
theorem d4_34 : oD4 34 (.if_acmp .ne 312) 3 := by decide +kernel
theorem d4_37 : oD4 37 (.getstatic 38) 3 := by decide +kernel
theorem d4_40 : oD4 40 (.ifCond .eq 252) 3 := by decide +kernel
theorem d4_43 : oD4 43 (.aload_n 2) 1 := by decide +kernel
theorem d4_44 : oD4 44 (.iload_n 3) 1 := by decide +kernel
theorem d4_45 : oD4 45 (.iload 4) 2 := by decide +kernel
theorem d4_47 : oD4 47 (.invokestatic 92) 3 := by decide +kernel
theorem pd___BII_I : parseMethodDescriptor "([BII)I" = some ⟨[(.array .byte), .int, .int], some .int⟩ := by decide +kernel
theorem d4_50 : oD4 50 (.istore 5) 2 := by decide +kernel
theorem d4_52 : oD4 52 (.iload 5) 2 := by decide +kernel
theorem d4_54 : oD4 54 (.iload 4) 2 := by decide +kernel
theorem d4_56 : oD4 56 (.if_icmp .ne 22) 3 := by decide +kernel
theorem d4_59 : oD4 59 (.aload_n 0) 1 := by decide +kernel
theorem d4_60 : oD4 60 (.aload_n 2) 1 := by decide +kernel
theorem d4_61 : oD4 61 (.iload_n 3) 1 := by decide +kernel
theorem d4_62 : oD4 62 (.iload_n 3) 1 := by decide +kernel
theorem d4_63 : oD4 63 (.iload 4) 2 := by decide +kernel
theorem d4_65 : oD4 65 .iadd 1 := by decide +kernel
theorem d4_66 : oD4 66 (.invokestatic 54) 3 := by decide +kernel
theorem pd___BII__B : parseMethodDescriptor "([BII)[B" = some ⟨[(.array .byte), .int, .int], some (.array .byte)⟩ := by decide +kernel
theorem d4_69 : oD4 69 (.putfield 9) 3 := by decide +kernel
theorem d4_72 : oD4 72 (.aload_n 0) 1 := by decide +kernel
theorem d4_73 : oD4 73 (.iconst 0) 1 := by decide +kernel
theorem d4_74 : oD4 74 (.putfield 15) 3 := by decide +kernel
theorem d4_77 : oD4 77 .return_ 1 := by decide +kernel
def P4A1 (Z : State) (a0 : Addr) (ch : Addr) (a2 : Addr) (u1 : Value) (u2 : Value) (kb : ClassId) (tv : Int32) (cs : Int32) (fv : Value) (h0 : Heap) (n0 : Nat) (s : State) (o : Outcome) (U' : State) : Prop := ∃ v L, o = .returned v ∧ Q4G Z a0 (0 : Int32) (1 : Int32) [(.int tv)] h0 n0 v U'.heap L ∧ FrameEnd s o U' L oR14.cells oR14.slots
set_option maxRecDepth 65536 in
set_option maxHeartbeats 40000000 in
theorem rm4A1 (l : Launch) (Z : State) (aV : Array Value) (hw : ∀ d ∈ tables_1, d.before aV Z = true) (ws : List Jvm.Cond) (a0 : Addr) (ch : Addr) (a2 : Addr) (u1 : Value) (u2 : Value) (kb : ClassId) (tv : Int32) (cs : Int32) (fv : Value) (h0 : Heap) (n0 : Nat) (Z0 : n0 ≤ h0.size) (E_a0 : Exa Z h0 a0 "java/lang/String") (F_value_a0 : Fld Z h0 a0 "java/lang/String" "value" "[B" u1) (F_coder_a0 : Fld Z h0 a0 "java/lang/String" "coder" "B" u2) (S_INSTANCE : Sta Z h0 "sun/nio/cs/UTF_8" "INSTANCE" "Lsun/nio/cs/UTF_8;" (.ref ch)) (S_COMPACT_STRINGS : Sta Z h0 "java/lang/String" "COMPACT_STRINGS" "Z" (.int cs)) (S_SIOOBE_FORMATTER : Sta Z h0 "jdk/internal/util/Preconditions" "SIOOBE_FORMATTER" "Ljava/util/function/BiFunction;" fv) (S__assertionsDisabled : Sta Z h0 "java/lang/StringUTF16" "$assertionsDisabled" "Z" (.int 1)) (S_HI_BYTE_SHIFT : Sta Z h0 "java/lang/StringUTF16" "HI_BYTE_SHIFT" "I" (.int 0)) (S_LO_BYTE_SHIFT : Sta Z h0 "java/lang/StringUTF16" "LO_BYTE_SHIFT" "I" (.int 8)) (E_a2 : Exa Z h0 a2 "[B") (V_a2 : Arv Z h0 a2 kb .byte (1 : Int32) [(.int tv)] (.int 0)) (ga : n0 ≤ a0) (hcs : ¬ cs = 0) (hfv : fv.isRef = true) (hA0 : ¬ tv < 0) :
    MetFree l oM39 (head1 (Jvm.Cond.codeWith oM39 jdk_42_method_11_code 11 none [(800, 813, 816, 202)] :: ws) oR14) (fun a U => a = #[(.ref a0), (.ref ch), (.ref a2), (.int 0), (.int 1)] ∧ Z.Warmed39 U.vm ∧ U.heap = h0) (fun _ _ _ _ _ => True) (fun _ U o U' => ∃ v L, o = .returned v ∧ Q4G Z a0 (0 : Int32) (1 : Int32) [(.int tv)] h0 n0 v U'.heap L ∧ FrameEnd U o U' L oR14.cells oR14.slots) := by
  refine MetFree.of_bodySF (plainFor_of_name pn_java_lang_String) hisWith ?_
  intro p e s m args below meth c s₁ Bd hml0 hP hK
  obtain ⟨rfl, hZ, hh⟩ := hP
  have hx := Bd.exec
  have hby := Bd.bytes
  have hml : c.maxLocals = 11 := hml0
  have hown : s.vm.findClass "java/lang/String" = some m.cls := findClass_of_methodNamed Bd.named
  have hnm := (name_of_methodNamed Bd.named Bd.method).1
  have X0 : Stand p l e oR14 s m #[(.ref a0), (.ref ch), (.ref a2), (.int 0), (.int 1)] below meth c s₁ [] 0 0 := Stand.of_body Bd
  have e0 : s₁.heap = h0 := by rw [← hh, Bd.state]; rfl
  have efx : entryFrame m #[(.ref a0), (.ref ch), (.ref a2), (.int 0), (.int 1)] 11 = mkF m 0 #[.val (.ref a0), .val (.ref ch), .val (.ref a2), .val (.int 0), .val (.int 1), .unset, .unset, .unset, .unset, .unset, .unset] [] := by first | (simp [entryFrame, mkF, argsToLocals, Value.category]; done) | rfl
  have N0 := Fr.nil n0
  have K0 : Keep h0 h0 [a0] := Keep.refl h0 _
  refine OGo.start (g' := mkF m 0 #[.val (.ref a0), .val (.ref ch), .val (.ref a2), .val (.int 0), .val (.int 1), .unset, .unset, .unset, .unset, .unset, .unset] []) (efx) ?_
  show OGo p.tables e below (P4A1 Z a0 ch a2 u1 u2 kb tv cs fv h0 n0 s) (s₁.setTop (mkF m 0 #[.val (.ref a0), .val (.ref ch), .val (.ref a2), .val (.int 0), .val (.int 1), .unset, .unset, .unset, .unset, .unset, .unset] []))
  refine og (s₁.setTop (mkF m 1 #[.val (.ref a0), .val (.ref ch), .val (.ref a2), .val (.int 0), .val (.int 1), .unset, .unset, .unset, .unset, .unset, .unset] [(.ref a0)])) ?_ (fun tX kX => XS.aloadN X0.here hx rfl (hb hby d4_0) rfl rfl kX)
  obtain ⟨T1, X1, e1, st1⟩ := initO X0 hx hZ hown (oW hw 25 rfl) (oW hw 26 rfl) (oW hw 27 rfl) e0 (g := (mkF m 1 #[.val (.ref a0), .val (.ref ch), .val (.ref a2), .val (.int 0), .val (.int 1), .unset, .unset, .unset, .unset, .unset, .unset] [(.ref a0)])) rfl (by rw [hml]; rfl) rfl (hb hby d4_1) (by decide) (W := 0) (by show 2 * 0 + _ ≤ _; exact Nat.le_of_eq rfl) (by decide)
  refine og (T1.setTop (mkF m 4 #[.val (.ref a0), .val (.ref ch), .val (.ref a2), .val (.int 0), .val (.int 1), .unset, .unset, .unset, .unset, .unset, .unset] [])) ?_ st1
  refine og (T1.setTop (mkF m 31 #[.val (.ref a0), .val (.ref ch), .val (.ref a2), .val (.int 0), .val (.int 1), .unset, .unset, .unset, .unset, .unset, .unset] [(.ref ch)])) ?_ (fun tX kX => XS.iload X1.here hx rfl (hb hby d4_4) rfl (XS.ifYes X1.here hx rfl (pc0 := 6) (pc' := 30) rfl (hb hby d4_6) rfl ((if0 _ _).trans (feq (by decide)).2) (by decide) (by decide) (XS.aloadN X1.here hx rfl (hb hby d4_30) rfl rfl kX)))
  obtain ⟨T2, X2, e2, st2⟩ := getS2 X1 hx hZ hown (host := "") (Or.inl (oW hw 28 rfl)) Via.refl e1 S_INSTANCE (g := (mkF m 31 #[.val (.ref a0), .val (.ref ch), .val (.ref a2), .val (.int 0), .val (.int 1), .unset, .unset, .unset, .unset, .unset, .unset] [(.ref ch)])) rfl (hb hby d4_31)
  refine og (T2.setTop (mkF m 34 #[.val (.ref a0), .val (.ref ch), .val (.ref a2), .val (.int 0), .val (.int 1), .unset, .unset, .unset, .unset, .unset, .unset] [(.ref ch), (.ref ch)])) ?_ st2
  refine og (T2.setTop (mkF m 37 #[.val (.ref a0), .val (.ref ch), .val (.ref a2), .val (.int 0), .val (.int 1), .unset, .unset, .unset, .unset, .unset, .unset] [])) ?_ (fun tX kX => Jvm.RoadKit.acmp (g := (mkF m 34 #[.val (.ref a0), .val (.ref ch), .val (.ref a2), .val (.int 0), .val (.int 1), .unset, .unset, .unset, .unset, .unset, .unset] [(.ref ch), (.ref ch)])) X2 hx rfl rfl rfl (pc0 := 34) (pc' := 37) (same := true) rfl (hb hby d4_34) rfl (decide_eq_true rfl) (by decide) (by decide) kX)
  obtain ⟨T3, X3, e3, st3⟩ := getS2 X2 hx hZ hown (host := "") (Or.inl (oW hw 30 rfl)) Via.refl e2 S_COMPACT_STRINGS (g := (mkF m 37 #[.val (.ref a0), .val (.ref ch), .val (.ref a2), .val (.int 0), .val (.int 1), .unset, .unset, .unset, .unset, .unset, .unset] [])) rfl (hb hby d4_37)
  refine og (T3.setTop (mkF m 40 #[.val (.ref a0), .val (.ref ch), .val (.ref a2), .val (.int 0), .val (.int 1), .unset, .unset, .unset, .unset, .unset, .unset] [(.int cs)])) ?_ st3
  refine og (T3.setTop (mkF m 47 #[.val (.ref a0), .val (.ref ch), .val (.ref a2), .val (.int 0), .val (.int 1), .unset, .unset, .unset, .unset, .unset, .unset] [(.int 1), (.int 0), (.ref a2)])) ?_ (fun tX kX => XS.ifNo X3.here hx rfl (hb hby d4_40) rfl ((if0 _ _).trans (feq hcs).1) (XS.aloadN X3.here hx rfl (hb hby d4_43) rfl rfl (XS.iloadN X3.here hx rfl (hb hby d4_44) rfl (XS.iload X3.here hx rfl (hb hby d4_45) rfl kX))))
  obtain ⟨_, _, ⟨T4, L4, k4, n4⟩, -, X4, ⟨Lc4, hQ4, l4, y4, z4⟩, st4⟩ := Jvm.LawKit.callS X3 hx (y := oM27) hown (mvT hZ (oW hw 31 rfl)) (mvT hZ (oW hw 32 rfl)) (mvT hZ (oW hw 33 rfl)) (mvT hZ (oW hw 34 rfl)) (by decide) (backOf (W := 0) (rm6A1 l Z aV hw [] a2 kb tv h0 n0 Z0 V_a2 hA0) hZ (oW hw 34 rfl) (oW hw 33 rfl) (by decide) (by decide)) (g := (mkF m 47 #[.val (.ref a0), .val (.ref ch), .val (.ref a2), .val (.int 0), .val (.int 1), .unset, .unset, .unset, .unset, .unset, .unset] [(.int 1), (.int 0), (.ref a2)])) rfl (by rw [hml]; rfl) (argsL := [(.ref a2), (.int 0), (.int 1)]) (rest := []) (lenOf pd___BII_I rfl) rfl (by show 2 * 0 + _ ≤ _; exact Nat.le_of_eq rfl) (hb hby d4_47) (fun _ _ => ⟨rfl, e3, (by decide : 0 + 0 ≤ _), (by decide : 0 + 0 ≤ _)⟩)
  dsimp only [Pt.U, Pt.locs, Pt.cells, Pt.slots] at X4 l4 y4 z4 st4 hQ4
  subst l4 y4 z4
  obtain ⟨rfl, N4q, e4⟩ := hQ4
  have N4 := Fr.app N0 N4q
  refine og (T4.setTop (mkF m 50 #[.val (.ref a0), .val (.ref ch), .val (.ref a2), .val (.int 0), .val (.int 1), .unset, .unset, .unset, .unset, .unset, .unset] [(.int 1)])) ?_ st4
  refine og (T4.setTop (mkF m 61 #[.val (.ref a0), .val (.ref ch), .val (.ref a2), .val (.int 0), .val (.int 1), .val (.int 1), .unset, .unset, .unset, .unset, .unset] [(.ref a2), (.ref a0)])) ?_ (fun tX kX => XS.istore X4.here hx rfl (hb hby d4_50) rfl (l' := #[.val (.ref a0), .val (.ref ch), .val (.ref a2), .val (.int 0), .val (.int 1), .val (.int 1), .unset, .unset, .unset, .unset, .unset]) rfl (XS.iload X4.here hx rfl (hb hby d4_52) rfl (XS.iload X4.here hx rfl (hb hby d4_54) rfl (XS.icmpNo X4.here hx rfl (hb hby d4_56) rfl (teq (by decide)).2 (XS.aloadN X4.here hx rfl (hb hby d4_59) rfl rfl (XS.aloadN X4.here hx rfl (hb hby d4_60) rfl rfl kX))))))
  refine og (T4.setTop (mkF m 66 #[.val (.ref a0), .val (.ref ch), .val (.ref a2), .val (.int 0), .val (.int 1), .val (.int 1), .unset, .unset, .unset, .unset, .unset] [(.int 1), (.int 0), (.ref a2), (.ref a0)])) ?_ (fun tX kX => XS.iloadN X4.here hx rfl (hb hby d4_61) rfl (XS.iloadN X4.here hx rfl (hb hby d4_62) rfl (XS.iload X4.here hx rfl (hb hby d4_63) rfl (XS.iadd X4.here hx rfl (hb hby d4_65) rfl kX))))
  obtain ⟨_, _, ⟨T5, L5, k5, n5⟩, -, X5, ⟨Lc5, hQ5, l5, y5, z5⟩, st5⟩ := Jvm.LawKit.callS X4 hx (y := oM28) hown (mvT hZ (oW hw 35 rfl)) (mvT hZ (oW hw 36 rfl)) (mvT hZ (oW hw 37 rfl)) (mvT hZ (oW hw 38 rfl)) (by decide) (backOf (W := 1) (rm7 l Z aV hw [] a2 (1 : Int32) kb [(.int tv)] h0 n0 Z0 E_a2 V_a2 (by decide)) hZ (oW hw 38 rfl) (oW hw 37 rfl) (by decide) (by decide)) (g := (mkF m 66 #[.val (.ref a0), .val (.ref ch), .val (.ref a2), .val (.int 0), .val (.int 1), .val (.int 1), .unset, .unset, .unset, .unset, .unset] [(.int 1), (.int 0), (.ref a2), (.ref a0)])) rfl (by rw [hml]; rfl) (argsL := [(.ref a2), (.int 0), (.int 1)]) (rest := [(.ref a0)]) (lenOf pd___BII__B rfl) rfl (by show 2 * 0 + _ ≤ _; exact Nat.le_of_eq rfl) (hb hby d4_66) (fun _ _ => ⟨rfl, e4, (by decide : 0 + 1 ≤ _), (by decide : 0 + 5 ≤ _)⟩)
  dsimp only [Pt.U, Pt.locs, Pt.cells, Pt.slots] at X5 l5 y5 z5 st5 hQ5
  subst l5 y5 z5
  obtain ⟨nb_5, rfl, N5q, Kq5, sz5_nb, V_nb_5_p⟩ := hQ5
  have N5 := Fr.app N4 N5q
  have ne_a0_nb_5 : a0 ≠ nb_5 := Nat.ne_of_lt (Nat.lt_of_lt_of_le E_a0.lt sz5_nb)
  have ne_a2_nb_5 : a2 ≠ nb_5 := Nat.ne_of_lt (Nat.lt_of_lt_of_le E_a2.lt sz5_nb)
  have S_INSTANCE := Sta.keep0 S_INSTANCE Kq5
  have S_COMPACT_STRINGS := Sta.keep0 S_COMPACT_STRINGS Kq5
  have S_SIOOBE_FORMATTER := Sta.keep0 S_SIOOBE_FORMATTER Kq5
  have S__assertionsDisabled := Sta.keep0 S__assertionsDisabled Kq5
  have S_HI_BYTE_SHIFT := Sta.keep0 S_HI_BYTE_SHIFT Kq5
  have S_LO_BYTE_SHIFT := Sta.keep0 S_LO_BYTE_SHIFT Kq5
  have E_a0 := E_a0.keep Kq5
  have F_value_a0 := F_value_a0.keep Kq5 nin0
  have F_coder_a0 := F_coder_a0.keep Kq5 nin0
  have E_a2 := E_a2.keep Kq5
  have V_a2 := V_a2.keep Kq5 nin0
  have g_nb_5 : n0 ≤ nb_5 := Nat.le_trans Z0 sz5_nb
  have sz_nb_5 : h0.size ≤ nb_5 := Nat.le_trans K0.1 sz5_nb
  have K5 := K0.trans Kq5 all0
  have zn5 : n0 ≤ T5.heap.size := Nat.le_trans Z0 Kq5.1
  have V_nb_5 := V_nb_5_p
  refine og (T5.setTop (mkF m 69 #[.val (.ref a0), .val (.ref ch), .val (.ref a2), .val (.int 0), .val (.int 1), .val (.int 1), .unset, .unset, .unset, .unset, .unset] [(.ref nb_5), (.ref a0)])) ?_ st5
  obtain ⟨T6, h6, X6, e6, W6, st6⟩ := putF X5 hx hZ hown (host := "") (Or.inl (oW hw 48 rfl)) Via.refl rfl F_value_a0 E_a0 (Or.inr ⟨(oW hw 49 rfl), rfl, hnm⟩) (oW hw 8 rfl) (ty := (.array .byte)) (by decide) rfl rfl (g := (mkF m 69 #[.val (.ref a0), .val (.ref ch), .val (.ref a2), .val (.int 0), .val (.int 1), .val (.int 1), .unset, .unset, .unset, .unset, .unset] [(.ref nb_5), (.ref a0)])) rfl rfl (hb hby d4_69)
  have Eold6 := E_a0
  have E_a0 := E_a0.wr W6
  have F_value_a0 := F_value_a0.same W6
  have F_coder_a0 := F_coder_a0.other W6 (Or.inr (slot_ne (Or.inr (oW hw 51 rfl)) (Or.inr (oW hw 49 rfl)) (by decide) (t := .byte) (t' := (.array .byte)) (by decide) (by decide)))
  have S_INSTANCE := S_INSTANCE.wr W6
  have S_COMPACT_STRINGS := S_COMPACT_STRINGS.wr W6
  have S_SIOOBE_FORMATTER := S_SIOOBE_FORMATTER.wr W6
  have S__assertionsDisabled := S__assertionsDisabled.wr W6
  have S_HI_BYTE_SHIFT := S_HI_BYTE_SHIFT.wr W6
  have S_LO_BYTE_SHIFT := S_LO_BYTE_SHIFT.wr W6
  have E_a2 := E_a2.wr W6
  have V_a2 := V_a2.other W6 (Ne.symm (Exa.neArv Eold6 V_a2 (oW hw 8 rfl)))
  have V_nb_5 := V_nb_5.other W6 (Ne.symm ne_a0_nb_5)
  have K6 := K5.wr W6 (Or.inl (List.mem_of_getElem? (i := 0) rfl))
  have zn6 : n0 ≤ h6.size := Nat.le_trans zn5 (Keep.of_wr W6).1
  have N6 := Fr.snoc X6 N5 ga
  refine og (T6.setTop (mkF m 72 #[.val (.ref a0), .val (.ref ch), .val (.ref a2), .val (.int 0), .val (.int 1), .val (.int 1), .unset, .unset, .unset, .unset, .unset] [])) ?_ st6
  refine og (T6.setTop (mkF m 74 #[.val (.ref a0), .val (.ref ch), .val (.ref a2), .val (.int 0), .val (.int 1), .val (.int 1), .unset, .unset, .unset, .unset, .unset] [(.int 0), (.ref a0)])) ?_ (fun tX kX => XS.aloadN X6.here hx rfl (hb hby d4_72) rfl rfl (XS.iconst X6.here hx rfl (hb hby d4_73) kX))
  obtain ⟨T7, h7, X7, e7, W7, st7⟩ := putF X6 hx hZ hown (host := "") (Or.inl (oW hw 50 rfl)) Via.refl e6 F_coder_a0 E_a0 (Or.inr ⟨(oW hw 51 rfl), rfl, hnm⟩) (oW hw 8 rfl) (ty := .byte) (by decide) rfl rfl (g := (mkF m 74 #[.val (.ref a0), .val (.ref ch), .val (.ref a2), .val (.int 0), .val (.int 1), .val (.int 1), .unset, .unset, .unset, .unset, .unset] [(.int 0), (.ref a0)])) rfl rfl (hb hby d4_74)
  have Eold7 := E_a0
  have E_a0 := E_a0.wr W7
  have F_value_a0 := F_value_a0.other W7 (Or.inr (slot_ne (Or.inr (oW hw 49 rfl)) (Or.inr (oW hw 51 rfl)) (by decide) (t := (.array .byte)) (t' := .byte) (by decide) (by decide)))
  have F_coder_a0 := F_coder_a0.same W7
  have S_INSTANCE := S_INSTANCE.wr W7
  have S_COMPACT_STRINGS := S_COMPACT_STRINGS.wr W7
  have S_SIOOBE_FORMATTER := S_SIOOBE_FORMATTER.wr W7
  have S__assertionsDisabled := S__assertionsDisabled.wr W7
  have S_HI_BYTE_SHIFT := S_HI_BYTE_SHIFT.wr W7
  have S_LO_BYTE_SHIFT := S_LO_BYTE_SHIFT.wr W7
  have E_a2 := E_a2.wr W7
  have V_a2 := V_a2.other W7 (Ne.symm (Exa.neArv Eold7 V_a2 (oW hw 8 rfl)))
  have V_nb_5 := V_nb_5.other W7 (Ne.symm ne_a0_nb_5)
  have K7 := K6.wr W7 (Or.inl (List.mem_of_getElem? (i := 0) rfl))
  have zn7 : n0 ≤ h7.size := Nat.le_trans zn6 (Keep.of_wr W7).1
  have N7 := Fr.snoc X7 N6 ga
  refine og (T7.setTop (mkF m 77 #[.val (.ref a0), .val (.ref ch), .val (.ref a2), .val (.int 0), .val (.int 1), .val (.int 1), .unset, .unset, .unset, .unset, .unset] [])) ?_ st7
  refine OGo.ret X7 (v := none) (fun _ => rfl) (BodyLoose.notSynchronized Bd) (fun fs hr => X7.returnOut hx Bd.returns (hb hby d4_77) hr) (Q := Q4G Z a0 (0 : Int32) (1 : Int32) [(.int tv)] h0 n0) ?_ (by decide) (by decide)
  show Q4G Z a0 (0 : Int32) (1 : Int32) [(.int tv)] h0 n0 _ T7.heap _
  rw [e7]
  exact ⟨nb_5, kb, rfl, N7, K7, sz_nb_5, E_a0, F_value_a0, F_coder_a0, V_nb_5⟩
def P4A2 (Z : State) (a0 : Addr) (ch : Addr) (a2 : Addr) (u1 : Value) (u2 : Value) (kb : ClassId) (xa : Int32) (tv : Int32) (cs : Int32) (fv : Value) (h0 : Heap) (n0 : Nat) (s : State) (o : Outcome) (U' : State) : Prop := ∃ v L, o = .returned v ∧ Q4G Z a0 (0 : Int32) (2 : Int32) [(.int xa), (.int tv)] h0 n0 v U'.heap L ∧ FrameEnd s o U' L oR14.cells oR14.slots
set_option maxRecDepth 65536 in
set_option maxHeartbeats 40000000 in
theorem rm4A2 (l : Launch) (Z : State) (aV : Array Value) (hw : ∀ d ∈ tables_1, d.before aV Z = true) (ws : List Jvm.Cond) (a0 : Addr) (ch : Addr) (a2 : Addr) (u1 : Value) (u2 : Value) (kb : ClassId) (xa : Int32) (tv : Int32) (cs : Int32) (fv : Value) (h0 : Heap) (n0 : Nat) (Z0 : n0 ≤ h0.size) (E_a0 : Exa Z h0 a0 "java/lang/String") (F_value_a0 : Fld Z h0 a0 "java/lang/String" "value" "[B" u1) (F_coder_a0 : Fld Z h0 a0 "java/lang/String" "coder" "B" u2) (S_INSTANCE : Sta Z h0 "sun/nio/cs/UTF_8" "INSTANCE" "Lsun/nio/cs/UTF_8;" (.ref ch)) (S_COMPACT_STRINGS : Sta Z h0 "java/lang/String" "COMPACT_STRINGS" "Z" (.int cs)) (S_SIOOBE_FORMATTER : Sta Z h0 "jdk/internal/util/Preconditions" "SIOOBE_FORMATTER" "Ljava/util/function/BiFunction;" fv) (S__assertionsDisabled : Sta Z h0 "java/lang/StringUTF16" "$assertionsDisabled" "Z" (.int 1)) (S_HI_BYTE_SHIFT : Sta Z h0 "java/lang/StringUTF16" "HI_BYTE_SHIFT" "I" (.int 0)) (S_LO_BYTE_SHIFT : Sta Z h0 "java/lang/StringUTF16" "LO_BYTE_SHIFT" "I" (.int 8)) (E_a2 : Exa Z h0 a2 "[B") (V_a2 : Arv Z h0 a2 kb .byte (2 : Int32) [(.int xa), (.int tv)] (.int 0)) (ga : n0 ≤ a0) (hcs : ¬ cs = 0) (hfv : fv.isRef = true) (hA0 : ¬ xa < 0) (hA1 : ¬ tv < 0) :
    MetFree l oM39 (head1 (Jvm.Cond.codeWith oM39 jdk_42_method_11_code 11 none [(800, 813, 816, 202)] :: ws) oR14) (fun a U => a = #[(.ref a0), (.ref ch), (.ref a2), (.int 0), (.int 2)] ∧ Z.Warmed39 U.vm ∧ U.heap = h0) (fun _ _ _ _ _ => True) (fun _ U o U' => ∃ v L, o = .returned v ∧ Q4G Z a0 (0 : Int32) (2 : Int32) [(.int xa), (.int tv)] h0 n0 v U'.heap L ∧ FrameEnd U o U' L oR14.cells oR14.slots) := by
  refine MetFree.of_bodySF (plainFor_of_name pn_java_lang_String) hisWith ?_
  intro p e s m args below meth c s₁ Bd hml0 hP hK
  obtain ⟨rfl, hZ, hh⟩ := hP
  have hx := Bd.exec
  have hby := Bd.bytes
  have hml : c.maxLocals = 11 := hml0
  have hown : s.vm.findClass "java/lang/String" = some m.cls := findClass_of_methodNamed Bd.named
  have hnm := (name_of_methodNamed Bd.named Bd.method).1
  have X0 : Stand p l e oR14 s m #[(.ref a0), (.ref ch), (.ref a2), (.int 0), (.int 2)] below meth c s₁ [] 0 0 := Stand.of_body Bd
  have e0 : s₁.heap = h0 := by rw [← hh, Bd.state]; rfl
  have efx : entryFrame m #[(.ref a0), (.ref ch), (.ref a2), (.int 0), (.int 2)] 11 = mkF m 0 #[.val (.ref a0), .val (.ref ch), .val (.ref a2), .val (.int 0), .val (.int 2), .unset, .unset, .unset, .unset, .unset, .unset] [] := by first | (simp [entryFrame, mkF, argsToLocals, Value.category]; done) | rfl
  have N0 := Fr.nil n0
  have K0 : Keep h0 h0 [a0] := Keep.refl h0 _
  refine OGo.start (g' := mkF m 0 #[.val (.ref a0), .val (.ref ch), .val (.ref a2), .val (.int 0), .val (.int 2), .unset, .unset, .unset, .unset, .unset, .unset] []) (efx) ?_
  show OGo p.tables e below (P4A2 Z a0 ch a2 u1 u2 kb xa tv cs fv h0 n0 s) (s₁.setTop (mkF m 0 #[.val (.ref a0), .val (.ref ch), .val (.ref a2), .val (.int 0), .val (.int 2), .unset, .unset, .unset, .unset, .unset, .unset] []))
  refine og (s₁.setTop (mkF m 1 #[.val (.ref a0), .val (.ref ch), .val (.ref a2), .val (.int 0), .val (.int 2), .unset, .unset, .unset, .unset, .unset, .unset] [(.ref a0)])) ?_ (fun tX kX => XS.aloadN X0.here hx rfl (hb hby d4_0) rfl rfl kX)
  obtain ⟨T1, X1, e1, st1⟩ := initO X0 hx hZ hown (oW hw 25 rfl) (oW hw 26 rfl) (oW hw 27 rfl) e0 (g := (mkF m 1 #[.val (.ref a0), .val (.ref ch), .val (.ref a2), .val (.int 0), .val (.int 2), .unset, .unset, .unset, .unset, .unset, .unset] [(.ref a0)])) rfl (by rw [hml]; rfl) rfl (hb hby d4_1) (by decide) (W := 0) (by show 2 * 0 + _ ≤ _; exact Nat.le_of_eq rfl) (by decide)
  refine og (T1.setTop (mkF m 4 #[.val (.ref a0), .val (.ref ch), .val (.ref a2), .val (.int 0), .val (.int 2), .unset, .unset, .unset, .unset, .unset, .unset] [])) ?_ st1
  refine og (T1.setTop (mkF m 31 #[.val (.ref a0), .val (.ref ch), .val (.ref a2), .val (.int 0), .val (.int 2), .unset, .unset, .unset, .unset, .unset, .unset] [(.ref ch)])) ?_ (fun tX kX => XS.iload X1.here hx rfl (hb hby d4_4) rfl (XS.ifYes X1.here hx rfl (pc0 := 6) (pc' := 30) rfl (hb hby d4_6) rfl ((if0 _ _).trans (feq (by decide)).2) (by decide) (by decide) (XS.aloadN X1.here hx rfl (hb hby d4_30) rfl rfl kX)))
  obtain ⟨T2, X2, e2, st2⟩ := getS2 X1 hx hZ hown (host := "") (Or.inl (oW hw 28 rfl)) Via.refl e1 S_INSTANCE (g := (mkF m 31 #[.val (.ref a0), .val (.ref ch), .val (.ref a2), .val (.int 0), .val (.int 2), .unset, .unset, .unset, .unset, .unset, .unset] [(.ref ch)])) rfl (hb hby d4_31)
  refine og (T2.setTop (mkF m 34 #[.val (.ref a0), .val (.ref ch), .val (.ref a2), .val (.int 0), .val (.int 2), .unset, .unset, .unset, .unset, .unset, .unset] [(.ref ch), (.ref ch)])) ?_ st2
  refine og (T2.setTop (mkF m 37 #[.val (.ref a0), .val (.ref ch), .val (.ref a2), .val (.int 0), .val (.int 2), .unset, .unset, .unset, .unset, .unset, .unset] [])) ?_ (fun tX kX => Jvm.RoadKit.acmp (g := (mkF m 34 #[.val (.ref a0), .val (.ref ch), .val (.ref a2), .val (.int 0), .val (.int 2), .unset, .unset, .unset, .unset, .unset, .unset] [(.ref ch), (.ref ch)])) X2 hx rfl rfl rfl (pc0 := 34) (pc' := 37) (same := true) rfl (hb hby d4_34) rfl (decide_eq_true rfl) (by decide) (by decide) kX)
  obtain ⟨T3, X3, e3, st3⟩ := getS2 X2 hx hZ hown (host := "") (Or.inl (oW hw 30 rfl)) Via.refl e2 S_COMPACT_STRINGS (g := (mkF m 37 #[.val (.ref a0), .val (.ref ch), .val (.ref a2), .val (.int 0), .val (.int 2), .unset, .unset, .unset, .unset, .unset, .unset] [])) rfl (hb hby d4_37)
  refine og (T3.setTop (mkF m 40 #[.val (.ref a0), .val (.ref ch), .val (.ref a2), .val (.int 0), .val (.int 2), .unset, .unset, .unset, .unset, .unset, .unset] [(.int cs)])) ?_ st3
  refine og (T3.setTop (mkF m 47 #[.val (.ref a0), .val (.ref ch), .val (.ref a2), .val (.int 0), .val (.int 2), .unset, .unset, .unset, .unset, .unset, .unset] [(.int 2), (.int 0), (.ref a2)])) ?_ (fun tX kX => XS.ifNo X3.here hx rfl (hb hby d4_40) rfl ((if0 _ _).trans (feq hcs).1) (XS.aloadN X3.here hx rfl (hb hby d4_43) rfl rfl (XS.iloadN X3.here hx rfl (hb hby d4_44) rfl (XS.iload X3.here hx rfl (hb hby d4_45) rfl kX))))
  obtain ⟨_, _, ⟨T4, L4, k4, n4⟩, -, X4, ⟨Lc4, hQ4, l4, y4, z4⟩, st4⟩ := Jvm.LawKit.callS X3 hx (y := oM27) hown (mvT hZ (oW hw 31 rfl)) (mvT hZ (oW hw 32 rfl)) (mvT hZ (oW hw 33 rfl)) (mvT hZ (oW hw 34 rfl)) (by decide) (backOf (W := 0) (rm6A2 l Z aV hw [] a2 kb xa tv h0 n0 Z0 V_a2 hA0 hA1) hZ (oW hw 34 rfl) (oW hw 33 rfl) (by decide) (by decide)) (g := (mkF m 47 #[.val (.ref a0), .val (.ref ch), .val (.ref a2), .val (.int 0), .val (.int 2), .unset, .unset, .unset, .unset, .unset, .unset] [(.int 2), (.int 0), (.ref a2)])) rfl (by rw [hml]; rfl) (argsL := [(.ref a2), (.int 0), (.int 2)]) (rest := []) (lenOf pd___BII_I rfl) rfl (by show 2 * 0 + _ ≤ _; exact Nat.le_of_eq rfl) (hb hby d4_47) (fun _ _ => ⟨rfl, e3, (by decide : 0 + 0 ≤ _), (by decide : 0 + 0 ≤ _)⟩)
  dsimp only [Pt.U, Pt.locs, Pt.cells, Pt.slots] at X4 l4 y4 z4 st4 hQ4
  subst l4 y4 z4
  obtain ⟨rfl, N4q, e4⟩ := hQ4
  have N4 := Fr.app N0 N4q
  refine og (T4.setTop (mkF m 50 #[.val (.ref a0), .val (.ref ch), .val (.ref a2), .val (.int 0), .val (.int 2), .unset, .unset, .unset, .unset, .unset, .unset] [(.int 2)])) ?_ st4
  refine og (T4.setTop (mkF m 61 #[.val (.ref a0), .val (.ref ch), .val (.ref a2), .val (.int 0), .val (.int 2), .val (.int 2), .unset, .unset, .unset, .unset, .unset] [(.ref a2), (.ref a0)])) ?_ (fun tX kX => XS.istore X4.here hx rfl (hb hby d4_50) rfl (l' := #[.val (.ref a0), .val (.ref ch), .val (.ref a2), .val (.int 0), .val (.int 2), .val (.int 2), .unset, .unset, .unset, .unset, .unset]) rfl (XS.iload X4.here hx rfl (hb hby d4_52) rfl (XS.iload X4.here hx rfl (hb hby d4_54) rfl (XS.icmpNo X4.here hx rfl (hb hby d4_56) rfl (teq (by decide)).2 (XS.aloadN X4.here hx rfl (hb hby d4_59) rfl rfl (XS.aloadN X4.here hx rfl (hb hby d4_60) rfl rfl kX))))))
  refine og (T4.setTop (mkF m 66 #[.val (.ref a0), .val (.ref ch), .val (.ref a2), .val (.int 0), .val (.int 2), .val (.int 2), .unset, .unset, .unset, .unset, .unset] [(.int 2), (.int 0), (.ref a2), (.ref a0)])) ?_ (fun tX kX => XS.iloadN X4.here hx rfl (hb hby d4_61) rfl (XS.iloadN X4.here hx rfl (hb hby d4_62) rfl (XS.iload X4.here hx rfl (hb hby d4_63) rfl (XS.iadd X4.here hx rfl (hb hby d4_65) rfl kX))))
  obtain ⟨_, _, ⟨T5, L5, k5, n5⟩, -, X5, ⟨Lc5, hQ5, l5, y5, z5⟩, st5⟩ := Jvm.LawKit.callS X4 hx (y := oM28) hown (mvT hZ (oW hw 35 rfl)) (mvT hZ (oW hw 36 rfl)) (mvT hZ (oW hw 37 rfl)) (mvT hZ (oW hw 38 rfl)) (by decide) (backOf (W := 1) (rm7 l Z aV hw [] a2 (2 : Int32) kb [(.int xa), (.int tv)] h0 n0 Z0 E_a2 V_a2 (by decide)) hZ (oW hw 38 rfl) (oW hw 37 rfl) (by decide) (by decide)) (g := (mkF m 66 #[.val (.ref a0), .val (.ref ch), .val (.ref a2), .val (.int 0), .val (.int 2), .val (.int 2), .unset, .unset, .unset, .unset, .unset] [(.int 2), (.int 0), (.ref a2), (.ref a0)])) rfl (by rw [hml]; rfl) (argsL := [(.ref a2), (.int 0), (.int 2)]) (rest := [(.ref a0)]) (lenOf pd___BII__B rfl) rfl (by show 2 * 0 + _ ≤ _; exact Nat.le_of_eq rfl) (hb hby d4_66) (fun _ _ => ⟨rfl, e4, (by decide : 0 + 1 ≤ _), (by decide : 0 + 5 ≤ _)⟩)
  dsimp only [Pt.U, Pt.locs, Pt.cells, Pt.slots] at X5 l5 y5 z5 st5 hQ5
  subst l5 y5 z5
  obtain ⟨nb_5, rfl, N5q, Kq5, sz5_nb, V_nb_5_p⟩ := hQ5
  have N5 := Fr.app N4 N5q
  have ne_a0_nb_5 : a0 ≠ nb_5 := Nat.ne_of_lt (Nat.lt_of_lt_of_le E_a0.lt sz5_nb)
  have ne_a2_nb_5 : a2 ≠ nb_5 := Nat.ne_of_lt (Nat.lt_of_lt_of_le E_a2.lt sz5_nb)
  have S_INSTANCE := Sta.keep0 S_INSTANCE Kq5
  have S_COMPACT_STRINGS := Sta.keep0 S_COMPACT_STRINGS Kq5
  have S_SIOOBE_FORMATTER := Sta.keep0 S_SIOOBE_FORMATTER Kq5
  have S__assertionsDisabled := Sta.keep0 S__assertionsDisabled Kq5
  have S_HI_BYTE_SHIFT := Sta.keep0 S_HI_BYTE_SHIFT Kq5
  have S_LO_BYTE_SHIFT := Sta.keep0 S_LO_BYTE_SHIFT Kq5
  have E_a0 := E_a0.keep Kq5
  have F_value_a0 := F_value_a0.keep Kq5 nin0
  have F_coder_a0 := F_coder_a0.keep Kq5 nin0
  have E_a2 := E_a2.keep Kq5
  have V_a2 := V_a2.keep Kq5 nin0
  have g_nb_5 : n0 ≤ nb_5 := Nat.le_trans Z0 sz5_nb
  have sz_nb_5 : h0.size ≤ nb_5 := Nat.le_trans K0.1 sz5_nb
  have K5 := K0.trans Kq5 all0
  have zn5 : n0 ≤ T5.heap.size := Nat.le_trans Z0 Kq5.1
  have V_nb_5 := V_nb_5_p
  refine og (T5.setTop (mkF m 69 #[.val (.ref a0), .val (.ref ch), .val (.ref a2), .val (.int 0), .val (.int 2), .val (.int 2), .unset, .unset, .unset, .unset, .unset] [(.ref nb_5), (.ref a0)])) ?_ st5
  obtain ⟨T6, h6, X6, e6, W6, st6⟩ := putF X5 hx hZ hown (host := "") (Or.inl (oW hw 48 rfl)) Via.refl rfl F_value_a0 E_a0 (Or.inr ⟨(oW hw 49 rfl), rfl, hnm⟩) (oW hw 8 rfl) (ty := (.array .byte)) (by decide) rfl rfl (g := (mkF m 69 #[.val (.ref a0), .val (.ref ch), .val (.ref a2), .val (.int 0), .val (.int 2), .val (.int 2), .unset, .unset, .unset, .unset, .unset] [(.ref nb_5), (.ref a0)])) rfl rfl (hb hby d4_69)
  have Eold6 := E_a0
  have E_a0 := E_a0.wr W6
  have F_value_a0 := F_value_a0.same W6
  have F_coder_a0 := F_coder_a0.other W6 (Or.inr (slot_ne (Or.inr (oW hw 51 rfl)) (Or.inr (oW hw 49 rfl)) (by decide) (t := .byte) (t' := (.array .byte)) (by decide) (by decide)))
  have S_INSTANCE := S_INSTANCE.wr W6
  have S_COMPACT_STRINGS := S_COMPACT_STRINGS.wr W6
  have S_SIOOBE_FORMATTER := S_SIOOBE_FORMATTER.wr W6
  have S__assertionsDisabled := S__assertionsDisabled.wr W6
  have S_HI_BYTE_SHIFT := S_HI_BYTE_SHIFT.wr W6
  have S_LO_BYTE_SHIFT := S_LO_BYTE_SHIFT.wr W6
  have E_a2 := E_a2.wr W6
  have V_a2 := V_a2.other W6 (Ne.symm (Exa.neArv Eold6 V_a2 (oW hw 8 rfl)))
  have V_nb_5 := V_nb_5.other W6 (Ne.symm ne_a0_nb_5)
  have K6 := K5.wr W6 (Or.inl (List.mem_of_getElem? (i := 0) rfl))
  have zn6 : n0 ≤ h6.size := Nat.le_trans zn5 (Keep.of_wr W6).1
  have N6 := Fr.snoc X6 N5 ga
  refine og (T6.setTop (mkF m 72 #[.val (.ref a0), .val (.ref ch), .val (.ref a2), .val (.int 0), .val (.int 2), .val (.int 2), .unset, .unset, .unset, .unset, .unset] [])) ?_ st6
  refine og (T6.setTop (mkF m 74 #[.val (.ref a0), .val (.ref ch), .val (.ref a2), .val (.int 0), .val (.int 2), .val (.int 2), .unset, .unset, .unset, .unset, .unset] [(.int 0), (.ref a0)])) ?_ (fun tX kX => XS.aloadN X6.here hx rfl (hb hby d4_72) rfl rfl (XS.iconst X6.here hx rfl (hb hby d4_73) kX))
  obtain ⟨T7, h7, X7, e7, W7, st7⟩ := putF X6 hx hZ hown (host := "") (Or.inl (oW hw 50 rfl)) Via.refl e6 F_coder_a0 E_a0 (Or.inr ⟨(oW hw 51 rfl), rfl, hnm⟩) (oW hw 8 rfl) (ty := .byte) (by decide) rfl rfl (g := (mkF m 74 #[.val (.ref a0), .val (.ref ch), .val (.ref a2), .val (.int 0), .val (.int 2), .val (.int 2), .unset, .unset, .unset, .unset, .unset] [(.int 0), (.ref a0)])) rfl rfl (hb hby d4_74)
  have Eold7 := E_a0
  have E_a0 := E_a0.wr W7
  have F_value_a0 := F_value_a0.other W7 (Or.inr (slot_ne (Or.inr (oW hw 49 rfl)) (Or.inr (oW hw 51 rfl)) (by decide) (t := (.array .byte)) (t' := .byte) (by decide) (by decide)))
  have F_coder_a0 := F_coder_a0.same W7
  have S_INSTANCE := S_INSTANCE.wr W7
  have S_COMPACT_STRINGS := S_COMPACT_STRINGS.wr W7
  have S_SIOOBE_FORMATTER := S_SIOOBE_FORMATTER.wr W7
  have S__assertionsDisabled := S__assertionsDisabled.wr W7
  have S_HI_BYTE_SHIFT := S_HI_BYTE_SHIFT.wr W7
  have S_LO_BYTE_SHIFT := S_LO_BYTE_SHIFT.wr W7
  have E_a2 := E_a2.wr W7
  have V_a2 := V_a2.other W7 (Ne.symm (Exa.neArv Eold7 V_a2 (oW hw 8 rfl)))
  have V_nb_5 := V_nb_5.other W7 (Ne.symm ne_a0_nb_5)
  have K7 := K6.wr W7 (Or.inl (List.mem_of_getElem? (i := 0) rfl))
  have zn7 : n0 ≤ h7.size := Nat.le_trans zn6 (Keep.of_wr W7).1
  have N7 := Fr.snoc X7 N6 ga
  refine og (T7.setTop (mkF m 77 #[.val (.ref a0), .val (.ref ch), .val (.ref a2), .val (.int 0), .val (.int 2), .val (.int 2), .unset, .unset, .unset, .unset, .unset] [])) ?_ st7
  refine OGo.ret X7 (v := none) (fun _ => rfl) (BodyLoose.notSynchronized Bd) (fun fs hr => X7.returnOut hx Bd.returns (hb hby d4_77) hr) (Q := Q4G Z a0 (0 : Int32) (2 : Int32) [(.int xa), (.int tv)] h0 n0) ?_ (by decide) (by decide)
  show Q4G Z a0 (0 : Int32) (2 : Int32) [(.int xa), (.int tv)] h0 n0 _ T7.heap _
  rw [e7]
  exact ⟨nb_5, kb, rfl, N7, K7, sz_nb_5, E_a0, F_value_a0, F_coder_a0, V_nb_5⟩
theorem d4_78 : oD4 78 (.aload_n 2) 1 := by decide +kernel
theorem d4_79 : oD4 79 (.iload_n 3) 1 := by decide +kernel
theorem d4_80 : oD4 80 (.iload_n 3) 1 := by decide +kernel
theorem d4_81 : oD4 81 (.iload 4) 2 := by decide +kernel
theorem d4_83 : oD4 83 .iadd 1 := by decide +kernel
theorem d4_84 : oD4 84 (.invokestatic 54) 3 := by decide +kernel
theorem d4_87 : oD4 87 (.astore 6) 2 := by decide +kernel
theorem d4_89 : oD4 89 (.iload 5) 2 := by decide +kernel
theorem d4_91 : oD4 91 (.istore 7) 2 := by decide +kernel
theorem d4_93 : oD4 93 (.iload 7) 2 := by decide +kernel
theorem d4_95 : oD4 95 (.iload 4) 2 := by decide +kernel
theorem d4_97 : oD4 97 (.if_icmp .ge 93) 3 := by decide +kernel
theorem d4_100 : oD4 100 (.aload 6) 2 := by decide +kernel
theorem d4_102 : oD4 102 (.iload 7) 2 := by decide +kernel
theorem d4_104 : oD4 104 (.iinc 7 1) 3 := by decide +kernel
theorem d4_107 : oD4 107 .baload 1 := by decide +kernel
theorem d4_108 : oD4 108 (.istore 8) 2 := by decide +kernel
theorem d4_110 : oD4 110 (.iload 8) 2 := by decide +kernel
theorem d4_112 : oD4 112 (.ifCond .lt 17) 3 := by decide +kernel
theorem d4_129 : oD4 129 (.iload 8) 2 := by decide +kernel
theorem d4_131 : oD4 131 (.sipush 254) 3 := by decide +kernel
theorem d4_134 : oD4 134 .iand 1 := by decide +kernel
theorem d4_135 : oD4 135 (.sipush 194) 3 := by decide +kernel
theorem d4_138 : oD4 138 (.if_icmp .ne 46) 3 := by decide +kernel
theorem d4_141 : oD4 141 (.iload 7) 2 := by decide +kernel
theorem d4_143 : oD4 143 (.iload 4) 2 := by decide +kernel
theorem d4_145 : oD4 145 (.if_icmp .ge 39) 3 := by decide +kernel
theorem d4_148 : oD4 148 (.aload 6) 2 := by decide +kernel
theorem d4_150 : oD4 150 (.iload 7) 2 := by decide +kernel
theorem d4_152 : oD4 152 .baload 1 := by decide +kernel
theorem d4_153 : oD4 153 (.istore 9) 2 := by decide +kernel
theorem d4_155 : oD4 155 (.iload 9) 2 := by decide +kernel
theorem d4_157 : oD4 157 (.bipush (-64)) 2 := by decide +kernel
theorem d4_159 : oD4 159 (.if_icmp .ge 25) 3 := by decide +kernel
theorem d4_162 : oD4 162 (.aload 6) 2 := by decide +kernel
theorem d4_164 : oD4 164 (.iload 5) 2 := by decide +kernel
theorem d4_166 : oD4 166 (.iinc 5 1) 3 := by decide +kernel
theorem d4_169 : oD4 169 (.iload 8) 2 := by decide +kernel
theorem d4_171 : oD4 171 (.iload 9) 2 := by decide +kernel
theorem d4_173 : oD4 173 (.invokestatic 98) 3 := by decide +kernel
theorem d4_176 : oD4 176 .i2b 1 := by decide +kernel
theorem d4_177 : oD4 177 .bastore 1 := by decide +kernel
theorem d4_178 : oD4 178 (.iinc 7 1) 3 := by decide +kernel
theorem d4_181 : oD4 181 (.goto (-88)) 3 := by decide +kernel
theorem d4_115 : oD4 115 (.aload 6) 2 := by decide +kernel
theorem d4_117 : oD4 117 (.iload 5) 2 := by decide +kernel
theorem d4_119 : oD4 119 (.iinc 5 1) 3 := by decide +kernel
theorem d4_122 : oD4 122 (.iload 8) 2 := by decide +kernel
theorem d4_124 : oD4 124 .i2b 1 := by decide +kernel
theorem d4_125 : oD4 125 .bastore 1 := by decide +kernel
theorem d4_126 : oD4 126 (.goto (-33)) 3 := by decide +kernel
theorem d4_190 : oD4 190 (.iload 7) 2 := by decide +kernel
theorem d4_192 : oD4 192 (.iload 4) 2 := by decide +kernel
theorem d4_194 : oD4 194 (.if_icmp .ne 32) 3 := by decide +kernel
theorem d4_197 : oD4 197 (.iload 5) 2 := by decide +kernel
theorem d4_199 : oD4 199 (.aload 6) 2 := by decide +kernel
theorem d4_201 : oD4 201 .arraylength 1 := by decide +kernel
theorem d4_202 : oD4 202 (.if_icmp .eq 12) 3 := by decide +kernel
theorem d4_205 : oD4 205 (.aload 6) 2 := by decide +kernel
theorem d4_207 : oD4 207 (.iload 5) 2 := by decide +kernel
theorem d4_209 : oD4 209 (.invokestatic 102) 3 := by decide +kernel
theorem pd___BI__B : parseMethodDescriptor "([BI)[B" = some ⟨[(.array .byte), .int], some (.array .byte)⟩ := by decide +kernel
theorem d4_212 : oD4 212 (.astore 6) 2 := by decide +kernel
theorem d4_214 : oD4 214 (.aload_n 0) 1 := by decide +kernel
theorem d4_215 : oD4 215 (.aload 6) 2 := by decide +kernel
theorem d4_217 : oD4 217 (.putfield 9) 3 := by decide +kernel
theorem d4_220 : oD4 220 (.aload_n 0) 1 := by decide +kernel
theorem d4_221 : oD4 221 (.iconst 0) 1 := by decide +kernel
theorem d4_222 : oD4 222 (.putfield 15) 3 := by decide +kernel
theorem d4_225 : oD4 225 .return_ 1 := by decide +kernel
def P4L (Z : State) (a0 : Addr) (ch : Addr) (a2 : Addr) (u1 : Value) (u2 : Value) (kb : ClassId) (xa : Int32) (xb : Int32) (tv : Int32) (wa : Int32) (cs : Int32) (fv : Value) (h0 : Heap) (n0 : Nat) (s : State) (o : Outcome) (U' : State) : Prop := ∃ v L, o = .returned v ∧ Q4G Z a0 (0 : Int32) (2 : Int32) [(.int wa), (.int tv)] h0 n0 v U'.heap L ∧ FrameEnd s o U' L oR14.cells oR14.slots
set_option maxRecDepth 65536 in
set_option maxHeartbeats 40000000 in
theorem rm4L (l : Launch) (Z : State) (aV : Array Value) (hw : ∀ d ∈ tables_1, d.before aV Z = true) (ws : List Jvm.Cond) (a0 : Addr) (ch : Addr) (a2 : Addr) (u1 : Value) (u2 : Value) (kb : ClassId) (xa : Int32) (xb : Int32) (tv : Int32) (wa : Int32) (cs : Int32) (fv : Value) (h0 : Heap) (n0 : Nat) (Z0 : n0 ≤ h0.size) (E_a0 : Exa Z h0 a0 "java/lang/String") (F_value_a0 : Fld Z h0 a0 "java/lang/String" "value" "[B" u1) (F_coder_a0 : Fld Z h0 a0 "java/lang/String" "coder" "B" u2) (S_INSTANCE : Sta Z h0 "sun/nio/cs/UTF_8" "INSTANCE" "Lsun/nio/cs/UTF_8;" (.ref ch)) (S_COMPACT_STRINGS : Sta Z h0 "java/lang/String" "COMPACT_STRINGS" "Z" (.int cs)) (S_SIOOBE_FORMATTER : Sta Z h0 "jdk/internal/util/Preconditions" "SIOOBE_FORMATTER" "Ljava/util/function/BiFunction;" fv) (S__assertionsDisabled : Sta Z h0 "java/lang/StringUTF16" "$assertionsDisabled" "Z" (.int 1)) (S_HI_BYTE_SHIFT : Sta Z h0 "java/lang/StringUTF16" "HI_BYTE_SHIFT" "I" (.int 0)) (S_LO_BYTE_SHIFT : Sta Z h0 "java/lang/StringUTF16" "LO_BYTE_SHIFT" "I" (.int 8)) (E_a2 : Exa Z h0 a2 "[B") (V_a2 : Arv Z h0 a2 kb .byte (3 : Int32) [(.int xa), (.int xb), (.int tv)] (.int 0)) (ga : n0 ≤ a0) (hcs : ¬ cs = 0) (hfv : fv.isRef = true) (hH : own_HL xa xb wa) (hT : own_HT tv) :
    MetFree l oM39 (head1 (Jvm.Cond.codeWith oM39 jdk_42_method_11_code 11 none [(800, 813, 816, 202)] :: ws) oR14) (fun a U => a = #[(.ref a0), (.ref ch), (.ref a2), (.int 0), (.int 3)] ∧ Z.Warmed39 U.vm ∧ U.heap = h0) (fun _ _ _ _ _ => True) (fun _ U o U' => ∃ v L, o = .returned v ∧ Q4G Z a0 (0 : Int32) (2 : Int32) [(.int wa), (.int tv)] h0 n0 v U'.heap L ∧ FrameEnd U o U' L oR14.cells oR14.slots) := by
  refine MetFree.of_bodySF (plainFor_of_name pn_java_lang_String) hisWith ?_
  intro p e s m args below meth c s₁ Bd hml0 hP hK
  obtain ⟨rfl, hZ, hh⟩ := hP
  have hx := Bd.exec
  have hby := Bd.bytes
  have hml : c.maxLocals = 11 := hml0
  have hown : s.vm.findClass "java/lang/String" = some m.cls := findClass_of_methodNamed Bd.named
  have hnm := (name_of_methodNamed Bd.named Bd.method).1
  have X0 : Stand p l e oR14 s m #[(.ref a0), (.ref ch), (.ref a2), (.int 0), (.int 3)] below meth c s₁ [] 0 0 := Stand.of_body Bd
  have e0 : s₁.heap = h0 := by rw [← hh, Bd.state]; rfl
  have efx : entryFrame m #[(.ref a0), (.ref ch), (.ref a2), (.int 0), (.int 3)] 11 = mkF m 0 #[.val (.ref a0), .val (.ref ch), .val (.ref a2), .val (.int 0), .val (.int 3), .unset, .unset, .unset, .unset, .unset, .unset] [] := by first | (simp [entryFrame, mkF, argsToLocals, Value.category]; done) | rfl
  have N0 := Fr.nil n0
  have K0 : Keep h0 h0 [a0] := Keep.refl h0 _
  refine OGo.start (g' := mkF m 0 #[.val (.ref a0), .val (.ref ch), .val (.ref a2), .val (.int 0), .val (.int 3), .unset, .unset, .unset, .unset, .unset, .unset] []) (efx) ?_
  show OGo p.tables e below (P4L Z a0 ch a2 u1 u2 kb xa xb tv wa cs fv h0 n0 s) (s₁.setTop (mkF m 0 #[.val (.ref a0), .val (.ref ch), .val (.ref a2), .val (.int 0), .val (.int 3), .unset, .unset, .unset, .unset, .unset, .unset] []))
  refine og (s₁.setTop (mkF m 1 #[.val (.ref a0), .val (.ref ch), .val (.ref a2), .val (.int 0), .val (.int 3), .unset, .unset, .unset, .unset, .unset, .unset] [(.ref a0)])) ?_ (fun tX kX => XS.aloadN X0.here hx rfl (hb hby d4_0) rfl rfl kX)
  obtain ⟨T1, X1, e1, st1⟩ := initO X0 hx hZ hown (oW hw 25 rfl) (oW hw 26 rfl) (oW hw 27 rfl) e0 (g := (mkF m 1 #[.val (.ref a0), .val (.ref ch), .val (.ref a2), .val (.int 0), .val (.int 3), .unset, .unset, .unset, .unset, .unset, .unset] [(.ref a0)])) rfl (by rw [hml]; rfl) rfl (hb hby d4_1) (by decide) (W := 0) (by show 2 * 0 + _ ≤ _; exact Nat.le_of_eq rfl) (by decide)
  refine og (T1.setTop (mkF m 4 #[.val (.ref a0), .val (.ref ch), .val (.ref a2), .val (.int 0), .val (.int 3), .unset, .unset, .unset, .unset, .unset, .unset] [])) ?_ st1
  refine og (T1.setTop (mkF m 31 #[.val (.ref a0), .val (.ref ch), .val (.ref a2), .val (.int 0), .val (.int 3), .unset, .unset, .unset, .unset, .unset, .unset] [(.ref ch)])) ?_ (fun tX kX => XS.iload X1.here hx rfl (hb hby d4_4) rfl (XS.ifYes X1.here hx rfl (pc0 := 6) (pc' := 30) rfl (hb hby d4_6) rfl ((if0 _ _).trans (feq (by decide)).2) (by decide) (by decide) (XS.aloadN X1.here hx rfl (hb hby d4_30) rfl rfl kX)))
  obtain ⟨T2, X2, e2, st2⟩ := getS2 X1 hx hZ hown (host := "") (Or.inl (oW hw 28 rfl)) Via.refl e1 S_INSTANCE (g := (mkF m 31 #[.val (.ref a0), .val (.ref ch), .val (.ref a2), .val (.int 0), .val (.int 3), .unset, .unset, .unset, .unset, .unset, .unset] [(.ref ch)])) rfl (hb hby d4_31)
  refine og (T2.setTop (mkF m 34 #[.val (.ref a0), .val (.ref ch), .val (.ref a2), .val (.int 0), .val (.int 3), .unset, .unset, .unset, .unset, .unset, .unset] [(.ref ch), (.ref ch)])) ?_ st2
  refine og (T2.setTop (mkF m 37 #[.val (.ref a0), .val (.ref ch), .val (.ref a2), .val (.int 0), .val (.int 3), .unset, .unset, .unset, .unset, .unset, .unset] [])) ?_ (fun tX kX => Jvm.RoadKit.acmp (g := (mkF m 34 #[.val (.ref a0), .val (.ref ch), .val (.ref a2), .val (.int 0), .val (.int 3), .unset, .unset, .unset, .unset, .unset, .unset] [(.ref ch), (.ref ch)])) X2 hx rfl rfl rfl (pc0 := 34) (pc' := 37) (same := true) rfl (hb hby d4_34) rfl (decide_eq_true rfl) (by decide) (by decide) kX)
  obtain ⟨T3, X3, e3, st3⟩ := getS2 X2 hx hZ hown (host := "") (Or.inl (oW hw 30 rfl)) Via.refl e2 S_COMPACT_STRINGS (g := (mkF m 37 #[.val (.ref a0), .val (.ref ch), .val (.ref a2), .val (.int 0), .val (.int 3), .unset, .unset, .unset, .unset, .unset, .unset] [])) rfl (hb hby d4_37)
  refine og (T3.setTop (mkF m 40 #[.val (.ref a0), .val (.ref ch), .val (.ref a2), .val (.int 0), .val (.int 3), .unset, .unset, .unset, .unset, .unset, .unset] [(.int cs)])) ?_ st3
  refine og (T3.setTop (mkF m 47 #[.val (.ref a0), .val (.ref ch), .val (.ref a2), .val (.int 0), .val (.int 3), .unset, .unset, .unset, .unset, .unset, .unset] [(.int 3), (.int 0), (.ref a2)])) ?_ (fun tX kX => XS.ifNo X3.here hx rfl (hb hby d4_40) rfl ((if0 _ _).trans (feq hcs).1) (XS.aloadN X3.here hx rfl (hb hby d4_43) rfl rfl (XS.iloadN X3.here hx rfl (hb hby d4_44) rfl (XS.iload X3.here hx rfl (hb hby d4_45) rfl kX))))
  obtain ⟨_, _, ⟨T4, L4, k4, n4⟩, -, X4, ⟨Lc4, hQ4, l4, y4, z4⟩, st4⟩ := Jvm.LawKit.callS X3 hx (y := oM27) hown (mvT hZ (oW hw 31 rfl)) (mvT hZ (oW hw 32 rfl)) (mvT hZ (oW hw 33 rfl)) (mvT hZ (oW hw 34 rfl)) (by decide) (backOf (W := 0) (rm6N l Z aV hw [] a2 (3 : Int32) kb [(.int xa), (.int xb), (.int tv)] xa h0 n0 Z0 V_a2 (by decide) (by decide) rfl hH.1) hZ (oW hw 34 rfl) (oW hw 33 rfl) (by decide) (by decide)) (g := (mkF m 47 #[.val (.ref a0), .val (.ref ch), .val (.ref a2), .val (.int 0), .val (.int 3), .unset, .unset, .unset, .unset, .unset, .unset] [(.int 3), (.int 0), (.ref a2)])) rfl (by rw [hml]; rfl) (argsL := [(.ref a2), (.int 0), (.int 3)]) (rest := []) (lenOf pd___BII_I rfl) rfl (by show 2 * 0 + _ ≤ _; exact Nat.le_of_eq rfl) (hb hby d4_47) (fun _ _ => ⟨rfl, e3, (by decide : 0 + 0 ≤ _), (by decide : 0 + 0 ≤ _)⟩)
  dsimp only [Pt.U, Pt.locs, Pt.cells, Pt.slots] at X4 l4 y4 z4 st4 hQ4
  subst l4 y4 z4
  obtain ⟨rfl, N4q, e4⟩ := hQ4
  have N4 := Fr.app N0 N4q
  refine og (T4.setTop (mkF m 50 #[.val (.ref a0), .val (.ref ch), .val (.ref a2), .val (.int 0), .val (.int 3), .unset, .unset, .unset, .unset, .unset, .unset] [(.int 0)])) ?_ st4
  refine og (T4.setTop (mkF m 80 #[.val (.ref a0), .val (.ref ch), .val (.ref a2), .val (.int 0), .val (.int 3), .val (.int 0), .unset, .unset, .unset, .unset, .unset] [(.int 0), (.ref a2)])) ?_ (fun tX kX => XS.istore X4.here hx rfl (hb hby d4_50) rfl (l' := #[.val (.ref a0), .val (.ref ch), .val (.ref a2), .val (.int 0), .val (.int 3), .val (.int 0), .unset, .unset, .unset, .unset, .unset]) rfl (XS.iload X4.here hx rfl (hb hby d4_52) rfl (XS.iload X4.here hx rfl (hb hby d4_54) rfl (XS.icmpYes X4.here hx rfl (pc0 := 56) (pc' := 78) rfl (hb hby d4_56) rfl (feq (by decide)).2 (by decide) (by decide) (XS.aloadN X4.here hx rfl (hb hby d4_78) rfl rfl (XS.iloadN X4.here hx rfl (hb hby d4_79) rfl kX))))))
  refine og (T4.setTop (mkF m 84 #[.val (.ref a0), .val (.ref ch), .val (.ref a2), .val (.int 0), .val (.int 3), .val (.int 0), .unset, .unset, .unset, .unset, .unset] [(.int 3), (.int 0), (.ref a2)])) ?_ (fun tX kX => XS.iloadN X4.here hx rfl (hb hby d4_80) rfl (XS.iload X4.here hx rfl (hb hby d4_81) rfl (XS.iadd X4.here hx rfl (hb hby d4_83) rfl kX)))
  obtain ⟨_, _, ⟨T5, L5, k5, n5⟩, -, X5, ⟨Lc5, hQ5, l5, y5, z5⟩, st5⟩ := Jvm.LawKit.callS X4 hx (y := oM28) hown (mvT hZ (oW hw 35 rfl)) (mvT hZ (oW hw 36 rfl)) (mvT hZ (oW hw 37 rfl)) (mvT hZ (oW hw 38 rfl)) (by decide) (backOf (W := 0) (rm7 l Z aV hw [] a2 (3 : Int32) kb [(.int xa), (.int xb), (.int tv)] h0 n0 Z0 E_a2 V_a2 (by decide)) hZ (oW hw 38 rfl) (oW hw 37 rfl) (by decide) (by decide)) (g := (mkF m 84 #[.val (.ref a0), .val (.ref ch), .val (.ref a2), .val (.int 0), .val (.int 3), .val (.int 0), .unset, .unset, .unset, .unset, .unset] [(.int 3), (.int 0), (.ref a2)])) rfl (by rw [hml]; rfl) (argsL := [(.ref a2), (.int 0), (.int 3)]) (rest := []) (lenOf pd___BII__B rfl) rfl (by show 2 * 0 + _ ≤ _; exact Nat.le_of_eq rfl) (hb hby d4_84) (fun _ _ => ⟨rfl, e4, (by decide : 0 + 1 ≤ _), (by decide : 0 + 5 ≤ _)⟩)
  dsimp only [Pt.U, Pt.locs, Pt.cells, Pt.slots] at X5 l5 y5 z5 st5 hQ5
  subst l5 y5 z5
  obtain ⟨nb_5, rfl, N5q, Kq5, sz5_nb, V_nb_5_p⟩ := hQ5
  have N5 := Fr.app N4 N5q
  have ne_a0_nb_5 : a0 ≠ nb_5 := Nat.ne_of_lt (Nat.lt_of_lt_of_le E_a0.lt sz5_nb)
  have ne_a2_nb_5 : a2 ≠ nb_5 := Nat.ne_of_lt (Nat.lt_of_lt_of_le E_a2.lt sz5_nb)
  have S_INSTANCE := Sta.keep0 S_INSTANCE Kq5
  have S_COMPACT_STRINGS := Sta.keep0 S_COMPACT_STRINGS Kq5
  have S_SIOOBE_FORMATTER := Sta.keep0 S_SIOOBE_FORMATTER Kq5
  have S__assertionsDisabled := Sta.keep0 S__assertionsDisabled Kq5
  have S_HI_BYTE_SHIFT := Sta.keep0 S_HI_BYTE_SHIFT Kq5
  have S_LO_BYTE_SHIFT := Sta.keep0 S_LO_BYTE_SHIFT Kq5
  have E_a0 := E_a0.keep Kq5
  have F_value_a0 := F_value_a0.keep Kq5 nin0
  have F_coder_a0 := F_coder_a0.keep Kq5 nin0
  have E_a2 := E_a2.keep Kq5
  have V_a2 := V_a2.keep Kq5 nin0
  have g_nb_5 : n0 ≤ nb_5 := Nat.le_trans Z0 sz5_nb
  have sz_nb_5 : h0.size ≤ nb_5 := Nat.le_trans K0.1 sz5_nb
  have K5 := K0.trans Kq5 all0
  have zn5 : n0 ≤ T5.heap.size := Nat.le_trans Z0 Kq5.1
  have V_nb_5 := V_nb_5_p
  refine og (T5.setTop (mkF m 87 #[.val (.ref a0), .val (.ref ch), .val (.ref a2), .val (.int 0), .val (.int 3), .val (.int 0), .unset, .unset, .unset, .unset, .unset] [(.ref nb_5)])) ?_ st5
  refine og (T5.setTop (mkF m 100 #[.val (.ref a0), .val (.ref ch), .val (.ref a2), .val (.int 0), .val (.int 3), .val (.int 0), .val (.ref nb_5), .val (.int 0), .unset, .unset, .unset] [])) ?_ (fun tX kX => XS.astore X5.here hx rfl (hb hby d4_87) rfl rfl (l' := #[.val (.ref a0), .val (.ref ch), .val (.ref a2), .val (.int 0), .val (.int 3), .val (.int 0), .val (.ref nb_5), .unset, .unset, .unset, .unset]) rfl (XS.iload X5.here hx rfl (hb hby d4_89) rfl (XS.istore X5.here hx rfl (hb hby d4_91) rfl (l' := #[.val (.ref a0), .val (.ref ch), .val (.ref a2), .val (.int 0), .val (.int 3), .val (.int 0), .val (.ref nb_5), .val (.int 0), .unset, .unset, .unset]) rfl (XS.iload X5.here hx rfl (hb hby d4_93) rfl (XS.iload X5.here hx rfl (hb hby d4_95) rfl (XS.icmpNo X5.here hx rfl (hb hby d4_97) rfl (tlt (by decide)).2.1 kX))))))
  refine og (T5.setTop (mkF m 107 #[.val (.ref a0), .val (.ref ch), .val (.ref a2), .val (.int 0), .val (.int 3), .val (.int 0), .val (.ref nb_5), .val (.int 1), .unset, .unset, .unset] [(.int 0), (.ref nb_5)])) ?_ (fun tX kX => XS.aload X5.here hx rfl (hb hby d4_100) rfl rfl (XS.iload X5.here hx rfl (hb hby d4_102) rfl (XS.iinc X5.here hx rfl (hb hby d4_104) rfl (l' := #[.val (.ref a0), .val (.ref ch), .val (.ref a2), .val (.int 0), .val (.int 3), .val (.int 0), .val (.ref nb_5), .val (.int 1), .unset, .unset, .unset]) rfl kX)))
  obtain ⟨cl6, Ar6, qa6, S6, N6', H6, G6⟩ := id V_nb_5
  have hin6 := inb_of (j := (0 : Int32)) S6 ⟨by decide, by decide⟩
  have hat6 := H6.at (v := (.int xa)) hin6 rfl
  refine og (T5.setTop (mkF m 134 #[.val (.ref a0), .val (.ref ch), .val (.ref a2), .val (.int 0), .val (.int 3), .val (.int 0), .val (.ref nb_5), .val (.int 1), .val (.int xa), .unset, .unset] [(.int 254), (.int xa)])) ?_ (fun tX kX => X5.baloadBytes hx (j := (0 : Int32)) (v := (.int xa)) Ar6.1 (State.isArrayOf_alike hZ.alike Ar6.2.1) Ar6.2.2 hin6 hat6 (g := (mkF m 107 #[.val (.ref a0), .val (.ref ch), .val (.ref a2), .val (.int 0), .val (.int 3), .val (.int 0), .val (.ref nb_5), .val (.int 1), .unset, .unset, .unset] [(.int 0), (.ref nb_5)])) rfl rfl (hb hby d4_107) _ (XS.istore X5.here hx rfl (hb hby d4_108) rfl (l' := #[.val (.ref a0), .val (.ref ch), .val (.ref a2), .val (.int 0), .val (.int 3), .val (.int 0), .val (.ref nb_5), .val (.int 1), .val (.int xa), .unset, .unset]) rfl (XS.iload X5.here hx rfl (hb hby d4_110) rfl (XS.ifYes X5.here hx rfl (pc0 := 112) (pc' := 129) rfl (hb hby d4_112) rfl ((if0 _ _).trans (tlt hH.1).1) (by decide) (by decide) (XS.iload X5.here hx rfl (hb hby d4_129) rfl (XS.sipush X5.here hx rfl (hb hby d4_131) kX))))))
  refine og (T5.setTop (mkF m 148 #[.val (.ref a0), .val (.ref ch), .val (.ref a2), .val (.int 0), .val (.int 3), .val (.int 0), .val (.ref nb_5), .val (.int 1), .val (.int xa), .unset, .unset] [])) ?_ (fun tX kX => XS.iand X5.here hx rfl (hb hby d4_134) rfl (XS.sipush X5.here hx rfl (hb hby d4_135) (XS.icmpNo X5.here hx rfl (hb hby d4_138) rfl (teq hH.2.1).2 (XS.iload X5.here hx rfl (hb hby d4_141) rfl (XS.iload X5.here hx rfl (hb hby d4_143) rfl (XS.icmpNo X5.here hx rfl (hb hby d4_145) rfl (tlt (by decide)).2.1 kX))))))
  refine og (T5.setTop (mkF m 152 #[.val (.ref a0), .val (.ref ch), .val (.ref a2), .val (.int 0), .val (.int 3), .val (.int 0), .val (.ref nb_5), .val (.int 1), .val (.int xa), .unset, .unset] [(.int 1), (.ref nb_5)])) ?_ (fun tX kX => XS.aload X5.here hx rfl (hb hby d4_148) rfl rfl (XS.iload X5.here hx rfl (hb hby d4_150) rfl kX))
  obtain ⟨cl7, Ar7, qa7, S7, N7', H7, G7⟩ := id V_nb_5
  have hin7 := inb_of (j := (1 : Int32)) S7 ⟨by decide, by decide⟩
  have hat7 := H7.at (v := (.int xb)) hin7 rfl
  refine og (T5.setTop (mkF m 164 #[.val (.ref a0), .val (.ref ch), .val (.ref a2), .val (.int 0), .val (.int 3), .val (.int 0), .val (.ref nb_5), .val (.int 1), .val (.int xa), .val (.int xb), .unset] [(.ref nb_5)])) ?_ (fun tX kX => X5.baloadBytes hx (j := (1 : Int32)) (v := (.int xb)) Ar7.1 (State.isArrayOf_alike hZ.alike Ar7.2.1) Ar7.2.2 hin7 hat7 (g := (mkF m 152 #[.val (.ref a0), .val (.ref ch), .val (.ref a2), .val (.int 0), .val (.int 3), .val (.int 0), .val (.ref nb_5), .val (.int 1), .val (.int xa), .unset, .unset] [(.int 1), (.ref nb_5)])) rfl rfl (hb hby d4_152) _ (XS.istore X5.here hx rfl (hb hby d4_153) rfl (l' := #[.val (.ref a0), .val (.ref ch), .val (.ref a2), .val (.int 0), .val (.int 3), .val (.int 0), .val (.ref nb_5), .val (.int 1), .val (.int xa), .val (.int xb), .unset]) rfl (XS.iload X5.here hx rfl (hb hby d4_155) rfl (XS.bipush X5.here hx rfl (hb hby d4_157) (XS.icmpNo X5.here hx rfl (hb hby d4_159) rfl (tlt hH.2.2.1).2.1 (XS.aload X5.here hx rfl (hb hby d4_162) rfl rfl kX))))))
  refine og (T5.setTop (mkF m 173 #[.val (.ref a0), .val (.ref ch), .val (.ref a2), .val (.int 0), .val (.int 3), .val (.int 1), .val (.ref nb_5), .val (.int 1), .val (.int xa), .val (.int xb), .unset] [(.int xb), (.int xa), (.int 0), (.ref nb_5)])) ?_ (fun tX kX => XS.iload X5.here hx rfl (hb hby d4_164) rfl (XS.iinc X5.here hx rfl (hb hby d4_166) rfl (l' := #[.val (.ref a0), .val (.ref ch), .val (.ref a2), .val (.int 0), .val (.int 3), .val (.int 1), .val (.ref nb_5), .val (.int 1), .val (.int xa), .val (.int xb), .unset]) rfl (XS.iload X5.here hx rfl (hb hby d4_169) rfl (XS.iload X5.here hx rfl (hb hby d4_171) rfl kX))))
  obtain ⟨_, _, ⟨T8, L8, k8, n8⟩, -, X8, ⟨Lc8, hQ8, l8, y8, z8⟩, st8⟩ := Jvm.LawKit.callS X5 hx (y := oM1) hown (mvT hZ (oW hw 88 rfl)) (mvT hZ (oW hw 89 rfl)) (mvT hZ (oW hw 9 rfl)) (mvT hZ (oW hw 90 rfl)) (by decide) (backOf (W := 2) (rm16 l Z aV hw [] xa xb T5.heap n0 zn5) hZ (oW hw 90 rfl) (oW hw 9 rfl) (by decide) (by decide)) (g := (mkF m 173 #[.val (.ref a0), .val (.ref ch), .val (.ref a2), .val (.int 0), .val (.int 3), .val (.int 1), .val (.ref nb_5), .val (.int 1), .val (.int xa), .val (.int xb), .unset] [(.int xb), (.int xa), (.int 0), (.ref nb_5)])) rfl (by rw [hml]; rfl) (argsL := [(.int xa), (.int xb)]) (rest := [(.int 0), (.ref nb_5)]) (lenOf pd__II_C rfl) rfl (by show 2 * 0 + _ ≤ _; exact Nat.le_of_eq rfl) (hb hby d4_173) (fun _ _ => ⟨rfl, rfl, (by decide : 1 + 0 ≤ _), (by decide : 5 + 0 ≤ _)⟩)
  dsimp only [Pt.U, Pt.locs, Pt.cells, Pt.slots] at X8 l8 y8 z8 st8 hQ8
  subst l8 y8 z8
  obtain ⟨rfl, N8q, e8⟩ := hQ8
  have N8 := Fr.app N5 N8q
  refine og (T8.setTop (mkF m 176 #[.val (.ref a0), .val (.ref ch), .val (.ref a2), .val (.int 0), .val (.int 3), .val (.int 1), .val (.ref nb_5), .val (.int 1), .val (.int xa), .val (.int xb), .unset] [(.int (own_d2 xa xb)), (.int 0), (.ref nb_5)])) ?_ st8
  refine og (T8.setTop (mkF m 177 #[.val (.ref a0), .val (.ref ch), .val (.ref a2), .val (.int 0), .val (.int 3), .val (.int 1), .val (.ref nb_5), .val (.int 1), .val (.int xa), .val (.int xb), .unset] [(.int ((own_d2 xa xb).toInt8.toInt32)), (.int 0), (.ref nb_5)])) ?_ (fun tX kX => XS.i2b X8.here hx rfl (hb hby d4_176) rfl kX)
  obtain ⟨cl9, Ar9, qa9, S9, N9', H9, G9⟩ := id V_nb_5
  have hin9 := inb_of (j := (0 : Int32)) S9 ⟨by decide, by decide⟩
  obtain ⟨T9, h9, X9, e9, W9, st9⟩ := stB X8 hx hZ e8 Ar9 (j := (0 : Int32)) hin9 (g := (mkF m 177 #[.val (.ref a0), .val (.ref ch), .val (.ref a2), .val (.int 0), .val (.int 3), .val (.int 1), .val (.ref nb_5), .val (.int 1), .val (.int xa), .val (.int xb), .unset] [(.int ((own_d2 xa xb).toInt8.toInt32)), (.int 0), (.ref nb_5)])) rfl rfl (hb hby d4_177)
  have V_nb_5_9 := Arv.set Ar9 qa9 S9 N9' H9 G9 (fits_nar_byte _) W9 0 rfl (Nat.le_of_ble_eq_true rfl)
  have E_a0 := E_a0.wr W9
  have F_value_a0 := F_value_a0.other W9 (Or.inl ne_a0_nb_5)
  have F_coder_a0 := F_coder_a0.other W9 (Or.inl ne_a0_nb_5)
  have S_INSTANCE := S_INSTANCE.wr W9
  have S_COMPACT_STRINGS := S_COMPACT_STRINGS.wr W9
  have S_SIOOBE_FORMATTER := S_SIOOBE_FORMATTER.wr W9
  have S__assertionsDisabled := S__assertionsDisabled.wr W9
  have S_HI_BYTE_SHIFT := S_HI_BYTE_SHIFT.wr W9
  have S_LO_BYTE_SHIFT := S_LO_BYTE_SHIFT.wr W9
  have E_a2 := E_a2.wr W9
  have V_a2 := V_a2.other W9 ne_a2_nb_5
  have K9 := K5.wr W9 (Or.inr sz_nb_5)
  have zn9 : n0 ≤ h9.size := Nat.le_trans zn5 (Keep.of_wr W9).1
  have N9 := Fr.snoc X9 N8 g_nb_5
  have V_nb_5 : Arv Z h9 nb_5 kb .byte (3 : Int32) [(.int (((own_d2 xa xb).toInt8.toInt32).toInt8.toInt32)), (.int xb), (.int tv)] (.int 0) := V_nb_5_9
  refine og (T9.setTop (mkF m 178 #[.val (.ref a0), .val (.ref ch), .val (.ref a2), .val (.int 0), .val (.int 3), .val (.int 1), .val (.ref nb_5), .val (.int 1), .val (.int xa), .val (.int xb), .unset] [])) ?_ st9
  have V_nb_5 : Arv Z h9 nb_5 kb .byte (3 : Int32) [(.int wa), (.int xb), (.int tv)] (.int 0) := by have q := V_nb_5; rw [hH.2.2.2] at q; exact q
  refine og (T9.setTop (mkF m 102 #[.val (.ref a0), .val (.ref ch), .val (.ref a2), .val (.int 0), .val (.int 3), .val (.int 1), .val (.ref nb_5), .val (.int 2), .val (.int xa), .val (.int xb), .unset] [(.ref nb_5)])) ?_ (fun tX kX => XS.iinc X9.here hx rfl (hb hby d4_178) rfl (l' := #[.val (.ref a0), .val (.ref ch), .val (.ref a2), .val (.int 0), .val (.int 3), .val (.int 1), .val (.ref nb_5), .val (.int 2), .val (.int xa), .val (.int xb), .unset]) rfl (XS.goto X9.here hx rfl (pc0 := 181) (pc' := 93) rfl (hb hby d4_181) (by decide) (by decide) (XS.iload X9.here hx rfl (hb hby d4_93) rfl (XS.iload X9.here hx rfl (hb hby d4_95) rfl (XS.icmpNo X9.here hx rfl (hb hby d4_97) rfl (tlt (by decide)).2.1 (XS.aload X9.here hx rfl (hb hby d4_100) rfl rfl kX))))))
  refine og (T9.setTop (mkF m 107 #[.val (.ref a0), .val (.ref ch), .val (.ref a2), .val (.int 0), .val (.int 3), .val (.int 1), .val (.ref nb_5), .val (.int 3), .val (.int xa), .val (.int xb), .unset] [(.int 2), (.ref nb_5)])) ?_ (fun tX kX => XS.iload X9.here hx rfl (hb hby d4_102) rfl (XS.iinc X9.here hx rfl (hb hby d4_104) rfl (l' := #[.val (.ref a0), .val (.ref ch), .val (.ref a2), .val (.int 0), .val (.int 3), .val (.int 1), .val (.ref nb_5), .val (.int 3), .val (.int xa), .val (.int xb), .unset]) rfl kX))
  obtain ⟨cl10, Ar10, qa10, S10, N10', H10, G10⟩ := id V_nb_5
  have hin10 := inb_of (j := (2 : Int32)) S10 ⟨by decide, by decide⟩
  have hat10 := H10.at (v := (.int tv)) hin10 rfl
  refine og (T9.setTop (mkF m 119 #[.val (.ref a0), .val (.ref ch), .val (.ref a2), .val (.int 0), .val (.int 3), .val (.int 1), .val (.ref nb_5), .val (.int 3), .val (.int tv), .val (.int xb), .unset] [(.int 1), (.ref nb_5)])) ?_ (fun tX kX => X9.baloadBytes hx (j := (2 : Int32)) (v := (.int tv)) (by rw [e9]; exact Ar10.1) (State.isArrayOf_alike hZ.alike Ar10.2.1) Ar10.2.2 hin10 hat10 (g := (mkF m 107 #[.val (.ref a0), .val (.ref ch), .val (.ref a2), .val (.int 0), .val (.int 3), .val (.int 1), .val (.ref nb_5), .val (.int 3), .val (.int xa), .val (.int xb), .unset] [(.int 2), (.ref nb_5)])) rfl rfl (hb hby d4_107) _ (XS.istore X9.here hx rfl (hb hby d4_108) rfl (l' := #[.val (.ref a0), .val (.ref ch), .val (.ref a2), .val (.int 0), .val (.int 3), .val (.int 1), .val (.ref nb_5), .val (.int 3), .val (.int tv), .val (.int xb), .unset]) rfl (XS.iload X9.here hx rfl (hb hby d4_110) rfl (XS.ifNo X9.here hx rfl (hb hby d4_112) rfl ((if0 _ _).trans (flt hT.1).1) (XS.aload X9.here hx rfl (hb hby d4_115) rfl rfl (XS.iload X9.here hx rfl (hb hby d4_117) rfl kX))))))
  refine og (T9.setTop (mkF m 125 #[.val (.ref a0), .val (.ref ch), .val (.ref a2), .val (.int 0), .val (.int 3), .val (.int 2), .val (.ref nb_5), .val (.int 3), .val (.int tv), .val (.int xb), .unset] [(.int (tv.toInt8.toInt32)), (.int 1), (.ref nb_5)])) ?_ (fun tX kX => XS.iinc X9.here hx rfl (hb hby d4_119) rfl (l' := #[.val (.ref a0), .val (.ref ch), .val (.ref a2), .val (.int 0), .val (.int 3), .val (.int 2), .val (.ref nb_5), .val (.int 3), .val (.int tv), .val (.int xb), .unset]) rfl (XS.iload X9.here hx rfl (hb hby d4_122) rfl (XS.i2b X9.here hx rfl (hb hby d4_124) rfl kX)))
  obtain ⟨cl11, Ar11, qa11, S11, N11', H11, G11⟩ := id V_nb_5
  have hin11 := inb_of (j := (1 : Int32)) S11 ⟨by decide, by decide⟩
  obtain ⟨T11, h11, X11, e11, W11, st11⟩ := stB X9 hx hZ e9 Ar11 (j := (1 : Int32)) hin11 (g := (mkF m 125 #[.val (.ref a0), .val (.ref ch), .val (.ref a2), .val (.int 0), .val (.int 3), .val (.int 2), .val (.ref nb_5), .val (.int 3), .val (.int tv), .val (.int xb), .unset] [(.int (tv.toInt8.toInt32)), (.int 1), (.ref nb_5)])) rfl rfl (hb hby d4_125)
  have V_nb_5_11 := Arv.set Ar11 qa11 S11 N11' H11 G11 (fits_nar_byte _) W11 1 rfl (Nat.le_of_ble_eq_true rfl)
  have E_a0 := E_a0.wr W11
  have F_value_a0 := F_value_a0.other W11 (Or.inl ne_a0_nb_5)
  have F_coder_a0 := F_coder_a0.other W11 (Or.inl ne_a0_nb_5)
  have S_INSTANCE := S_INSTANCE.wr W11
  have S_COMPACT_STRINGS := S_COMPACT_STRINGS.wr W11
  have S_SIOOBE_FORMATTER := S_SIOOBE_FORMATTER.wr W11
  have S__assertionsDisabled := S__assertionsDisabled.wr W11
  have S_HI_BYTE_SHIFT := S_HI_BYTE_SHIFT.wr W11
  have S_LO_BYTE_SHIFT := S_LO_BYTE_SHIFT.wr W11
  have E_a2 := E_a2.wr W11
  have V_a2 := V_a2.other W11 ne_a2_nb_5
  have K11 := K9.wr W11 (Or.inr sz_nb_5)
  have zn11 : n0 ≤ h11.size := Nat.le_trans zn9 (Keep.of_wr W11).1
  have N11 := Fr.snoc X11 N9 g_nb_5
  have V_nb_5 : Arv Z h11 nb_5 kb .byte (3 : Int32) [(.int wa), (.int ((tv.toInt8.toInt32).toInt8.toInt32)), (.int tv)] (.int 0) := V_nb_5_11
  refine og (T11.setTop (mkF m 126 #[.val (.ref a0), .val (.ref ch), .val (.ref a2), .val (.int 0), .val (.int 3), .val (.int 2), .val (.ref nb_5), .val (.int 3), .val (.int tv), .val (.int xb), .unset] [])) ?_ st11
  have V_nb_5 : Arv Z h11 nb_5 kb .byte (3 : Int32) [(.int wa), (.int tv), (.int tv)] (.int 0) := by have q := V_nb_5; rw [hT.2.2.2.2.2.2] at q; rw [hT.2.2.2.2.2.2] at q; exact q
  refine og (T11.setTop (mkF m 194 #[.val (.ref a0), .val (.ref ch), .val (.ref a2), .val (.int 0), .val (.int 3), .val (.int 2), .val (.ref nb_5), .val (.int 3), .val (.int tv), .val (.int xb), .unset] [(.int 3), (.int 3)])) ?_ (fun tX kX => XS.goto X11.here hx rfl (pc0 := 126) (pc' := 93) rfl (hb hby d4_126) (by decide) (by decide) (XS.iload X11.here hx rfl (hb hby d4_93) rfl (XS.iload X11.here hx rfl (hb hby d4_95) rfl (XS.icmpYes X11.here hx rfl (pc0 := 97) (pc' := 190) rfl (hb hby d4_97) rfl (flt (by decide)).2.1 (by decide) (by decide) (XS.iload X11.here hx rfl (hb hby d4_190) rfl (XS.iload X11.here hx rfl (hb hby d4_192) rfl kX))))))
  refine og (T11.setTop (mkF m 201 #[.val (.ref a0), .val (.ref ch), .val (.ref a2), .val (.int 0), .val (.int 3), .val (.int 2), .val (.ref nb_5), .val (.int 3), .val (.int tv), .val (.int xb), .unset] [(.ref nb_5), (.int 2)])) ?_ (fun tX kX => XS.icmpNo X11.here hx rfl (hb hby d4_194) rfl (teq (by decide)).2 (XS.iload X11.here hx rfl (hb hby d4_197) rfl (XS.aload X11.here hx rfl (hb hby d4_199) rfl rfl kX)))
  obtain ⟨cl12, Ar12, qa12, S12, N12', H12, G12⟩ := id V_nb_5
  refine OGo.go (B := T11.setTop (mkF m 202 #[.val (.ref a0), .val (.ref ch), .val (.ref a2), .val (.int 0), .val (.int 3), .val (.int 2), .val (.ref nb_5), .val (.int 3), .val (.int tv), .val (.int xb), .unset] [(.int 3), (.int 2)])) ?_ (fun tX kX => X11.arraylength hx (by rw [e11]; exact Ar12.1) (State.isArrayOf_alike hZ.alike Ar12.2.1) (g := (mkF m 201 #[.val (.ref a0), .val (.ref ch), .val (.ref a2), .val (.int 0), .val (.int 3), .val (.int 2), .val (.ref nb_5), .val (.int 3), .val (.int tv), .val (.int xb), .unset] [(.ref nb_5), (.int 2)])) rfl rfl (hb hby d4_201) _ (by rw [len_of S12 N12']; exact kX))
  refine og (T11.setTop (mkF m 209 #[.val (.ref a0), .val (.ref ch), .val (.ref a2), .val (.int 0), .val (.int 3), .val (.int 2), .val (.ref nb_5), .val (.int 3), .val (.int tv), .val (.int xb), .unset] [(.int 2), (.ref nb_5)])) ?_ (fun tX kX => XS.icmpNo X11.here hx rfl (hb hby d4_202) rfl (feq (by decide)).1 (XS.aload X11.here hx rfl (hb hby d4_205) rfl rfl (XS.iload X11.here hx rfl (hb hby d4_207) rfl kX)))
  obtain ⟨_, _, ⟨T13, L13, k13, n13⟩, -, X13, ⟨Lc13, hQ13, l13, y13, z13⟩, st13⟩ := Jvm.LawKit.callS X11 hx (y := oM31) hown (mvT hZ (oW hw 91 rfl)) (mvT hZ (oW hw 92 rfl)) (mvT hZ (oW hw 37 rfl)) (mvT hZ (oW hw 93 rfl)) (by decide) (backOf (W := 0) (rm17 l Z aV hw [] nb_5 (2 : Int32) kb (3 : Int32) [(.int wa), (.int tv), (.int tv)] h11 n0 zn11 V_nb_5 (by decide) (by decide) (by decide) (by decide) (by decide)) hZ (oW hw 93 rfl) (oW hw 37 rfl) (by decide) (by decide)) (g := (mkF m 209 #[.val (.ref a0), .val (.ref ch), .val (.ref a2), .val (.int 0), .val (.int 3), .val (.int 2), .val (.ref nb_5), .val (.int 3), .val (.int tv), .val (.int xb), .unset] [(.int 2), (.ref nb_5)])) rfl (by rw [hml]; rfl) (argsL := [(.ref nb_5), (.int 2)]) (rest := []) (lenOf pd___BI__B rfl) rfl (by show 2 * 0 + _ ≤ _; exact Nat.le_of_eq rfl) (hb hby d4_209) (fun _ _ => ⟨rfl, e11, (by decide : 1 + 1 ≤ _), (by decide : 5 + 6 ≤ _)⟩)
  dsimp only [Pt.U, Pt.locs, Pt.cells, Pt.slots] at X13 l13 y13 z13 st13 hQ13
  subst l13 y13 z13
  obtain ⟨nb_13, kn_13, rfl, N13q, Kq13, sz13_nb, V_nb_13_p⟩ := hQ13
  have N13 := Fr.app N11 N13q
  have ne_a0_nb_13 : a0 ≠ nb_13 := Nat.ne_of_lt (Nat.lt_of_lt_of_le E_a0.lt sz13_nb)
  have ne_a2_nb_13 : a2 ≠ nb_13 := Nat.ne_of_lt (Nat.lt_of_lt_of_le E_a2.lt sz13_nb)
  have ne_nb_5_nb_13 : nb_5 ≠ nb_13 := Nat.ne_of_lt (Nat.lt_of_lt_of_le V_nb_5.lt sz13_nb)
  have S_INSTANCE := Sta.keep0 S_INSTANCE Kq13
  have S_COMPACT_STRINGS := Sta.keep0 S_COMPACT_STRINGS Kq13
  have S_SIOOBE_FORMATTER := Sta.keep0 S_SIOOBE_FORMATTER Kq13
  have S__assertionsDisabled := Sta.keep0 S__assertionsDisabled Kq13
  have S_HI_BYTE_SHIFT := Sta.keep0 S_HI_BYTE_SHIFT Kq13
  have S_LO_BYTE_SHIFT := Sta.keep0 S_LO_BYTE_SHIFT Kq13
  have E_a0 := E_a0.keep Kq13
  have F_value_a0 := F_value_a0.keep Kq13 nin0
  have F_coder_a0 := F_coder_a0.keep Kq13 nin0
  have E_a2 := E_a2.keep Kq13
  have V_a2 := V_a2.keep Kq13 nin0
  have V_nb_5 := V_nb_5.keep Kq13 nin0
  have g_nb_13 : n0 ≤ nb_13 := Nat.le_trans zn11 sz13_nb
  have sz_nb_13 : h0.size ≤ nb_13 := Nat.le_trans K11.1 sz13_nb
  have K13 := K11.trans Kq13 all0
  have zn13 : n0 ≤ T13.heap.size := Nat.le_trans zn11 Kq13.1
  have V_nb_13 := V_nb_13_p
  refine og (T13.setTop (mkF m 212 #[.val (.ref a0), .val (.ref ch), .val (.ref a2), .val (.int 0), .val (.int 3), .val (.int 2), .val (.ref nb_5), .val (.int 3), .val (.int tv), .val (.int xb), .unset] [(.ref nb_13)])) ?_ st13
  have V_nb_13 : Arv Z T13.heap nb_13 kn_13 .byte (2 : Int32) [(.int wa), (.int tv)] (.int 0) := V_nb_13
  refine og (T13.setTop (mkF m 217 #[.val (.ref a0), .val (.ref ch), .val (.ref a2), .val (.int 0), .val (.int 3), .val (.int 2), .val (.ref nb_13), .val (.int 3), .val (.int tv), .val (.int xb), .unset] [(.ref nb_13), (.ref a0)])) ?_ (fun tX kX => XS.astore X13.here hx rfl (hb hby d4_212) rfl rfl (l' := #[.val (.ref a0), .val (.ref ch), .val (.ref a2), .val (.int 0), .val (.int 3), .val (.int 2), .val (.ref nb_13), .val (.int 3), .val (.int tv), .val (.int xb), .unset]) rfl (XS.aloadN X13.here hx rfl (hb hby d4_214) rfl rfl (XS.aload X13.here hx rfl (hb hby d4_215) rfl rfl kX)))
  obtain ⟨T14, h14, X14, e14, W14, st14⟩ := putF X13 hx hZ hown (host := "") (Or.inl (oW hw 48 rfl)) Via.refl rfl F_value_a0 E_a0 (Or.inr ⟨(oW hw 49 rfl), rfl, hnm⟩) (oW hw 8 rfl) (ty := (.array .byte)) (by decide) rfl rfl (g := (mkF m 217 #[.val (.ref a0), .val (.ref ch), .val (.ref a2), .val (.int 0), .val (.int 3), .val (.int 2), .val (.ref nb_13), .val (.int 3), .val (.int tv), .val (.int xb), .unset] [(.ref nb_13), (.ref a0)])) rfl rfl (hb hby d4_217)
  have Eold14 := E_a0
  have E_a0 := E_a0.wr W14
  have F_value_a0 := F_value_a0.same W14
  have F_coder_a0 := F_coder_a0.other W14 (Or.inr (slot_ne (Or.inr (oW hw 51 rfl)) (Or.inr (oW hw 49 rfl)) (by decide) (t := .byte) (t' := (.array .byte)) (by decide) (by decide)))
  have S_INSTANCE := S_INSTANCE.wr W14
  have S_COMPACT_STRINGS := S_COMPACT_STRINGS.wr W14
  have S_SIOOBE_FORMATTER := S_SIOOBE_FORMATTER.wr W14
  have S__assertionsDisabled := S__assertionsDisabled.wr W14
  have S_HI_BYTE_SHIFT := S_HI_BYTE_SHIFT.wr W14
  have S_LO_BYTE_SHIFT := S_LO_BYTE_SHIFT.wr W14
  have E_a2 := E_a2.wr W14
  have V_a2 := V_a2.other W14 (Ne.symm (Exa.neArv Eold14 V_a2 (oW hw 8 rfl)))
  have V_nb_5 := V_nb_5.other W14 (Ne.symm ne_a0_nb_5)
  have V_nb_13 := V_nb_13.other W14 (Ne.symm ne_a0_nb_13)
  have K14 := K13.wr W14 (Or.inl (List.mem_of_getElem? (i := 0) rfl))
  have zn14 : n0 ≤ h14.size := Nat.le_trans zn13 (Keep.of_wr W14).1
  have N14 := Fr.snoc X14 N13 ga
  refine og (T14.setTop (mkF m 220 #[.val (.ref a0), .val (.ref ch), .val (.ref a2), .val (.int 0), .val (.int 3), .val (.int 2), .val (.ref nb_13), .val (.int 3), .val (.int tv), .val (.int xb), .unset] [])) ?_ st14
  refine og (T14.setTop (mkF m 222 #[.val (.ref a0), .val (.ref ch), .val (.ref a2), .val (.int 0), .val (.int 3), .val (.int 2), .val (.ref nb_13), .val (.int 3), .val (.int tv), .val (.int xb), .unset] [(.int 0), (.ref a0)])) ?_ (fun tX kX => XS.aloadN X14.here hx rfl (hb hby d4_220) rfl rfl (XS.iconst X14.here hx rfl (hb hby d4_221) kX))
  obtain ⟨T15, h15, X15, e15, W15, st15⟩ := putF X14 hx hZ hown (host := "") (Or.inl (oW hw 50 rfl)) Via.refl e14 F_coder_a0 E_a0 (Or.inr ⟨(oW hw 51 rfl), rfl, hnm⟩) (oW hw 8 rfl) (ty := .byte) (by decide) rfl rfl (g := (mkF m 222 #[.val (.ref a0), .val (.ref ch), .val (.ref a2), .val (.int 0), .val (.int 3), .val (.int 2), .val (.ref nb_13), .val (.int 3), .val (.int tv), .val (.int xb), .unset] [(.int 0), (.ref a0)])) rfl rfl (hb hby d4_222)
  have Eold15 := E_a0
  have E_a0 := E_a0.wr W15
  have F_value_a0 := F_value_a0.other W15 (Or.inr (slot_ne (Or.inr (oW hw 49 rfl)) (Or.inr (oW hw 51 rfl)) (by decide) (t := (.array .byte)) (t' := .byte) (by decide) (by decide)))
  have F_coder_a0 := F_coder_a0.same W15
  have S_INSTANCE := S_INSTANCE.wr W15
  have S_COMPACT_STRINGS := S_COMPACT_STRINGS.wr W15
  have S_SIOOBE_FORMATTER := S_SIOOBE_FORMATTER.wr W15
  have S__assertionsDisabled := S__assertionsDisabled.wr W15
  have S_HI_BYTE_SHIFT := S_HI_BYTE_SHIFT.wr W15
  have S_LO_BYTE_SHIFT := S_LO_BYTE_SHIFT.wr W15
  have E_a2 := E_a2.wr W15
  have V_a2 := V_a2.other W15 (Ne.symm (Exa.neArv Eold15 V_a2 (oW hw 8 rfl)))
  have V_nb_5 := V_nb_5.other W15 (Ne.symm ne_a0_nb_5)
  have V_nb_13 := V_nb_13.other W15 (Ne.symm ne_a0_nb_13)
  have K15 := K14.wr W15 (Or.inl (List.mem_of_getElem? (i := 0) rfl))
  have zn15 : n0 ≤ h15.size := Nat.le_trans zn14 (Keep.of_wr W15).1
  have N15 := Fr.snoc X15 N14 ga
  refine og (T15.setTop (mkF m 225 #[.val (.ref a0), .val (.ref ch), .val (.ref a2), .val (.int 0), .val (.int 3), .val (.int 2), .val (.ref nb_13), .val (.int 3), .val (.int tv), .val (.int xb), .unset] [])) ?_ st15
  refine OGo.ret X15 (v := none) (fun _ => rfl) (BodyLoose.notSynchronized Bd) (fun fs hr => X15.returnOut hx Bd.returns (hb hby d4_225) hr) (Q := Q4G Z a0 (0 : Int32) (2 : Int32) [(.int wa), (.int tv)] h0 n0) ?_ (by decide) (by decide)
  show Q4G Z a0 (0 : Int32) (2 : Int32) [(.int wa), (.int tv)] h0 n0 _ T15.heap _
  rw [e15]
  exact ⟨nb_13, kn_13, rfl, N15, K15, sz_nb_13, E_a0, F_value_a0, F_coder_a0, V_nb_13⟩
theorem d4_184 : oD4 184 (.iinc 7 (-1)) 3 := by decide +kernel
theorem d4_187 : oD4 187 (.goto 3) 3 := by decide +kernel
theorem d4_226 : oD4 226 (.iload 4) 2 := by decide +kernel
theorem d4_228 : oD4 228 (.invokestatic 60) 3 := by decide +kernel
theorem pd__I__B : parseMethodDescriptor "(I)[B" = some ⟨[.int], some (.array .byte)⟩ := by decide +kernel
theorem d4_231 : oD4 231 (.astore 8) 2 := by decide +kernel
theorem d4_233 : oD4 233 (.aload 6) 2 := by decide +kernel
theorem d4_235 : oD4 235 (.iconst 0) 1 := by decide +kernel
theorem d4_236 : oD4 236 (.aload 8) 2 := by decide +kernel
theorem d4_238 : oD4 238 (.iconst 0) 1 := by decide +kernel
theorem d4_239 : oD4 239 (.iload 5) 2 := by decide +kernel
theorem d4_241 : oD4 241 (.invokestatic 106) 3 := by decide +kernel
theorem d4_244 : oD4 244 (.aload 6) 2 := by decide +kernel
theorem d4_246 : oD4 246 (.iload 7) 2 := by decide +kernel
theorem d4_248 : oD4 248 (.iload 4) 2 := by decide +kernel
theorem d4_250 : oD4 250 (.aload 8) 2 := by decide +kernel
theorem d4_252 : oD4 252 (.iload 5) 2 := by decide +kernel
theorem d4_254 : oD4 254 (.iconst 1) 1 := by decide +kernel
theorem d4_255 : oD4 255 (.invokestatic 112) 3 := by decide +kernel
theorem pd___BII_BIZ_I : parseMethodDescriptor "([BII[BIZ)I" = some ⟨[(.array .byte), .int, .int, (.array .byte), .int, .boolean], some .int⟩ := by decide +kernel
theorem d4_258 : oD4 258 (.istore 5) 2 := by decide +kernel
theorem d4_260 : oD4 260 (.iload 5) 2 := by decide +kernel
theorem d4_262 : oD4 262 (.iload 4) 2 := by decide +kernel
theorem d4_264 : oD4 264 (.if_icmp .eq 14) 3 := by decide +kernel
theorem d4_278 : oD4 278 (.aload_n 0) 1 := by decide +kernel
theorem d4_279 : oD4 279 (.aload 8) 2 := by decide +kernel
theorem d4_281 : oD4 281 (.putfield 9) 3 := by decide +kernel
theorem d4_284 : oD4 284 (.aload_n 0) 1 := by decide +kernel
theorem d4_285 : oD4 285 (.iconst 1) 1 := by decide +kernel
theorem d4_286 : oD4 286 (.putfield 15) 3 := by decide +kernel
theorem d4_289 : oD4 289 (.goto 590) 3 := by decide +kernel
theorem d4_879 : oD4 879 .return_ 1 := by decide +kernel
def P4R (Z : State) (a0 : Addr) (ch : Addr) (a2 : Addr) (u1 : Value) (u2 : Value) (kb : ClassId) (xa : Int32) (tv : Int32) (cs : Int32) (fv : Value) (h0 : Heap) (n0 : Nat) (s : State) (o : Outcome) (U' : State) : Prop := ∃ v L, o = .returned v ∧ Q4G Z a0 (1 : Int32) (4 : Int32) [(.int (own_lo (65533 : Int32))), (.int (own_hi (65533 : Int32))), (.int (own_lo tv)), (.int (own_hi tv))] h0 n0 v U'.heap L ∧ FrameEnd s o U' L oR14.cells oR14.slots
set_option maxRecDepth 65536 in
set_option maxHeartbeats 40000000 in
theorem rm4R (l : Launch) (Z : State) (aV : Array Value) (hw : ∀ d ∈ tables_1, d.before aV Z = true) (ws : List Jvm.Cond) (a0 : Addr) (ch : Addr) (a2 : Addr) (u1 : Value) (u2 : Value) (kb : ClassId) (xa : Int32) (tv : Int32) (cs : Int32) (fv : Value) (h0 : Heap) (n0 : Nat) (Z0 : n0 ≤ h0.size) (E_a0 : Exa Z h0 a0 "java/lang/String") (F_value_a0 : Fld Z h0 a0 "java/lang/String" "value" "[B" u1) (F_coder_a0 : Fld Z h0 a0 "java/lang/String" "coder" "B" u2) (S_INSTANCE : Sta Z h0 "sun/nio/cs/UTF_8" "INSTANCE" "Lsun/nio/cs/UTF_8;" (.ref ch)) (S_COMPACT_STRINGS : Sta Z h0 "java/lang/String" "COMPACT_STRINGS" "Z" (.int cs)) (S_SIOOBE_FORMATTER : Sta Z h0 "jdk/internal/util/Preconditions" "SIOOBE_FORMATTER" "Ljava/util/function/BiFunction;" fv) (S__assertionsDisabled : Sta Z h0 "java/lang/StringUTF16" "$assertionsDisabled" "Z" (.int 1)) (S_HI_BYTE_SHIFT : Sta Z h0 "java/lang/StringUTF16" "HI_BYTE_SHIFT" "I" (.int 0)) (S_LO_BYTE_SHIFT : Sta Z h0 "java/lang/StringUTF16" "LO_BYTE_SHIFT" "I" (.int 8)) (E_a2 : Exa Z h0 a2 "[B") (V_a2 : Arv Z h0 a2 kb .byte (2 : Int32) [(.int xa), (.int tv)] (.int 0)) (ga : n0 ≤ a0) (hcs : ¬ cs = 0) (hfv : fv.isRef = true) (hH : xa < 0) (hT : own_HT tv) :
    MetFree l oM39 (head1 (Jvm.Cond.codeWith oM39 jdk_42_method_11_code 11 none [(800, 813, 816, 202)] :: ws) oR14) (fun a U => a = #[(.ref a0), (.ref ch), (.ref a2), (.int 0), (.int 2)] ∧ Z.Warmed39 U.vm ∧ U.heap = h0) (fun _ _ _ _ _ => True) (fun _ U o U' => ∃ v L, o = .returned v ∧ Q4G Z a0 (1 : Int32) (4 : Int32) [(.int (own_lo (65533 : Int32))), (.int (own_hi (65533 : Int32))), (.int (own_lo tv)), (.int (own_hi tv))] h0 n0 v U'.heap L ∧ FrameEnd U o U' L oR14.cells oR14.slots) := by
  refine MetFree.of_bodySF (plainFor_of_name pn_java_lang_String) hisWith ?_
  intro p e s m args below meth c s₁ Bd hml0 hP hK
  obtain ⟨rfl, hZ, hh⟩ := hP
  have hx := Bd.exec
  have hby := Bd.bytes
  have hml : c.maxLocals = 11 := hml0
  have hown : s.vm.findClass "java/lang/String" = some m.cls := findClass_of_methodNamed Bd.named
  have hnm := (name_of_methodNamed Bd.named Bd.method).1
  have X0 : Stand p l e oR14 s m #[(.ref a0), (.ref ch), (.ref a2), (.int 0), (.int 2)] below meth c s₁ [] 0 0 := Stand.of_body Bd
  have e0 : s₁.heap = h0 := by rw [← hh, Bd.state]; rfl
  have efx : entryFrame m #[(.ref a0), (.ref ch), (.ref a2), (.int 0), (.int 2)] 11 = mkF m 0 #[.val (.ref a0), .val (.ref ch), .val (.ref a2), .val (.int 0), .val (.int 2), .unset, .unset, .unset, .unset, .unset, .unset] [] := by first | (simp [entryFrame, mkF, argsToLocals, Value.category]; done) | rfl
  have N0 := Fr.nil n0
  have K0 : Keep h0 h0 [a0] := Keep.refl h0 _
  refine OGo.start (g' := mkF m 0 #[.val (.ref a0), .val (.ref ch), .val (.ref a2), .val (.int 0), .val (.int 2), .unset, .unset, .unset, .unset, .unset, .unset] []) (efx) ?_
  show OGo p.tables e below (P4R Z a0 ch a2 u1 u2 kb xa tv cs fv h0 n0 s) (s₁.setTop (mkF m 0 #[.val (.ref a0), .val (.ref ch), .val (.ref a2), .val (.int 0), .val (.int 2), .unset, .unset, .unset, .unset, .unset, .unset] []))
  refine og (s₁.setTop (mkF m 1 #[.val (.ref a0), .val (.ref ch), .val (.ref a2), .val (.int 0), .val (.int 2), .unset, .unset, .unset, .unset, .unset, .unset] [(.ref a0)])) ?_ (fun tX kX => XS.aloadN X0.here hx rfl (hb hby d4_0) rfl rfl kX)
  obtain ⟨T1, X1, e1, st1⟩ := initO X0 hx hZ hown (oW hw 25 rfl) (oW hw 26 rfl) (oW hw 27 rfl) e0 (g := (mkF m 1 #[.val (.ref a0), .val (.ref ch), .val (.ref a2), .val (.int 0), .val (.int 2), .unset, .unset, .unset, .unset, .unset, .unset] [(.ref a0)])) rfl (by rw [hml]; rfl) rfl (hb hby d4_1) (by decide) (W := 0) (by show 2 * 0 + _ ≤ _; exact Nat.le_of_eq rfl) (by decide)
  refine og (T1.setTop (mkF m 4 #[.val (.ref a0), .val (.ref ch), .val (.ref a2), .val (.int 0), .val (.int 2), .unset, .unset, .unset, .unset, .unset, .unset] [])) ?_ st1
  refine og (T1.setTop (mkF m 31 #[.val (.ref a0), .val (.ref ch), .val (.ref a2), .val (.int 0), .val (.int 2), .unset, .unset, .unset, .unset, .unset, .unset] [(.ref ch)])) ?_ (fun tX kX => XS.iload X1.here hx rfl (hb hby d4_4) rfl (XS.ifYes X1.here hx rfl (pc0 := 6) (pc' := 30) rfl (hb hby d4_6) rfl ((if0 _ _).trans (feq (by decide)).2) (by decide) (by decide) (XS.aloadN X1.here hx rfl (hb hby d4_30) rfl rfl kX)))
  obtain ⟨T2, X2, e2, st2⟩ := getS2 X1 hx hZ hown (host := "") (Or.inl (oW hw 28 rfl)) Via.refl e1 S_INSTANCE (g := (mkF m 31 #[.val (.ref a0), .val (.ref ch), .val (.ref a2), .val (.int 0), .val (.int 2), .unset, .unset, .unset, .unset, .unset, .unset] [(.ref ch)])) rfl (hb hby d4_31)
  refine og (T2.setTop (mkF m 34 #[.val (.ref a0), .val (.ref ch), .val (.ref a2), .val (.int 0), .val (.int 2), .unset, .unset, .unset, .unset, .unset, .unset] [(.ref ch), (.ref ch)])) ?_ st2
  refine og (T2.setTop (mkF m 37 #[.val (.ref a0), .val (.ref ch), .val (.ref a2), .val (.int 0), .val (.int 2), .unset, .unset, .unset, .unset, .unset, .unset] [])) ?_ (fun tX kX => Jvm.RoadKit.acmp (g := (mkF m 34 #[.val (.ref a0), .val (.ref ch), .val (.ref a2), .val (.int 0), .val (.int 2), .unset, .unset, .unset, .unset, .unset, .unset] [(.ref ch), (.ref ch)])) X2 hx rfl rfl rfl (pc0 := 34) (pc' := 37) (same := true) rfl (hb hby d4_34) rfl (decide_eq_true rfl) (by decide) (by decide) kX)
  obtain ⟨T3, X3, e3, st3⟩ := getS2 X2 hx hZ hown (host := "") (Or.inl (oW hw 30 rfl)) Via.refl e2 S_COMPACT_STRINGS (g := (mkF m 37 #[.val (.ref a0), .val (.ref ch), .val (.ref a2), .val (.int 0), .val (.int 2), .unset, .unset, .unset, .unset, .unset, .unset] [])) rfl (hb hby d4_37)
  refine og (T3.setTop (mkF m 40 #[.val (.ref a0), .val (.ref ch), .val (.ref a2), .val (.int 0), .val (.int 2), .unset, .unset, .unset, .unset, .unset, .unset] [(.int cs)])) ?_ st3
  refine og (T3.setTop (mkF m 47 #[.val (.ref a0), .val (.ref ch), .val (.ref a2), .val (.int 0), .val (.int 2), .unset, .unset, .unset, .unset, .unset, .unset] [(.int 2), (.int 0), (.ref a2)])) ?_ (fun tX kX => XS.ifNo X3.here hx rfl (hb hby d4_40) rfl ((if0 _ _).trans (feq hcs).1) (XS.aloadN X3.here hx rfl (hb hby d4_43) rfl rfl (XS.iloadN X3.here hx rfl (hb hby d4_44) rfl (XS.iload X3.here hx rfl (hb hby d4_45) rfl kX))))
  obtain ⟨_, _, ⟨T4, L4, k4, n4⟩, -, X4, ⟨Lc4, hQ4, l4, y4, z4⟩, st4⟩ := Jvm.LawKit.callS X3 hx (y := oM27) hown (mvT hZ (oW hw 31 rfl)) (mvT hZ (oW hw 32 rfl)) (mvT hZ (oW hw 33 rfl)) (mvT hZ (oW hw 34 rfl)) (by decide) (backOf (W := 0) (rm6N l Z aV hw [] a2 (2 : Int32) kb [(.int xa), (.int tv)] xa h0 n0 Z0 V_a2 (by decide) (by decide) rfl hH) hZ (oW hw 34 rfl) (oW hw 33 rfl) (by decide) (by decide)) (g := (mkF m 47 #[.val (.ref a0), .val (.ref ch), .val (.ref a2), .val (.int 0), .val (.int 2), .unset, .unset, .unset, .unset, .unset, .unset] [(.int 2), (.int 0), (.ref a2)])) rfl (by rw [hml]; rfl) (argsL := [(.ref a2), (.int 0), (.int 2)]) (rest := []) (lenOf pd___BII_I rfl) rfl (by show 2 * 0 + _ ≤ _; exact Nat.le_of_eq rfl) (hb hby d4_47) (fun _ _ => ⟨rfl, e3, (by decide : 0 + 0 ≤ _), (by decide : 0 + 0 ≤ _)⟩)
  dsimp only [Pt.U, Pt.locs, Pt.cells, Pt.slots] at X4 l4 y4 z4 st4 hQ4
  subst l4 y4 z4
  obtain ⟨rfl, N4q, e4⟩ := hQ4
  have N4 := Fr.app N0 N4q
  refine og (T4.setTop (mkF m 50 #[.val (.ref a0), .val (.ref ch), .val (.ref a2), .val (.int 0), .val (.int 2), .unset, .unset, .unset, .unset, .unset, .unset] [(.int 0)])) ?_ st4
  refine og (T4.setTop (mkF m 80 #[.val (.ref a0), .val (.ref ch), .val (.ref a2), .val (.int 0), .val (.int 2), .val (.int 0), .unset, .unset, .unset, .unset, .unset] [(.int 0), (.ref a2)])) ?_ (fun tX kX => XS.istore X4.here hx rfl (hb hby d4_50) rfl (l' := #[.val (.ref a0), .val (.ref ch), .val (.ref a2), .val (.int 0), .val (.int 2), .val (.int 0), .unset, .unset, .unset, .unset, .unset]) rfl (XS.iload X4.here hx rfl (hb hby d4_52) rfl (XS.iload X4.here hx rfl (hb hby d4_54) rfl (XS.icmpYes X4.here hx rfl (pc0 := 56) (pc' := 78) rfl (hb hby d4_56) rfl (feq (by decide)).2 (by decide) (by decide) (XS.aloadN X4.here hx rfl (hb hby d4_78) rfl rfl (XS.iloadN X4.here hx rfl (hb hby d4_79) rfl kX))))))
  refine og (T4.setTop (mkF m 84 #[.val (.ref a0), .val (.ref ch), .val (.ref a2), .val (.int 0), .val (.int 2), .val (.int 0), .unset, .unset, .unset, .unset, .unset] [(.int 2), (.int 0), (.ref a2)])) ?_ (fun tX kX => XS.iloadN X4.here hx rfl (hb hby d4_80) rfl (XS.iload X4.here hx rfl (hb hby d4_81) rfl (XS.iadd X4.here hx rfl (hb hby d4_83) rfl kX)))
  obtain ⟨_, _, ⟨T5, L5, k5, n5⟩, -, X5, ⟨Lc5, hQ5, l5, y5, z5⟩, st5⟩ := Jvm.LawKit.callS X4 hx (y := oM28) hown (mvT hZ (oW hw 35 rfl)) (mvT hZ (oW hw 36 rfl)) (mvT hZ (oW hw 37 rfl)) (mvT hZ (oW hw 38 rfl)) (by decide) (backOf (W := 0) (rm7 l Z aV hw [] a2 (2 : Int32) kb [(.int xa), (.int tv)] h0 n0 Z0 E_a2 V_a2 (by decide)) hZ (oW hw 38 rfl) (oW hw 37 rfl) (by decide) (by decide)) (g := (mkF m 84 #[.val (.ref a0), .val (.ref ch), .val (.ref a2), .val (.int 0), .val (.int 2), .val (.int 0), .unset, .unset, .unset, .unset, .unset] [(.int 2), (.int 0), (.ref a2)])) rfl (by rw [hml]; rfl) (argsL := [(.ref a2), (.int 0), (.int 2)]) (rest := []) (lenOf pd___BII__B rfl) rfl (by show 2 * 0 + _ ≤ _; exact Nat.le_of_eq rfl) (hb hby d4_84) (fun _ _ => ⟨rfl, e4, (by decide : 0 + 1 ≤ _), (by decide : 0 + 5 ≤ _)⟩)
  dsimp only [Pt.U, Pt.locs, Pt.cells, Pt.slots] at X5 l5 y5 z5 st5 hQ5
  subst l5 y5 z5
  obtain ⟨nb_5, rfl, N5q, Kq5, sz5_nb, V_nb_5_p⟩ := hQ5
  have N5 := Fr.app N4 N5q
  have ne_a0_nb_5 : a0 ≠ nb_5 := Nat.ne_of_lt (Nat.lt_of_lt_of_le E_a0.lt sz5_nb)
  have ne_a2_nb_5 : a2 ≠ nb_5 := Nat.ne_of_lt (Nat.lt_of_lt_of_le E_a2.lt sz5_nb)
  have S_INSTANCE := Sta.keep0 S_INSTANCE Kq5
  have S_COMPACT_STRINGS := Sta.keep0 S_COMPACT_STRINGS Kq5
  have S_SIOOBE_FORMATTER := Sta.keep0 S_SIOOBE_FORMATTER Kq5
  have S__assertionsDisabled := Sta.keep0 S__assertionsDisabled Kq5
  have S_HI_BYTE_SHIFT := Sta.keep0 S_HI_BYTE_SHIFT Kq5
  have S_LO_BYTE_SHIFT := Sta.keep0 S_LO_BYTE_SHIFT Kq5
  have E_a0 := E_a0.keep Kq5
  have F_value_a0 := F_value_a0.keep Kq5 nin0
  have F_coder_a0 := F_coder_a0.keep Kq5 nin0
  have E_a2 := E_a2.keep Kq5
  have V_a2 := V_a2.keep Kq5 nin0
  have g_nb_5 : n0 ≤ nb_5 := Nat.le_trans Z0 sz5_nb
  have sz_nb_5 : h0.size ≤ nb_5 := Nat.le_trans K0.1 sz5_nb
  have K5 := K0.trans Kq5 all0
  have zn5 : n0 ≤ T5.heap.size := Nat.le_trans Z0 Kq5.1
  have V_nb_5 := V_nb_5_p
  refine og (T5.setTop (mkF m 87 #[.val (.ref a0), .val (.ref ch), .val (.ref a2), .val (.int 0), .val (.int 2), .val (.int 0), .unset, .unset, .unset, .unset, .unset] [(.ref nb_5)])) ?_ st5
  refine og (T5.setTop (mkF m 100 #[.val (.ref a0), .val (.ref ch), .val (.ref a2), .val (.int 0), .val (.int 2), .val (.int 0), .val (.ref nb_5), .val (.int 0), .unset, .unset, .unset] [])) ?_ (fun tX kX => XS.astore X5.here hx rfl (hb hby d4_87) rfl rfl (l' := #[.val (.ref a0), .val (.ref ch), .val (.ref a2), .val (.int 0), .val (.int 2), .val (.int 0), .val (.ref nb_5), .unset, .unset, .unset, .unset]) rfl (XS.iload X5.here hx rfl (hb hby d4_89) rfl (XS.istore X5.here hx rfl (hb hby d4_91) rfl (l' := #[.val (.ref a0), .val (.ref ch), .val (.ref a2), .val (.int 0), .val (.int 2), .val (.int 0), .val (.ref nb_5), .val (.int 0), .unset, .unset, .unset]) rfl (XS.iload X5.here hx rfl (hb hby d4_93) rfl (XS.iload X5.here hx rfl (hb hby d4_95) rfl (XS.icmpNo X5.here hx rfl (hb hby d4_97) rfl (tlt (by decide)).2.1 kX))))))
  refine og (T5.setTop (mkF m 107 #[.val (.ref a0), .val (.ref ch), .val (.ref a2), .val (.int 0), .val (.int 2), .val (.int 0), .val (.ref nb_5), .val (.int 1), .unset, .unset, .unset] [(.int 0), (.ref nb_5)])) ?_ (fun tX kX => XS.aload X5.here hx rfl (hb hby d4_100) rfl rfl (XS.iload X5.here hx rfl (hb hby d4_102) rfl (XS.iinc X5.here hx rfl (hb hby d4_104) rfl (l' := #[.val (.ref a0), .val (.ref ch), .val (.ref a2), .val (.int 0), .val (.int 2), .val (.int 0), .val (.ref nb_5), .val (.int 1), .unset, .unset, .unset]) rfl kX)))
  obtain ⟨cl6, Ar6, qa6, S6, N6', H6, G6⟩ := id V_nb_5
  have hin6 := inb_of (j := (0 : Int32)) S6 ⟨by decide, by decide⟩
  have hat6 := H6.at (v := (.int xa)) hin6 rfl
  refine og (T5.setTop (mkF m 129 #[.val (.ref a0), .val (.ref ch), .val (.ref a2), .val (.int 0), .val (.int 2), .val (.int 0), .val (.ref nb_5), .val (.int 1), .val (.int xa), .unset, .unset] [])) ?_ (fun tX kX => X5.baloadBytes hx (j := (0 : Int32)) (v := (.int xa)) Ar6.1 (State.isArrayOf_alike hZ.alike Ar6.2.1) Ar6.2.2 hin6 hat6 (g := (mkF m 107 #[.val (.ref a0), .val (.ref ch), .val (.ref a2), .val (.int 0), .val (.int 2), .val (.int 0), .val (.ref nb_5), .val (.int 1), .unset, .unset, .unset] [(.int 0), (.ref nb_5)])) rfl rfl (hb hby d4_107) _ (XS.istore X5.here hx rfl (hb hby d4_108) rfl (l' := #[.val (.ref a0), .val (.ref ch), .val (.ref a2), .val (.int 0), .val (.int 2), .val (.int 0), .val (.ref nb_5), .val (.int 1), .val (.int xa), .unset, .unset]) rfl (XS.iload X5.here hx rfl (hb hby d4_110) rfl (XS.ifYes X5.here hx rfl (pc0 := 112) (pc' := 129) rfl (hb hby d4_112) rfl ((if0 _ _).trans (tlt hH).1) (by decide) (by decide) kX))))
  have J184 : ∀ (TJ184 : State) (LJ184 : List Loc) (hJ184 : Heap) (ly : Slot), (Stand p l e oR14 s m #[(.ref a0), (.ref ch), (.ref a2), (.int 0), (.int 2)] below meth c TJ184 LJ184 1 5) → (TJ184.heap = hJ184) → (Fr n0 LJ184) → (n0 ≤ hJ184.size) → (Keep h0 hJ184 [a0]) → (Exa Z hJ184 a0 "java/lang/String") → (Fld Z hJ184 a0 "java/lang/String" "value" "[B" u1) → (Fld Z hJ184 a0 "java/lang/String" "coder" "B" u2) → (Sta Z hJ184 "sun/nio/cs/UTF_8" "INSTANCE" "Lsun/nio/cs/UTF_8;" (.ref ch)) → (Sta Z hJ184 "java/lang/String" "COMPACT_STRINGS" "Z" (.int cs)) → (Sta Z hJ184 "jdk/internal/util/Preconditions" "SIOOBE_FORMATTER" "Ljava/util/function/BiFunction;" fv) → (Sta Z hJ184 "java/lang/StringUTF16" "$assertionsDisabled" "Z" (.int 1)) → (Sta Z hJ184 "java/lang/StringUTF16" "HI_BYTE_SHIFT" "I" (.int 0)) → (Sta Z hJ184 "java/lang/StringUTF16" "LO_BYTE_SHIFT" "I" (.int 8)) → (Exa Z hJ184 a2 "[B") → (Arv Z hJ184 a2 kb .byte (2 : Int32) [(.int xa), (.int tv)] (.int 0)) → (Arv Z hJ184 nb_5 kb .byte (2 : Int32) [(.int xa), (.int tv)] (.int 0)) → OGo p.tables e below (P4R Z a0 ch a2 u1 u2 kb xa tv cs fv h0 n0 s) (TJ184.setTop (mkF m 184 #[.val (.ref a0), .val (.ref ch), .val (.ref a2), .val (.int 0), .val (.int 2), .val (.int 0), .val (.ref nb_5), .val (.int 1), .val (.int xa), ly, .unset] [])) := by
    intro TJ184 LJ184 hJ184 ly XJ184 eJ184 NJ184 znJ184 KJ184 E_a0 F_value_a0 F_coder_a0 S_INSTANCE S_COMPACT_STRINGS S_SIOOBE_FORMATTER S__assertionsDisabled S_HI_BYTE_SHIFT S_LO_BYTE_SHIFT E_a2 V_a2 V_nb_5
    refine og (TJ184.setTop (mkF m 228 #[.val (.ref a0), .val (.ref ch), .val (.ref a2), .val (.int 0), .val (.int 2), .val (.int 0), .val (.ref nb_5), .val (.int 0), .val (.int xa), ly, .unset] [(.int 2)])) ?_ (fun tX kX => XS.iinc XJ184.here hx rfl (hb hby d4_184) rfl (l' := #[.val (.ref a0), .val (.ref ch), .val (.ref a2), .val (.int 0), .val (.int 2), .val (.int 0), .val (.ref nb_5), .val (.int 0), .val (.int xa), ly, .unset]) rfl (XS.goto XJ184.here hx rfl (pc0 := 187) (pc' := 190) rfl (hb hby d4_187) (by decide) (by decide) (XS.iload XJ184.here hx rfl (hb hby d4_190) rfl (XS.iload XJ184.here hx rfl (hb hby d4_192) rfl (XS.icmpYes XJ184.here hx rfl (pc0 := 194) (pc' := 226) rfl (hb hby d4_194) rfl (feq (by decide)).2 (by decide) (by decide) (XS.iload XJ184.here hx rfl (hb hby d4_226) rfl kX))))))
    obtain ⟨_, _, ⟨T7, L7, k7, n7⟩, -, X7, ⟨Lc7, hQ7, l7, y7, z7⟩, st7⟩ := Jvm.LawKit.callS XJ184 hx (y := oM30) hown (mvT hZ (oW hw 104 rfl)) (mvT hZ (oW hw 105 rfl)) (mvT hZ (oW hw 106 rfl)) (mvT hZ (oW hw 107 rfl)) (by decide) (backOf (W := 0) (rm19 l Z aV hw [] (2 : Int32) hJ184 n0 znJ184 (by decide) (by decide) (by decide) (by decide)) hZ (oW hw 107 rfl) (oW hw 106 rfl) (by decide) (by decide)) (g := (mkF m 228 #[.val (.ref a0), .val (.ref ch), .val (.ref a2), .val (.int 0), .val (.int 2), .val (.int 0), .val (.ref nb_5), .val (.int 0), .val (.int xa), ly, .unset] [(.int 2)])) rfl (by rw [hml]; rfl) (argsL := [(.int 2)]) (rest := []) (lenOf pd__I__B rfl) rfl (by show 2 * 0 + _ ≤ _; exact Nat.le_of_eq rfl) (hb hby d4_228) (fun _ _ => ⟨rfl, eJ184, (by decide : 1 + 1 ≤ _), (by decide : 5 + 10 ≤ _)⟩)
    dsimp only [Pt.U, Pt.locs, Pt.cells, Pt.slots] at X7 l7 y7 z7 st7 hQ7
    subst l7 y7 z7
    obtain ⟨nb_7, kn_7, rfl, N7q, Kq7, sz7_nb, V_nb_7_p⟩ := hQ7
    have N7 := Fr.app NJ184 N7q
    have ne_a0_nb_7 : a0 ≠ nb_7 := Nat.ne_of_lt (Nat.lt_of_lt_of_le E_a0.lt sz7_nb)
    have ne_a2_nb_7 : a2 ≠ nb_7 := Nat.ne_of_lt (Nat.lt_of_lt_of_le E_a2.lt sz7_nb)
    have ne_nb_5_nb_7 : nb_5 ≠ nb_7 := Nat.ne_of_lt (Nat.lt_of_lt_of_le V_nb_5.lt sz7_nb)
    have S_INSTANCE := Sta.keep0 S_INSTANCE Kq7
    have S_COMPACT_STRINGS := Sta.keep0 S_COMPACT_STRINGS Kq7
    have S_SIOOBE_FORMATTER := Sta.keep0 S_SIOOBE_FORMATTER Kq7
    have S__assertionsDisabled := Sta.keep0 S__assertionsDisabled Kq7
    have S_HI_BYTE_SHIFT := Sta.keep0 S_HI_BYTE_SHIFT Kq7
    have S_LO_BYTE_SHIFT := Sta.keep0 S_LO_BYTE_SHIFT Kq7
    have E_a0 := E_a0.keep Kq7
    have F_value_a0 := F_value_a0.keep Kq7 nin0
    have F_coder_a0 := F_coder_a0.keep Kq7 nin0
    have E_a2 := E_a2.keep Kq7
    have V_a2 := V_a2.keep Kq7 nin0
    have V_nb_5 := V_nb_5.keep Kq7 nin0
    have g_nb_7 : n0 ≤ nb_7 := Nat.le_trans znJ184 sz7_nb
    have sz_nb_7 : h0.size ≤ nb_7 := Nat.le_trans KJ184.1 sz7_nb
    have K7 := KJ184.trans Kq7 all0
    have zn7 : n0 ≤ T7.heap.size := Nat.le_trans znJ184 Kq7.1
    have V_nb_7 := V_nb_7_p
    refine og (T7.setTop (mkF m 231 #[.val (.ref a0), .val (.ref ch), .val (.ref a2), .val (.int 0), .val (.int 2), .val (.int 0), .val (.ref nb_5), .val (.int 0), .val (.int xa), ly, .unset] [(.ref nb_7)])) ?_ st7
    have V_nb_7 : Arv Z T7.heap nb_7 kn_7 .byte (4 : Int32) [(.int 0), (.int 0), (.int 0), (.int 0)] (.int 0) := by have q := own_zz V_nb_7 (z' := (4 : Int32)) (by decide) 4; exact q
    refine og (T7.setTop (mkF m 241 #[.val (.ref a0), .val (.ref ch), .val (.ref a2), .val (.int 0), .val (.int 2), .val (.int 0), .val (.ref nb_5), .val (.int 0), .val (.ref nb_7), ly, .unset] [(.int 0), (.int 0), (.ref nb_7), (.int 0), (.ref nb_5)])) ?_ (fun tX kX => XS.astore X7.here hx rfl (hb hby d4_231) rfl rfl (l' := #[.val (.ref a0), .val (.ref ch), .val (.ref a2), .val (.int 0), .val (.int 2), .val (.int 0), .val (.ref nb_5), .val (.int 0), .val (.ref nb_7), ly, .unset]) rfl (XS.aload X7.here hx rfl (hb hby d4_233) rfl rfl (XS.iconst X7.here hx rfl (hb hby d4_235) (XS.aload X7.here hx rfl (hb hby d4_236) rfl rfl (XS.iconst X7.here hx rfl (hb hby d4_238) (XS.iload X7.here hx rfl (hb hby d4_239) rfl kX))))))
    obtain ⟨_, _, ⟨T8, L8, k8, n8⟩, -, X8, ⟨Lc8, hQ8, l8, y8, z8⟩, st8⟩ := Jvm.LawKit.callS X7 hx (y := oM36) hown (mvT hZ (oW hw 112 rfl)) (mvT hZ (oW hw 113 rfl)) (mvT hZ (oW hw 78 rfl)) (mvT hZ (oW hw 114 rfl)) (by decide) (backOf (W := 0) (rm21 l Z aV hw [] nb_5 nb_7 kn_7 (4 : Int32) [(.int 0), (.int 0), (.int 0), (.int 0)] fv T7.heap n0 zn7 V_nb_7 S_SIOOBE_FORMATTER hfv (by decide) (by decide)) hZ (oW hw 114 rfl) (oW hw 78 rfl) (by decide) (by decide)) (g := (mkF m 241 #[.val (.ref a0), .val (.ref ch), .val (.ref a2), .val (.int 0), .val (.int 2), .val (.int 0), .val (.ref nb_5), .val (.int 0), .val (.ref nb_7), ly, .unset] [(.int 0), (.int 0), (.ref nb_7), (.int 0), (.ref nb_5)])) rfl (by rw [hml]; rfl) (argsL := [(.ref nb_5), (.int 0), (.ref nb_7), (.int 0), (.int 0)]) (rest := []) (lenOf pd___BI_BII_V rfl) rfl (by show 2 * 0 + _ ≤ _; exact Nat.le_of_eq rfl) (hb hby d4_241) (fun _ _ => ⟨rfl, rfl, (by decide : 2 + 0 ≤ _), (by decide : 15 + 0 ≤ _)⟩)
    dsimp only [Pt.U, Pt.locs, Pt.cells, Pt.slots] at X8 l8 y8 z8 st8 hQ8
    subst l8 y8 z8
    obtain ⟨rfl, N8q, e8⟩ := hQ8
    have N8 := Fr.app N7 N8q
    refine og (T8.setTop (mkF m 244 #[.val (.ref a0), .val (.ref ch), .val (.ref a2), .val (.int 0), .val (.int 2), .val (.int 0), .val (.ref nb_5), .val (.int 0), .val (.ref nb_7), ly, .unset] [])) ?_ st8
    refine og (T8.setTop (mkF m 255 #[.val (.ref a0), .val (.ref ch), .val (.ref a2), .val (.int 0), .val (.int 2), .val (.int 0), .val (.ref nb_5), .val (.int 0), .val (.ref nb_7), ly, .unset] [(.int 1), (.int 0), (.ref nb_7), (.int 2), (.int 0), (.ref nb_5)])) ?_ (fun tX kX => XS.aload X8.here hx rfl (hb hby d4_244) rfl rfl (XS.iload X8.here hx rfl (hb hby d4_246) rfl (XS.iload X8.here hx rfl (hb hby d4_248) rfl (XS.aload X8.here hx rfl (hb hby d4_250) rfl rfl (XS.iload X8.here hx rfl (hb hby d4_252) rfl (XS.iconst X8.here hx rfl (hb hby d4_254) kX))))))
    obtain ⟨_, _, ⟨T9, L9, k9, n9⟩, -, X9, ⟨Lc9, hQ9, l9, y9, z9⟩, st9⟩ := Jvm.LawKit.callS X8 hx (y := oM38) hown (mvT hZ (oW hw 130 rfl)) (mvT hZ (oW hw 131 rfl)) (mvT hZ (oW hw 9 rfl)) (mvT hZ (oW hw 132 rfl)) (by decide) (backOf (W := 0) (rm27r l Z aV hw [] nb_5 nb_7 kb kn_7 xa tv T7.heap n0 zn7 V_nb_5 V_nb_7 S__assertionsDisabled S_HI_BYTE_SHIFT S_LO_BYTE_SHIFT g_nb_7 ne_nb_5_nb_7 hH hT) hZ (oW hw 132 rfl) (oW hw 9 rfl) (by decide) (by decide)) (g := (mkF m 255 #[.val (.ref a0), .val (.ref ch), .val (.ref a2), .val (.int 0), .val (.int 2), .val (.int 0), .val (.ref nb_5), .val (.int 0), .val (.ref nb_7), ly, .unset] [(.int 1), (.int 0), (.ref nb_7), (.int 2), (.int 0), (.ref nb_5)])) rfl (by rw [hml]; rfl) (argsL := [(.ref nb_5), (.int 0), (.int 2), (.ref nb_7), (.int 0), (.int 1)]) (rest := []) (lenOf pd___BII_BIZ_I rfl) rfl (by show 2 * 0 + _ ≤ _; exact Nat.le_of_eq rfl) (hb hby d4_255) (fun _ _ => ⟨rfl, e8, (by decide : 2 + 0 ≤ _), (by decide : 15 + 0 ≤ _)⟩)
    dsimp only [Pt.U, Pt.locs, Pt.cells, Pt.slots] at X9 l9 y9 z9 st9 hQ9
    subst l9 y9 z9
    obtain ⟨rfl, N9q, Kq9, V_nb_7_p⟩ := hQ9
    have N9 := Fr.app N8 N9q
    have S_INSTANCE := Sta.keepE S_INSTANCE Kq9 (staS (own_acell V_nb_7) (fun x hx' => nomatch hx'))
    have S_COMPACT_STRINGS := Sta.keepE S_COMPACT_STRINGS Kq9 (staS (own_acell V_nb_7) (fun x hx' => nomatch hx'))
    have S_SIOOBE_FORMATTER := Sta.keepE S_SIOOBE_FORMATTER Kq9 (staS (own_acell V_nb_7) (fun x hx' => nomatch hx'))
    have S__assertionsDisabled := Sta.keepE S__assertionsDisabled Kq9 (staS (own_acell V_nb_7) (fun x hx' => nomatch hx'))
    have S_HI_BYTE_SHIFT := Sta.keepE S_HI_BYTE_SHIFT Kq9 (staS (own_acell V_nb_7) (fun x hx' => nomatch hx'))
    have S_LO_BYTE_SHIFT := Sta.keepE S_LO_BYTE_SHIFT Kq9 (staS (own_acell V_nb_7) (fun x hx' => nomatch hx'))
    have E_a0 := E_a0.keep Kq9
    have F_value_a0 := F_value_a0.keep Kq9 (ninS ne_a0_nb_7 nin0)
    have F_coder_a0 := F_coder_a0.keep Kq9 (ninS ne_a0_nb_7 nin0)
    have E_a2 := E_a2.keep Kq9
    have V_a2 := V_a2.keep Kq9 (ninS ne_a2_nb_7 nin0)
    have V_nb_5 := V_nb_5.keep Kq9 (ninS ne_nb_5_nb_7 nin0)
    have K9 := K7.trans Kq9 (allS (P := fun x => x ∈ [a0] ∨ h0.size ≤ x) (Or.inr sz_nb_7) all0)
    have zn9 : n0 ≤ T9.heap.size := Nat.le_trans zn7 Kq9.1
    have V_nb_7 := V_nb_7_p
    refine og (T9.setTop (mkF m 258 #[.val (.ref a0), .val (.ref ch), .val (.ref a2), .val (.int 0), .val (.int 2), .val (.int 0), .val (.ref nb_5), .val (.int 0), .val (.ref nb_7), ly, .unset] [(.int 2)])) ?_ st9
    refine og (T9.setTop (mkF m 281 #[.val (.ref a0), .val (.ref ch), .val (.ref a2), .val (.int 0), .val (.int 2), .val (.int 2), .val (.ref nb_5), .val (.int 0), .val (.ref nb_7), ly, .unset] [(.ref nb_7), (.ref a0)])) ?_ (fun tX kX => XS.istore X9.here hx rfl (hb hby d4_258) rfl (l' := #[.val (.ref a0), .val (.ref ch), .val (.ref a2), .val (.int 0), .val (.int 2), .val (.int 2), .val (.ref nb_5), .val (.int 0), .val (.ref nb_7), ly, .unset]) rfl (XS.iload X9.here hx rfl (hb hby d4_260) rfl (XS.iload X9.here hx rfl (hb hby d4_262) rfl (XS.icmpYes X9.here hx rfl (pc0 := 264) (pc' := 278) rfl (hb hby d4_264) rfl (teq (by decide)).1 (by decide) (by decide) (XS.aloadN X9.here hx rfl (hb hby d4_278) rfl rfl (XS.aload X9.here hx rfl (hb hby d4_279) rfl rfl kX))))))
    obtain ⟨T10, h10, X10, e10, W10, st10⟩ := putF X9 hx hZ hown (host := "") (Or.inl (oW hw 48 rfl)) Via.refl rfl F_value_a0 E_a0 (Or.inr ⟨(oW hw 49 rfl), rfl, hnm⟩) (oW hw 8 rfl) (ty := (.array .byte)) (by decide) rfl rfl (g := (mkF m 281 #[.val (.ref a0), .val (.ref ch), .val (.ref a2), .val (.int 0), .val (.int 2), .val (.int 2), .val (.ref nb_5), .val (.int 0), .val (.ref nb_7), ly, .unset] [(.ref nb_7), (.ref a0)])) rfl rfl (hb hby d4_281)
    have Eold10 := E_a0
    have E_a0 := E_a0.wr W10
    have F_value_a0 := F_value_a0.same W10
    have F_coder_a0 := F_coder_a0.other W10 (Or.inr (slot_ne (Or.inr (oW hw 51 rfl)) (Or.inr (oW hw 49 rfl)) (by decide) (t := .byte) (t' := (.array .byte)) (by decide) (by decide)))
    have S_INSTANCE := S_INSTANCE.wr W10
    have S_COMPACT_STRINGS := S_COMPACT_STRINGS.wr W10
    have S_SIOOBE_FORMATTER := S_SIOOBE_FORMATTER.wr W10
    have S__assertionsDisabled := S__assertionsDisabled.wr W10
    have S_HI_BYTE_SHIFT := S_HI_BYTE_SHIFT.wr W10
    have S_LO_BYTE_SHIFT := S_LO_BYTE_SHIFT.wr W10
    have E_a2 := E_a2.wr W10
    have V_a2 := V_a2.other W10 (Ne.symm (Exa.neArv Eold10 V_a2 (oW hw 8 rfl)))
    have V_nb_5 := V_nb_5.other W10 (Ne.symm ne_a0_nb_5)
    have V_nb_7 := V_nb_7.other W10 (Ne.symm ne_a0_nb_7)
    have K10 := K9.wr W10 (Or.inl (List.mem_of_getElem? (i := 0) rfl))
    have zn10 : n0 ≤ h10.size := Nat.le_trans zn9 (Keep.of_wr W10).1
    have N10 := Fr.snoc X10 N9 ga
    refine og (T10.setTop (mkF m 284 #[.val (.ref a0), .val (.ref ch), .val (.ref a2), .val (.int 0), .val (.int 2), .val (.int 2), .val (.ref nb_5), .val (.int 0), .val (.ref nb_7), ly, .unset] [])) ?_ st10
    refine og (T10.setTop (mkF m 286 #[.val (.ref a0), .val (.ref ch), .val (.ref a2), .val (.int 0), .val (.int 2), .val (.int 2), .val (.ref nb_5), .val (.int 0), .val (.ref nb_7), ly, .unset] [(.int 1), (.ref a0)])) ?_ (fun tX kX => XS.aloadN X10.here hx rfl (hb hby d4_284) rfl rfl (XS.iconst X10.here hx rfl (hb hby d4_285) kX))
    obtain ⟨T11, h11, X11, e11, W11, st11⟩ := putF X10 hx hZ hown (host := "") (Or.inl (oW hw 50 rfl)) Via.refl e10 F_coder_a0 E_a0 (Or.inr ⟨(oW hw 51 rfl), rfl, hnm⟩) (oW hw 8 rfl) (ty := .byte) (by decide) rfl rfl (g := (mkF m 286 #[.val (.ref a0), .val (.ref ch), .val (.ref a2), .val (.int 0), .val (.int 2), .val (.int 2), .val (.ref nb_5), .val (.int 0), .val (.ref nb_7), ly, .unset] [(.int 1), (.ref a0)])) rfl rfl (hb hby d4_286)
    have Eold11 := E_a0
    have E_a0 := E_a0.wr W11
    have F_value_a0 := F_value_a0.other W11 (Or.inr (slot_ne (Or.inr (oW hw 49 rfl)) (Or.inr (oW hw 51 rfl)) (by decide) (t := (.array .byte)) (t' := .byte) (by decide) (by decide)))
    have F_coder_a0 := F_coder_a0.same W11
    have S_INSTANCE := S_INSTANCE.wr W11
    have S_COMPACT_STRINGS := S_COMPACT_STRINGS.wr W11
    have S_SIOOBE_FORMATTER := S_SIOOBE_FORMATTER.wr W11
    have S__assertionsDisabled := S__assertionsDisabled.wr W11
    have S_HI_BYTE_SHIFT := S_HI_BYTE_SHIFT.wr W11
    have S_LO_BYTE_SHIFT := S_LO_BYTE_SHIFT.wr W11
    have E_a2 := E_a2.wr W11
    have V_a2 := V_a2.other W11 (Ne.symm (Exa.neArv Eold11 V_a2 (oW hw 8 rfl)))
    have V_nb_5 := V_nb_5.other W11 (Ne.symm ne_a0_nb_5)
    have V_nb_7 := V_nb_7.other W11 (Ne.symm ne_a0_nb_7)
    have K11 := K10.wr W11 (Or.inl (List.mem_of_getElem? (i := 0) rfl))
    have zn11 : n0 ≤ h11.size := Nat.le_trans zn10 (Keep.of_wr W11).1
    have N11 := Fr.snoc X11 N10 ga
    refine og (T11.setTop (mkF m 289 #[.val (.ref a0), .val (.ref ch), .val (.ref a2), .val (.int 0), .val (.int 2), .val (.int 2), .val (.ref nb_5), .val (.int 0), .val (.ref nb_7), ly, .unset] [])) ?_ st11
    refine og (T11.setTop (mkF m 879 #[.val (.ref a0), .val (.ref ch), .val (.ref a2), .val (.int 0), .val (.int 2), .val (.int 2), .val (.ref nb_5), .val (.int 0), .val (.ref nb_7), ly, .unset] [])) ?_ (fun tX kX => XS.goto X11.here hx rfl (pc0 := 289) (pc' := 879) rfl (hb hby d4_289) (by decide) (by decide) kX)
    refine OGo.ret X11 (v := none) (fun _ => rfl) (BodyLoose.notSynchronized Bd) (fun fs hr => X11.returnOut hx Bd.returns (hb hby d4_879) hr) (Q := Q4G Z a0 (1 : Int32) (4 : Int32) [(.int (own_lo (65533 : Int32))), (.int (own_hi (65533 : Int32))), (.int (own_lo tv)), (.int (own_hi tv))] h0 n0) ?_ (by decide) (by decide)
    show Q4G Z a0 (1 : Int32) (4 : Int32) [(.int (own_lo (65533 : Int32))), (.int (own_hi (65533 : Int32))), (.int (own_lo tv)), (.int (own_hi tv))] h0 n0 _ T11.heap _
    rw [e11]
    exact ⟨nb_7, kn_7, rfl, N11, K11, sz_nb_7, E_a0, F_value_a0, F_coder_a0, V_nb_7⟩
  refine og (T5.setTop (mkF m 138 #[.val (.ref a0), .val (.ref ch), .val (.ref a2), .val (.int 0), .val (.int 2), .val (.int 0), .val (.ref nb_5), .val (.int 1), .val (.int xa), .unset, .unset] [(.int 194), (.int (xa &&& (254 : Int32)))])) ?_ (fun tX kX => XS.iload X5.here hx rfl (hb hby d4_129) rfl (XS.sipush X5.here hx rfl (hb hby d4_131) (XS.iand X5.here hx rfl (hb hby d4_134) rfl (XS.sipush X5.here hx rfl (hb hby d4_135) kX))))
  by_cases hc138 : (xa &&& (254 : Int32)) = (194 : Int32)
  ·
    refine og (T5.setTop (mkF m 152 #[.val (.ref a0), .val (.ref ch), .val (.ref a2), .val (.int 0), .val (.int 2), .val (.int 0), .val (.ref nb_5), .val (.int 1), .val (.int xa), .unset, .unset] [(.int 1), (.ref nb_5)])) ?_ (fun tX kX => XS.icmpNo X5.here hx rfl (hb hby d4_138) rfl (teq hc138).2 (XS.iload X5.here hx rfl (hb hby d4_141) rfl (XS.iload X5.here hx rfl (hb hby d4_143) rfl (XS.icmpNo X5.here hx rfl (hb hby d4_145) rfl (tlt (by decide)).2.1 (XS.aload X5.here hx rfl (hb hby d4_148) rfl rfl (XS.iload X5.here hx rfl (hb hby d4_150) rfl kX))))))
    obtain ⟨cl12, Ar12, qa12, S12, N12', H12, G12⟩ := id V_nb_5
    have hin12 := inb_of (j := (1 : Int32)) S12 ⟨by decide, by decide⟩
    have hat12 := H12.at (v := (.int tv)) hin12 rfl
    refine og (T5.setTop (mkF m 184 #[.val (.ref a0), .val (.ref ch), .val (.ref a2), .val (.int 0), .val (.int 2), .val (.int 0), .val (.ref nb_5), .val (.int 1), .val (.int xa), .val (.int tv), .unset] [])) ?_ (fun tX kX => X5.baloadBytes hx (j := (1 : Int32)) (v := (.int tv)) Ar12.1 (State.isArrayOf_alike hZ.alike Ar12.2.1) Ar12.2.2 hin12 hat12 (g := (mkF m 152 #[.val (.ref a0), .val (.ref ch), .val (.ref a2), .val (.int 0), .val (.int 2), .val (.int 0), .val (.ref nb_5), .val (.int 1), .val (.int xa), .unset, .unset] [(.int 1), (.ref nb_5)])) rfl rfl (hb hby d4_152) _ (XS.istore X5.here hx rfl (hb hby d4_153) rfl (l' := #[.val (.ref a0), .val (.ref ch), .val (.ref a2), .val (.int 0), .val (.int 2), .val (.int 0), .val (.ref nb_5), .val (.int 1), .val (.int xa), .val (.int tv), .unset]) rfl (XS.iload X5.here hx rfl (hb hby d4_155) rfl (XS.bipush X5.here hx rfl (hb hby d4_157) (XS.icmpYes X5.here hx rfl (pc0 := 159) (pc' := 184) rfl (hb hby d4_159) rfl (flt hT.2.2.2.2.2.1).2.1 (by decide) (by decide) kX)))))
    exact J184 T5 _ T5.heap (.val (.int tv)) X5 rfl N5 zn5 K5 E_a0 F_value_a0 F_coder_a0 S_INSTANCE S_COMPACT_STRINGS S_SIOOBE_FORMATTER S__assertionsDisabled S_HI_BYTE_SHIFT S_LO_BYTE_SHIFT E_a2 V_a2 V_nb_5
  ·
    refine og (T5.setTop (mkF m 184 #[.val (.ref a0), .val (.ref ch), .val (.ref a2), .val (.int 0), .val (.int 2), .val (.int 0), .val (.ref nb_5), .val (.int 1), .val (.int xa), .unset, .unset] [])) ?_ (fun tX kX => XS.icmpYes X5.here hx rfl (pc0 := 138) (pc' := 184) rfl (hb hby d4_138) rfl (feq hc138).2 (by decide) (by decide) kX)
    exact J184 T5 _ T5.heap (.unset) X5 rfl N5 zn5 K5 E_a0 F_value_a0 F_coder_a0 S_INSTANCE S_COMPACT_STRINGS S_SIOOBE_FORMATTER S__assertionsDisabled S_HI_BYTE_SHIFT S_LO_BYTE_SHIFT E_a2 V_a2 V_nb_5
theorem d4_267 : oD4 267 (.aload 8) 2 := by decide +kernel
theorem d4_269 : oD4 269 (.iload 5) 2 := by decide +kernel
theorem d4_271 : oD4 271 (.iconst 1) 1 := by decide +kernel
theorem d4_272 : oD4 272 .ishl 1 := by decide +kernel
theorem d4_273 : oD4 273 (.invokestatic 102) 3 := by decide +kernel
theorem d4_276 : oD4 276 (.astore 8) 2 := by decide +kernel
def P4B (Z : State) (a0 : Addr) (ch : Addr) (a2 : Addr) (u1 : Value) (u2 : Value) (kb : ClassId) (xa : Int32) (xb : Int32) (tv : Int32) (ca : Int32) (cs : Int32) (fv : Value) (h0 : Heap) (n0 : Nat) (s : State) (o : Outcome) (U' : State) : Prop := ∃ v L, o = .returned v ∧ Q4G Z a0 (1 : Int32) (4 : Int32) [(.int (own_lo ca)), (.int (own_hi ca)), (.int (own_lo tv)), (.int (own_hi tv))] h0 n0 v U'.heap L ∧ FrameEnd s o U' L oR14.cells oR14.slots
set_option maxRecDepth 65536 in
set_option maxHeartbeats 40000000 in
theorem rm4B (l : Launch) (Z : State) (aV : Array Value) (hw : ∀ d ∈ tables_1, d.before aV Z = true) (ws : List Jvm.Cond) (a0 : Addr) (ch : Addr) (a2 : Addr) (u1 : Value) (u2 : Value) (kb : ClassId) (xa : Int32) (xb : Int32) (tv : Int32) (ca : Int32) (cs : Int32) (fv : Value) (h0 : Heap) (n0 : Nat) (Z0 : n0 ≤ h0.size) (E_a0 : Exa Z h0 a0 "java/lang/String") (F_value_a0 : Fld Z h0 a0 "java/lang/String" "value" "[B" u1) (F_coder_a0 : Fld Z h0 a0 "java/lang/String" "coder" "B" u2) (S_INSTANCE : Sta Z h0 "sun/nio/cs/UTF_8" "INSTANCE" "Lsun/nio/cs/UTF_8;" (.ref ch)) (S_COMPACT_STRINGS : Sta Z h0 "java/lang/String" "COMPACT_STRINGS" "Z" (.int cs)) (S_SIOOBE_FORMATTER : Sta Z h0 "jdk/internal/util/Preconditions" "SIOOBE_FORMATTER" "Ljava/util/function/BiFunction;" fv) (S__assertionsDisabled : Sta Z h0 "java/lang/StringUTF16" "$assertionsDisabled" "Z" (.int 1)) (S_HI_BYTE_SHIFT : Sta Z h0 "java/lang/StringUTF16" "HI_BYTE_SHIFT" "I" (.int 0)) (S_LO_BYTE_SHIFT : Sta Z h0 "java/lang/StringUTF16" "LO_BYTE_SHIFT" "I" (.int 8)) (E_a2 : Exa Z h0 a2 "[B") (V_a2 : Arv Z h0 a2 kb .byte (3 : Int32) [(.int xa), (.int xb), (.int tv)] (.int 0)) (ga : n0 ≤ a0) (hcs : ¬ cs = 0) (hfv : fv.isRef = true) (hH : own_H1 xa xb ca) (hT : own_HT tv) :
    MetFree l oM39 (head1 (Jvm.Cond.codeWith oM39 jdk_42_method_11_code 11 none [(800, 813, 816, 202)] :: ws) oR14) (fun a U => a = #[(.ref a0), (.ref ch), (.ref a2), (.int 0), (.int 3)] ∧ Z.Warmed39 U.vm ∧ U.heap = h0) (fun _ _ _ _ _ => True) (fun _ U o U' => ∃ v L, o = .returned v ∧ Q4G Z a0 (1 : Int32) (4 : Int32) [(.int (own_lo ca)), (.int (own_hi ca)), (.int (own_lo tv)), (.int (own_hi tv))] h0 n0 v U'.heap L ∧ FrameEnd U o U' L oR14.cells oR14.slots) := by
  refine MetFree.of_bodySF (plainFor_of_name pn_java_lang_String) hisWith ?_
  intro p e s m args below meth c s₁ Bd hml0 hP hK
  obtain ⟨rfl, hZ, hh⟩ := hP
  have hx := Bd.exec
  have hby := Bd.bytes
  have hml : c.maxLocals = 11 := hml0
  have hown : s.vm.findClass "java/lang/String" = some m.cls := findClass_of_methodNamed Bd.named
  have hnm := (name_of_methodNamed Bd.named Bd.method).1
  have X0 : Stand p l e oR14 s m #[(.ref a0), (.ref ch), (.ref a2), (.int 0), (.int 3)] below meth c s₁ [] 0 0 := Stand.of_body Bd
  have e0 : s₁.heap = h0 := by rw [← hh, Bd.state]; rfl
  have efx : entryFrame m #[(.ref a0), (.ref ch), (.ref a2), (.int 0), (.int 3)] 11 = mkF m 0 #[.val (.ref a0), .val (.ref ch), .val (.ref a2), .val (.int 0), .val (.int 3), .unset, .unset, .unset, .unset, .unset, .unset] [] := by first | (simp [entryFrame, mkF, argsToLocals, Value.category]; done) | rfl
  have N0 := Fr.nil n0
  have K0 : Keep h0 h0 [a0] := Keep.refl h0 _
  refine OGo.start (g' := mkF m 0 #[.val (.ref a0), .val (.ref ch), .val (.ref a2), .val (.int 0), .val (.int 3), .unset, .unset, .unset, .unset, .unset, .unset] []) (efx) ?_
  show OGo p.tables e below (P4B Z a0 ch a2 u1 u2 kb xa xb tv ca cs fv h0 n0 s) (s₁.setTop (mkF m 0 #[.val (.ref a0), .val (.ref ch), .val (.ref a2), .val (.int 0), .val (.int 3), .unset, .unset, .unset, .unset, .unset, .unset] []))
  refine og (s₁.setTop (mkF m 1 #[.val (.ref a0), .val (.ref ch), .val (.ref a2), .val (.int 0), .val (.int 3), .unset, .unset, .unset, .unset, .unset, .unset] [(.ref a0)])) ?_ (fun tX kX => XS.aloadN X0.here hx rfl (hb hby d4_0) rfl rfl kX)
  obtain ⟨T1, X1, e1, st1⟩ := initO X0 hx hZ hown (oW hw 25 rfl) (oW hw 26 rfl) (oW hw 27 rfl) e0 (g := (mkF m 1 #[.val (.ref a0), .val (.ref ch), .val (.ref a2), .val (.int 0), .val (.int 3), .unset, .unset, .unset, .unset, .unset, .unset] [(.ref a0)])) rfl (by rw [hml]; rfl) rfl (hb hby d4_1) (by decide) (W := 0) (by show 2 * 0 + _ ≤ _; exact Nat.le_of_eq rfl) (by decide)
  refine og (T1.setTop (mkF m 4 #[.val (.ref a0), .val (.ref ch), .val (.ref a2), .val (.int 0), .val (.int 3), .unset, .unset, .unset, .unset, .unset, .unset] [])) ?_ st1
  refine og (T1.setTop (mkF m 31 #[.val (.ref a0), .val (.ref ch), .val (.ref a2), .val (.int 0), .val (.int 3), .unset, .unset, .unset, .unset, .unset, .unset] [(.ref ch)])) ?_ (fun tX kX => XS.iload X1.here hx rfl (hb hby d4_4) rfl (XS.ifYes X1.here hx rfl (pc0 := 6) (pc' := 30) rfl (hb hby d4_6) rfl ((if0 _ _).trans (feq (by decide)).2) (by decide) (by decide) (XS.aloadN X1.here hx rfl (hb hby d4_30) rfl rfl kX)))
  obtain ⟨T2, X2, e2, st2⟩ := getS2 X1 hx hZ hown (host := "") (Or.inl (oW hw 28 rfl)) Via.refl e1 S_INSTANCE (g := (mkF m 31 #[.val (.ref a0), .val (.ref ch), .val (.ref a2), .val (.int 0), .val (.int 3), .unset, .unset, .unset, .unset, .unset, .unset] [(.ref ch)])) rfl (hb hby d4_31)
  refine og (T2.setTop (mkF m 34 #[.val (.ref a0), .val (.ref ch), .val (.ref a2), .val (.int 0), .val (.int 3), .unset, .unset, .unset, .unset, .unset, .unset] [(.ref ch), (.ref ch)])) ?_ st2
  refine og (T2.setTop (mkF m 37 #[.val (.ref a0), .val (.ref ch), .val (.ref a2), .val (.int 0), .val (.int 3), .unset, .unset, .unset, .unset, .unset, .unset] [])) ?_ (fun tX kX => Jvm.RoadKit.acmp (g := (mkF m 34 #[.val (.ref a0), .val (.ref ch), .val (.ref a2), .val (.int 0), .val (.int 3), .unset, .unset, .unset, .unset, .unset, .unset] [(.ref ch), (.ref ch)])) X2 hx rfl rfl rfl (pc0 := 34) (pc' := 37) (same := true) rfl (hb hby d4_34) rfl (decide_eq_true rfl) (by decide) (by decide) kX)
  obtain ⟨T3, X3, e3, st3⟩ := getS2 X2 hx hZ hown (host := "") (Or.inl (oW hw 30 rfl)) Via.refl e2 S_COMPACT_STRINGS (g := (mkF m 37 #[.val (.ref a0), .val (.ref ch), .val (.ref a2), .val (.int 0), .val (.int 3), .unset, .unset, .unset, .unset, .unset, .unset] [])) rfl (hb hby d4_37)
  refine og (T3.setTop (mkF m 40 #[.val (.ref a0), .val (.ref ch), .val (.ref a2), .val (.int 0), .val (.int 3), .unset, .unset, .unset, .unset, .unset, .unset] [(.int cs)])) ?_ st3
  refine og (T3.setTop (mkF m 47 #[.val (.ref a0), .val (.ref ch), .val (.ref a2), .val (.int 0), .val (.int 3), .unset, .unset, .unset, .unset, .unset, .unset] [(.int 3), (.int 0), (.ref a2)])) ?_ (fun tX kX => XS.ifNo X3.here hx rfl (hb hby d4_40) rfl ((if0 _ _).trans (feq hcs).1) (XS.aloadN X3.here hx rfl (hb hby d4_43) rfl rfl (XS.iloadN X3.here hx rfl (hb hby d4_44) rfl (XS.iload X3.here hx rfl (hb hby d4_45) rfl kX))))
  obtain ⟨_, _, ⟨T4, L4, k4, n4⟩, -, X4, ⟨Lc4, hQ4, l4, y4, z4⟩, st4⟩ := Jvm.LawKit.callS X3 hx (y := oM27) hown (mvT hZ (oW hw 31 rfl)) (mvT hZ (oW hw 32 rfl)) (mvT hZ (oW hw 33 rfl)) (mvT hZ (oW hw 34 rfl)) (by decide) (backOf (W := 0) (rm6N l Z aV hw [] a2 (3 : Int32) kb [(.int xa), (.int xb), (.int tv)] xa h0 n0 Z0 V_a2 (by decide) (by decide) rfl hH.1) hZ (oW hw 34 rfl) (oW hw 33 rfl) (by decide) (by decide)) (g := (mkF m 47 #[.val (.ref a0), .val (.ref ch), .val (.ref a2), .val (.int 0), .val (.int 3), .unset, .unset, .unset, .unset, .unset, .unset] [(.int 3), (.int 0), (.ref a2)])) rfl (by rw [hml]; rfl) (argsL := [(.ref a2), (.int 0), (.int 3)]) (rest := []) (lenOf pd___BII_I rfl) rfl (by show 2 * 0 + _ ≤ _; exact Nat.le_of_eq rfl) (hb hby d4_47) (fun _ _ => ⟨rfl, e3, (by decide : 0 + 0 ≤ _), (by decide : 0 + 0 ≤ _)⟩)
  dsimp only [Pt.U, Pt.locs, Pt.cells, Pt.slots] at X4 l4 y4 z4 st4 hQ4
  subst l4 y4 z4
  obtain ⟨rfl, N4q, e4⟩ := hQ4
  have N4 := Fr.app N0 N4q
  refine og (T4.setTop (mkF m 50 #[.val (.ref a0), .val (.ref ch), .val (.ref a2), .val (.int 0), .val (.int 3), .unset, .unset, .unset, .unset, .unset, .unset] [(.int 0)])) ?_ st4
  refine og (T4.setTop (mkF m 80 #[.val (.ref a0), .val (.ref ch), .val (.ref a2), .val (.int 0), .val (.int 3), .val (.int 0), .unset, .unset, .unset, .unset, .unset] [(.int 0), (.ref a2)])) ?_ (fun tX kX => XS.istore X4.here hx rfl (hb hby d4_50) rfl (l' := #[.val (.ref a0), .val (.ref ch), .val (.ref a2), .val (.int 0), .val (.int 3), .val (.int 0), .unset, .unset, .unset, .unset, .unset]) rfl (XS.iload X4.here hx rfl (hb hby d4_52) rfl (XS.iload X4.here hx rfl (hb hby d4_54) rfl (XS.icmpYes X4.here hx rfl (pc0 := 56) (pc' := 78) rfl (hb hby d4_56) rfl (feq (by decide)).2 (by decide) (by decide) (XS.aloadN X4.here hx rfl (hb hby d4_78) rfl rfl (XS.iloadN X4.here hx rfl (hb hby d4_79) rfl kX))))))
  refine og (T4.setTop (mkF m 84 #[.val (.ref a0), .val (.ref ch), .val (.ref a2), .val (.int 0), .val (.int 3), .val (.int 0), .unset, .unset, .unset, .unset, .unset] [(.int 3), (.int 0), (.ref a2)])) ?_ (fun tX kX => XS.iloadN X4.here hx rfl (hb hby d4_80) rfl (XS.iload X4.here hx rfl (hb hby d4_81) rfl (XS.iadd X4.here hx rfl (hb hby d4_83) rfl kX)))
  obtain ⟨_, _, ⟨T5, L5, k5, n5⟩, -, X5, ⟨Lc5, hQ5, l5, y5, z5⟩, st5⟩ := Jvm.LawKit.callS X4 hx (y := oM28) hown (mvT hZ (oW hw 35 rfl)) (mvT hZ (oW hw 36 rfl)) (mvT hZ (oW hw 37 rfl)) (mvT hZ (oW hw 38 rfl)) (by decide) (backOf (W := 0) (rm7 l Z aV hw [] a2 (3 : Int32) kb [(.int xa), (.int xb), (.int tv)] h0 n0 Z0 E_a2 V_a2 (by decide)) hZ (oW hw 38 rfl) (oW hw 37 rfl) (by decide) (by decide)) (g := (mkF m 84 #[.val (.ref a0), .val (.ref ch), .val (.ref a2), .val (.int 0), .val (.int 3), .val (.int 0), .unset, .unset, .unset, .unset, .unset] [(.int 3), (.int 0), (.ref a2)])) rfl (by rw [hml]; rfl) (argsL := [(.ref a2), (.int 0), (.int 3)]) (rest := []) (lenOf pd___BII__B rfl) rfl (by show 2 * 0 + _ ≤ _; exact Nat.le_of_eq rfl) (hb hby d4_84) (fun _ _ => ⟨rfl, e4, (by decide : 0 + 1 ≤ _), (by decide : 0 + 5 ≤ _)⟩)
  dsimp only [Pt.U, Pt.locs, Pt.cells, Pt.slots] at X5 l5 y5 z5 st5 hQ5
  subst l5 y5 z5
  obtain ⟨nb_5, rfl, N5q, Kq5, sz5_nb, V_nb_5_p⟩ := hQ5
  have N5 := Fr.app N4 N5q
  have ne_a0_nb_5 : a0 ≠ nb_5 := Nat.ne_of_lt (Nat.lt_of_lt_of_le E_a0.lt sz5_nb)
  have ne_a2_nb_5 : a2 ≠ nb_5 := Nat.ne_of_lt (Nat.lt_of_lt_of_le E_a2.lt sz5_nb)
  have S_INSTANCE := Sta.keep0 S_INSTANCE Kq5
  have S_COMPACT_STRINGS := Sta.keep0 S_COMPACT_STRINGS Kq5
  have S_SIOOBE_FORMATTER := Sta.keep0 S_SIOOBE_FORMATTER Kq5
  have S__assertionsDisabled := Sta.keep0 S__assertionsDisabled Kq5
  have S_HI_BYTE_SHIFT := Sta.keep0 S_HI_BYTE_SHIFT Kq5
  have S_LO_BYTE_SHIFT := Sta.keep0 S_LO_BYTE_SHIFT Kq5
  have E_a0 := E_a0.keep Kq5
  have F_value_a0 := F_value_a0.keep Kq5 nin0
  have F_coder_a0 := F_coder_a0.keep Kq5 nin0
  have E_a2 := E_a2.keep Kq5
  have V_a2 := V_a2.keep Kq5 nin0
  have g_nb_5 : n0 ≤ nb_5 := Nat.le_trans Z0 sz5_nb
  have sz_nb_5 : h0.size ≤ nb_5 := Nat.le_trans K0.1 sz5_nb
  have K5 := K0.trans Kq5 all0
  have zn5 : n0 ≤ T5.heap.size := Nat.le_trans Z0 Kq5.1
  have V_nb_5 := V_nb_5_p
  refine og (T5.setTop (mkF m 87 #[.val (.ref a0), .val (.ref ch), .val (.ref a2), .val (.int 0), .val (.int 3), .val (.int 0), .unset, .unset, .unset, .unset, .unset] [(.ref nb_5)])) ?_ st5
  refine og (T5.setTop (mkF m 100 #[.val (.ref a0), .val (.ref ch), .val (.ref a2), .val (.int 0), .val (.int 3), .val (.int 0), .val (.ref nb_5), .val (.int 0), .unset, .unset, .unset] [])) ?_ (fun tX kX => XS.astore X5.here hx rfl (hb hby d4_87) rfl rfl (l' := #[.val (.ref a0), .val (.ref ch), .val (.ref a2), .val (.int 0), .val (.int 3), .val (.int 0), .val (.ref nb_5), .unset, .unset, .unset, .unset]) rfl (XS.iload X5.here hx rfl (hb hby d4_89) rfl (XS.istore X5.here hx rfl (hb hby d4_91) rfl (l' := #[.val (.ref a0), .val (.ref ch), .val (.ref a2), .val (.int 0), .val (.int 3), .val (.int 0), .val (.ref nb_5), .val (.int 0), .unset, .unset, .unset]) rfl (XS.iload X5.here hx rfl (hb hby d4_93) rfl (XS.iload X5.here hx rfl (hb hby d4_95) rfl (XS.icmpNo X5.here hx rfl (hb hby d4_97) rfl (tlt (by decide)).2.1 kX))))))
  refine og (T5.setTop (mkF m 107 #[.val (.ref a0), .val (.ref ch), .val (.ref a2), .val (.int 0), .val (.int 3), .val (.int 0), .val (.ref nb_5), .val (.int 1), .unset, .unset, .unset] [(.int 0), (.ref nb_5)])) ?_ (fun tX kX => XS.aload X5.here hx rfl (hb hby d4_100) rfl rfl (XS.iload X5.here hx rfl (hb hby d4_102) rfl (XS.iinc X5.here hx rfl (hb hby d4_104) rfl (l' := #[.val (.ref a0), .val (.ref ch), .val (.ref a2), .val (.int 0), .val (.int 3), .val (.int 0), .val (.ref nb_5), .val (.int 1), .unset, .unset, .unset]) rfl kX)))
  obtain ⟨cl6, Ar6, qa6, S6, N6', H6, G6⟩ := id V_nb_5
  have hin6 := inb_of (j := (0 : Int32)) S6 ⟨by decide, by decide⟩
  have hat6 := H6.at (v := (.int xa)) hin6 rfl
  refine og (T5.setTop (mkF m 134 #[.val (.ref a0), .val (.ref ch), .val (.ref a2), .val (.int 0), .val (.int 3), .val (.int 0), .val (.ref nb_5), .val (.int 1), .val (.int xa), .unset, .unset] [(.int 254), (.int xa)])) ?_ (fun tX kX => X5.baloadBytes hx (j := (0 : Int32)) (v := (.int xa)) Ar6.1 (State.isArrayOf_alike hZ.alike Ar6.2.1) Ar6.2.2 hin6 hat6 (g := (mkF m 107 #[.val (.ref a0), .val (.ref ch), .val (.ref a2), .val (.int 0), .val (.int 3), .val (.int 0), .val (.ref nb_5), .val (.int 1), .unset, .unset, .unset] [(.int 0), (.ref nb_5)])) rfl rfl (hb hby d4_107) _ (XS.istore X5.here hx rfl (hb hby d4_108) rfl (l' := #[.val (.ref a0), .val (.ref ch), .val (.ref a2), .val (.int 0), .val (.int 3), .val (.int 0), .val (.ref nb_5), .val (.int 1), .val (.int xa), .unset, .unset]) rfl (XS.iload X5.here hx rfl (hb hby d4_110) rfl (XS.ifYes X5.here hx rfl (pc0 := 112) (pc' := 129) rfl (hb hby d4_112) rfl ((if0 _ _).trans (tlt hH.1).1) (by decide) (by decide) (XS.iload X5.here hx rfl (hb hby d4_129) rfl (XS.sipush X5.here hx rfl (hb hby d4_131) kX))))))
  refine og (T5.setTop (mkF m 192 #[.val (.ref a0), .val (.ref ch), .val (.ref a2), .val (.int 0), .val (.int 3), .val (.int 0), .val (.ref nb_5), .val (.int 0), .val (.int xa), .unset, .unset] [(.int 0)])) ?_ (fun tX kX => XS.iand X5.here hx rfl (hb hby d4_134) rfl (XS.sipush X5.here hx rfl (hb hby d4_135) (XS.icmpYes X5.here hx rfl (pc0 := 138) (pc' := 184) rfl (hb hby d4_138) rfl (feq hH.2.1).2 (by decide) (by decide) (XS.iinc X5.here hx rfl (hb hby d4_184) rfl (l' := #[.val (.ref a0), .val (.ref ch), .val (.ref a2), .val (.int 0), .val (.int 3), .val (.int 0), .val (.ref nb_5), .val (.int 0), .val (.int xa), .unset, .unset]) rfl (XS.goto X5.here hx rfl (pc0 := 187) (pc' := 190) rfl (hb hby d4_187) (by decide) (by decide) (XS.iload X5.here hx rfl (hb hby d4_190) rfl kX))))))
  refine og (T5.setTop (mkF m 228 #[.val (.ref a0), .val (.ref ch), .val (.ref a2), .val (.int 0), .val (.int 3), .val (.int 0), .val (.ref nb_5), .val (.int 0), .val (.int xa), .unset, .unset] [(.int 3)])) ?_ (fun tX kX => XS.iload X5.here hx rfl (hb hby d4_192) rfl (XS.icmpYes X5.here hx rfl (pc0 := 194) (pc' := 226) rfl (hb hby d4_194) rfl (feq (by decide)).2 (by decide) (by decide) (XS.iload X5.here hx rfl (hb hby d4_226) rfl kX)))
  obtain ⟨_, _, ⟨T7, L7, k7, n7⟩, -, X7, ⟨Lc7, hQ7, l7, y7, z7⟩, st7⟩ := Jvm.LawKit.callS X5 hx (y := oM30) hown (mvT hZ (oW hw 104 rfl)) (mvT hZ (oW hw 105 rfl)) (mvT hZ (oW hw 106 rfl)) (mvT hZ (oW hw 107 rfl)) (by decide) (backOf (W := 0) (rm19 l Z aV hw [] (3 : Int32) T5.heap n0 zn5 (by decide) (by decide) (by decide) (by decide)) hZ (oW hw 107 rfl) (oW hw 106 rfl) (by decide) (by decide)) (g := (mkF m 228 #[.val (.ref a0), .val (.ref ch), .val (.ref a2), .val (.int 0), .val (.int 3), .val (.int 0), .val (.ref nb_5), .val (.int 0), .val (.int xa), .unset, .unset] [(.int 3)])) rfl (by rw [hml]; rfl) (argsL := [(.int 3)]) (rest := []) (lenOf pd__I__B rfl) rfl (by show 2 * 0 + _ ≤ _; exact Nat.le_of_eq rfl) (hb hby d4_228) (fun _ _ => ⟨rfl, rfl, (by decide : 1 + 1 ≤ _), (by decide : 5 + 10 ≤ _)⟩)
  dsimp only [Pt.U, Pt.locs, Pt.cells, Pt.slots] at X7 l7 y7 z7 st7 hQ7
  subst l7 y7 z7
  obtain ⟨nb_7, kn_7, rfl, N7q, Kq7, sz7_nb, V_nb_7_p⟩ := hQ7
  have N7 := Fr.app N5 N7q
  have ne_a0_nb_7 : a0 ≠ nb_7 := Nat.ne_of_lt (Nat.lt_of_lt_of_le E_a0.lt sz7_nb)
  have ne_a2_nb_7 : a2 ≠ nb_7 := Nat.ne_of_lt (Nat.lt_of_lt_of_le E_a2.lt sz7_nb)
  have ne_nb_5_nb_7 : nb_5 ≠ nb_7 := Nat.ne_of_lt (Nat.lt_of_lt_of_le V_nb_5.lt sz7_nb)
  have S_INSTANCE := Sta.keep0 S_INSTANCE Kq7
  have S_COMPACT_STRINGS := Sta.keep0 S_COMPACT_STRINGS Kq7
  have S_SIOOBE_FORMATTER := Sta.keep0 S_SIOOBE_FORMATTER Kq7
  have S__assertionsDisabled := Sta.keep0 S__assertionsDisabled Kq7
  have S_HI_BYTE_SHIFT := Sta.keep0 S_HI_BYTE_SHIFT Kq7
  have S_LO_BYTE_SHIFT := Sta.keep0 S_LO_BYTE_SHIFT Kq7
  have E_a0 := E_a0.keep Kq7
  have F_value_a0 := F_value_a0.keep Kq7 nin0
  have F_coder_a0 := F_coder_a0.keep Kq7 nin0
  have E_a2 := E_a2.keep Kq7
  have V_a2 := V_a2.keep Kq7 nin0
  have V_nb_5 := V_nb_5.keep Kq7 nin0
  have g_nb_7 : n0 ≤ nb_7 := Nat.le_trans zn5 sz7_nb
  have sz_nb_7 : h0.size ≤ nb_7 := Nat.le_trans K5.1 sz7_nb
  have K7 := K5.trans Kq7 all0
  have zn7 : n0 ≤ T7.heap.size := Nat.le_trans zn5 Kq7.1
  have V_nb_7 := V_nb_7_p
  refine og (T7.setTop (mkF m 231 #[.val (.ref a0), .val (.ref ch), .val (.ref a2), .val (.int 0), .val (.int 3), .val (.int 0), .val (.ref nb_5), .val (.int 0), .val (.int xa), .unset, .unset] [(.ref nb_7)])) ?_ st7
  have V_nb_7 : Arv Z T7.heap nb_7 kn_7 .byte (6 : Int32) [(.int 0), (.int 0), (.int 0), (.int 0), (.int 0), (.int 0)] (.int 0) := by have q := own_zz V_nb_7 (z' := (6 : Int32)) (by decide) 6; exact q
  refine og (T7.setTop (mkF m 241 #[.val (.ref a0), .val (.ref ch), .val (.ref a2), .val (.int 0), .val (.int 3), .val (.int 0), .val (.ref nb_5), .val (.int 0), .val (.ref nb_7), .unset, .unset] [(.int 0), (.int 0), (.ref nb_7), (.int 0), (.ref nb_5)])) ?_ (fun tX kX => XS.astore X7.here hx rfl (hb hby d4_231) rfl rfl (l' := #[.val (.ref a0), .val (.ref ch), .val (.ref a2), .val (.int 0), .val (.int 3), .val (.int 0), .val (.ref nb_5), .val (.int 0), .val (.ref nb_7), .unset, .unset]) rfl (XS.aload X7.here hx rfl (hb hby d4_233) rfl rfl (XS.iconst X7.here hx rfl (hb hby d4_235) (XS.aload X7.here hx rfl (hb hby d4_236) rfl rfl (XS.iconst X7.here hx rfl (hb hby d4_238) (XS.iload X7.here hx rfl (hb hby d4_239) rfl kX))))))
  obtain ⟨_, _, ⟨T8, L8, k8, n8⟩, -, X8, ⟨Lc8, hQ8, l8, y8, z8⟩, st8⟩ := Jvm.LawKit.callS X7 hx (y := oM36) hown (mvT hZ (oW hw 112 rfl)) (mvT hZ (oW hw 113 rfl)) (mvT hZ (oW hw 78 rfl)) (mvT hZ (oW hw 114 rfl)) (by decide) (backOf (W := 0) (rm21 l Z aV hw [] nb_5 nb_7 kn_7 (6 : Int32) [(.int 0), (.int 0), (.int 0), (.int 0), (.int 0), (.int 0)] fv T7.heap n0 zn7 V_nb_7 S_SIOOBE_FORMATTER hfv (by decide) (by decide)) hZ (oW hw 114 rfl) (oW hw 78 rfl) (by decide) (by decide)) (g := (mkF m 241 #[.val (.ref a0), .val (.ref ch), .val (.ref a2), .val (.int 0), .val (.int 3), .val (.int 0), .val (.ref nb_5), .val (.int 0), .val (.ref nb_7), .unset, .unset] [(.int 0), (.int 0), (.ref nb_7), (.int 0), (.ref nb_5)])) rfl (by rw [hml]; rfl) (argsL := [(.ref nb_5), (.int 0), (.ref nb_7), (.int 0), (.int 0)]) (rest := []) (lenOf pd___BI_BII_V rfl) rfl (by show 2 * 0 + _ ≤ _; exact Nat.le_of_eq rfl) (hb hby d4_241) (fun _ _ => ⟨rfl, rfl, (by decide : 2 + 0 ≤ _), (by decide : 15 + 0 ≤ _)⟩)
  dsimp only [Pt.U, Pt.locs, Pt.cells, Pt.slots] at X8 l8 y8 z8 st8 hQ8
  subst l8 y8 z8
  obtain ⟨rfl, N8q, e8⟩ := hQ8
  have N8 := Fr.app N7 N8q
  refine og (T8.setTop (mkF m 244 #[.val (.ref a0), .val (.ref ch), .val (.ref a2), .val (.int 0), .val (.int 3), .val (.int 0), .val (.ref nb_5), .val (.int 0), .val (.ref nb_7), .unset, .unset] [])) ?_ st8
  refine og (T8.setTop (mkF m 255 #[.val (.ref a0), .val (.ref ch), .val (.ref a2), .val (.int 0), .val (.int 3), .val (.int 0), .val (.ref nb_5), .val (.int 0), .val (.ref nb_7), .unset, .unset] [(.int 1), (.int 0), (.ref nb_7), (.int 3), (.int 0), (.ref nb_5)])) ?_ (fun tX kX => XS.aload X8.here hx rfl (hb hby d4_244) rfl rfl (XS.iload X8.here hx rfl (hb hby d4_246) rfl (XS.iload X8.here hx rfl (hb hby d4_248) rfl (XS.aload X8.here hx rfl (hb hby d4_250) rfl rfl (XS.iload X8.here hx rfl (hb hby d4_252) rfl (XS.iconst X8.here hx rfl (hb hby d4_254) kX))))))
  obtain ⟨_, _, ⟨T9, L9, k9, n9⟩, -, X9, ⟨Lc9, hQ9, l9, y9, z9⟩, st9⟩ := Jvm.LawKit.callS X8 hx (y := oM38) hown (mvT hZ (oW hw 130 rfl)) (mvT hZ (oW hw 131 rfl)) (mvT hZ (oW hw 9 rfl)) (mvT hZ (oW hw 132 rfl)) (by decide) (backOf (W := 0) (rm27b l Z aV hw [] nb_5 nb_7 kb kn_7 xa xb tv ca T7.heap n0 zn7 V_nb_5 V_nb_7 S__assertionsDisabled S_HI_BYTE_SHIFT S_LO_BYTE_SHIFT g_nb_7 ne_nb_5_nb_7 hH hT) hZ (oW hw 132 rfl) (oW hw 9 rfl) (by decide) (by decide)) (g := (mkF m 255 #[.val (.ref a0), .val (.ref ch), .val (.ref a2), .val (.int 0), .val (.int 3), .val (.int 0), .val (.ref nb_5), .val (.int 0), .val (.ref nb_7), .unset, .unset] [(.int 1), (.int 0), (.ref nb_7), (.int 3), (.int 0), (.ref nb_5)])) rfl (by rw [hml]; rfl) (argsL := [(.ref nb_5), (.int 0), (.int 3), (.ref nb_7), (.int 0), (.int 1)]) (rest := []) (lenOf pd___BII_BIZ_I rfl) rfl (by show 2 * 0 + _ ≤ _; exact Nat.le_of_eq rfl) (hb hby d4_255) (fun _ _ => ⟨rfl, e8, (by decide : 2 + 0 ≤ _), (by decide : 15 + 0 ≤ _)⟩)
  dsimp only [Pt.U, Pt.locs, Pt.cells, Pt.slots] at X9 l9 y9 z9 st9 hQ9
  subst l9 y9 z9
  obtain ⟨rfl, N9q, Kq9, V_nb_7_p⟩ := hQ9
  have N9 := Fr.app N8 N9q
  have S_INSTANCE := Sta.keepE S_INSTANCE Kq9 (staS (own_acell V_nb_7) (fun x hx' => nomatch hx'))
  have S_COMPACT_STRINGS := Sta.keepE S_COMPACT_STRINGS Kq9 (staS (own_acell V_nb_7) (fun x hx' => nomatch hx'))
  have S_SIOOBE_FORMATTER := Sta.keepE S_SIOOBE_FORMATTER Kq9 (staS (own_acell V_nb_7) (fun x hx' => nomatch hx'))
  have S__assertionsDisabled := Sta.keepE S__assertionsDisabled Kq9 (staS (own_acell V_nb_7) (fun x hx' => nomatch hx'))
  have S_HI_BYTE_SHIFT := Sta.keepE S_HI_BYTE_SHIFT Kq9 (staS (own_acell V_nb_7) (fun x hx' => nomatch hx'))
  have S_LO_BYTE_SHIFT := Sta.keepE S_LO_BYTE_SHIFT Kq9 (staS (own_acell V_nb_7) (fun x hx' => nomatch hx'))
  have E_a0 := E_a0.keep Kq9
  have F_value_a0 := F_value_a0.keep Kq9 (ninS ne_a0_nb_7 nin0)
  have F_coder_a0 := F_coder_a0.keep Kq9 (ninS ne_a0_nb_7 nin0)
  have E_a2 := E_a2.keep Kq9
  have V_a2 := V_a2.keep Kq9 (ninS ne_a2_nb_7 nin0)
  have V_nb_5 := V_nb_5.keep Kq9 (ninS ne_nb_5_nb_7 nin0)
  have K9 := K7.trans Kq9 (allS (P := fun x => x ∈ [a0] ∨ h0.size ≤ x) (Or.inr sz_nb_7) all0)
  have zn9 : n0 ≤ T9.heap.size := Nat.le_trans zn7 Kq9.1
  have V_nb_7 := V_nb_7_p
  refine og (T9.setTop (mkF m 258 #[.val (.ref a0), .val (.ref ch), .val (.ref a2), .val (.int 0), .val (.int 3), .val (.int 0), .val (.ref nb_5), .val (.int 0), .val (.ref nb_7), .unset, .unset] [(.int 2)])) ?_ st9
  refine og (T9.setTop (mkF m 271 #[.val (.ref a0), .val (.ref ch), .val (.ref a2), .val (.int 0), .val (.int 3), .val (.int 2), .val (.ref nb_5), .val (.int 0), .val (.ref nb_7), .unset, .unset] [(.int 2), (.ref nb_7)])) ?_ (fun tX kX => XS.istore X9.here hx rfl (hb hby d4_258) rfl (l' := #[.val (.ref a0), .val (.ref ch), .val (.ref a2), .val (.int 0), .val (.int 3), .val (.int 2), .val (.ref nb_5), .val (.int 0), .val (.ref nb_7), .unset, .unset]) rfl (XS.iload X9.here hx rfl (hb hby d4_260) rfl (XS.iload X9.here hx rfl (hb hby d4_262) rfl (XS.icmpNo X9.here hx rfl (hb hby d4_264) rfl (feq (by decide)).1 (XS.aload X9.here hx rfl (hb hby d4_267) rfl rfl (XS.iload X9.here hx rfl (hb hby d4_269) rfl kX))))))
  refine og (T9.setTop (mkF m 273 #[.val (.ref a0), .val (.ref ch), .val (.ref a2), .val (.int 0), .val (.int 3), .val (.int 2), .val (.ref nb_5), .val (.int 0), .val (.ref nb_7), .unset, .unset] [(.int ((2 : Int32) <<< ((1 : Int32) &&& 31))), (.ref nb_7)])) ?_ (fun tX kX => XS.iconst X9.here hx rfl (hb hby d4_271) (XS.ishl X9.here hx rfl (hb hby d4_272) rfl kX))
  rw [show ((2 : Int32) <<< ((1 : Int32) &&& 31)) = (4 : Int32) from by decide]
  obtain ⟨_, _, ⟨T10, L10, k10, n10⟩, -, X10, ⟨Lc10, hQ10, l10, y10, z10⟩, st10⟩ := Jvm.LawKit.callS X9 hx (y := oM31) hown (mvT hZ (oW hw 91 rfl)) (mvT hZ (oW hw 92 rfl)) (mvT hZ (oW hw 37 rfl)) (mvT hZ (oW hw 93 rfl)) (by decide) (backOf (W := 0) (rm17 l Z aV hw [] nb_7 (4 : Int32) kn_7 (6 : Int32) [(.int (own_lo ca)), (.int (own_hi ca)), (.int (own_lo tv)), (.int (own_hi tv)), (.int 0), (.int 0)] T9.heap n0 zn9 V_nb_7 (by decide) (by decide) (by decide) (by decide) (by decide)) hZ (oW hw 93 rfl) (oW hw 37 rfl) (by decide) (by decide)) (g := (mkF m 273 #[.val (.ref a0), .val (.ref ch), .val (.ref a2), .val (.int 0), .val (.int 3), .val (.int 2), .val (.ref nb_5), .val (.int 0), .val (.ref nb_7), .unset, .unset] [(.int 4), (.ref nb_7)])) rfl (by rw [hml]; rfl) (argsL := [(.ref nb_7), (.int 4)]) (rest := []) (lenOf pd___BI__B rfl) rfl (by show 2 * 0 + _ ≤ _; exact Nat.le_of_eq rfl) (hb hby d4_273) (fun _ _ => ⟨rfl, rfl, (by decide : 2 + 1 ≤ _), (by decide : 15 + 6 ≤ _)⟩)
  dsimp only [Pt.U, Pt.locs, Pt.cells, Pt.slots] at X10 l10 y10 z10 st10 hQ10
  subst l10 y10 z10
  obtain ⟨nb_10, kn_10, rfl, N10q, Kq10, sz10_nb, V_nb_10_p⟩ := hQ10
  have N10 := Fr.app N9 N10q
  have ne_a0_nb_10 : a0 ≠ nb_10 := Nat.ne_of_lt (Nat.lt_of_lt_of_le E_a0.lt sz10_nb)
  have ne_a2_nb_10 : a2 ≠ nb_10 := Nat.ne_of_lt (Nat.lt_of_lt_of_le E_a2.lt sz10_nb)
  have ne_nb_5_nb_10 : nb_5 ≠ nb_10 := Nat.ne_of_lt (Nat.lt_of_lt_of_le V_nb_5.lt sz10_nb)
  have ne_nb_7_nb_10 : nb_7 ≠ nb_10 := Nat.ne_of_lt (Nat.lt_of_lt_of_le V_nb_7.lt sz10_nb)
  have S_INSTANCE := Sta.keep0 S_INSTANCE Kq10
  have S_COMPACT_STRINGS := Sta.keep0 S_COMPACT_STRINGS Kq10
  have S_SIOOBE_FORMATTER := Sta.keep0 S_SIOOBE_FORMATTER Kq10
  have S__assertionsDisabled := Sta.keep0 S__assertionsDisabled Kq10
  have S_HI_BYTE_SHIFT := Sta.keep0 S_HI_BYTE_SHIFT Kq10
  have S_LO_BYTE_SHIFT := Sta.keep0 S_LO_BYTE_SHIFT Kq10
  have E_a0 := E_a0.keep Kq10
  have F_value_a0 := F_value_a0.keep Kq10 nin0
  have F_coder_a0 := F_coder_a0.keep Kq10 nin0
  have E_a2 := E_a2.keep Kq10
  have V_a2 := V_a2.keep Kq10 nin0
  have V_nb_5 := V_nb_5.keep Kq10 nin0
  have V_nb_7 := V_nb_7.keep Kq10 nin0
  have g_nb_10 : n0 ≤ nb_10 := Nat.le_trans zn9 sz10_nb
  have sz_nb_10 : h0.size ≤ nb_10 := Nat.le_trans K9.1 sz10_nb
  have K10 := K9.trans Kq10 all0
  have zn10 : n0 ≤ T10.heap.size := Nat.le_trans zn9 Kq10.1
  have V_nb_10 := V_nb_10_p
  refine og (T10.setTop (mkF m 276 #[.val (.ref a0), .val (.ref ch), .val (.ref a2), .val (.int 0), .val (.int 3), .val (.int 2), .val (.ref nb_5), .val (.int 0), .val (.ref nb_7), .unset, .unset] [(.ref nb_10)])) ?_ st10
  have V_nb_10 : Arv Z T10.heap nb_10 kn_10 .byte (4 : Int32) [(.int (own_lo ca)), (.int (own_hi ca)), (.int (own_lo tv)), (.int (own_hi tv))] (.int 0) := V_nb_10
  refine og (T10.setTop (mkF m 281 #[.val (.ref a0), .val (.ref ch), .val (.ref a2), .val (.int 0), .val (.int 3), .val (.int 2), .val (.ref nb_5), .val (.int 0), .val (.ref nb_10), .unset, .unset] [(.ref nb_10), (.ref a0)])) ?_ (fun tX kX => XS.astore X10.here hx rfl (hb hby d4_276) rfl rfl (l' := #[.val (.ref a0), .val (.ref ch), .val (.ref a2), .val (.int 0), .val (.int 3), .val (.int 2), .val (.ref nb_5), .val (.int 0), .val (.ref nb_10), .unset, .unset]) rfl (XS.aloadN X10.here hx rfl (hb hby d4_278) rfl rfl (XS.aload X10.here hx rfl (hb hby d4_279) rfl rfl kX)))
  obtain ⟨T11, h11, X11, e11, W11, st11⟩ := putF X10 hx hZ hown (host := "") (Or.inl (oW hw 48 rfl)) Via.refl rfl F_value_a0 E_a0 (Or.inr ⟨(oW hw 49 rfl), rfl, hnm⟩) (oW hw 8 rfl) (ty := (.array .byte)) (by decide) rfl rfl (g := (mkF m 281 #[.val (.ref a0), .val (.ref ch), .val (.ref a2), .val (.int 0), .val (.int 3), .val (.int 2), .val (.ref nb_5), .val (.int 0), .val (.ref nb_10), .unset, .unset] [(.ref nb_10), (.ref a0)])) rfl rfl (hb hby d4_281)
  have Eold11 := E_a0
  have E_a0 := E_a0.wr W11
  have F_value_a0 := F_value_a0.same W11
  have F_coder_a0 := F_coder_a0.other W11 (Or.inr (slot_ne (Or.inr (oW hw 51 rfl)) (Or.inr (oW hw 49 rfl)) (by decide) (t := .byte) (t' := (.array .byte)) (by decide) (by decide)))
  have S_INSTANCE := S_INSTANCE.wr W11
  have S_COMPACT_STRINGS := S_COMPACT_STRINGS.wr W11
  have S_SIOOBE_FORMATTER := S_SIOOBE_FORMATTER.wr W11
  have S__assertionsDisabled := S__assertionsDisabled.wr W11
  have S_HI_BYTE_SHIFT := S_HI_BYTE_SHIFT.wr W11
  have S_LO_BYTE_SHIFT := S_LO_BYTE_SHIFT.wr W11
  have E_a2 := E_a2.wr W11
  have V_a2 := V_a2.other W11 (Ne.symm (Exa.neArv Eold11 V_a2 (oW hw 8 rfl)))
  have V_nb_5 := V_nb_5.other W11 (Ne.symm ne_a0_nb_5)
  have V_nb_7 := V_nb_7.other W11 (Ne.symm ne_a0_nb_7)
  have V_nb_10 := V_nb_10.other W11 (Ne.symm ne_a0_nb_10)
  have K11 := K10.wr W11 (Or.inl (List.mem_of_getElem? (i := 0) rfl))
  have zn11 : n0 ≤ h11.size := Nat.le_trans zn10 (Keep.of_wr W11).1
  have N11 := Fr.snoc X11 N10 ga
  refine og (T11.setTop (mkF m 284 #[.val (.ref a0), .val (.ref ch), .val (.ref a2), .val (.int 0), .val (.int 3), .val (.int 2), .val (.ref nb_5), .val (.int 0), .val (.ref nb_10), .unset, .unset] [])) ?_ st11
  refine og (T11.setTop (mkF m 286 #[.val (.ref a0), .val (.ref ch), .val (.ref a2), .val (.int 0), .val (.int 3), .val (.int 2), .val (.ref nb_5), .val (.int 0), .val (.ref nb_10), .unset, .unset] [(.int 1), (.ref a0)])) ?_ (fun tX kX => XS.aloadN X11.here hx rfl (hb hby d4_284) rfl rfl (XS.iconst X11.here hx rfl (hb hby d4_285) kX))
  obtain ⟨T12, h12, X12, e12, W12, st12⟩ := putF X11 hx hZ hown (host := "") (Or.inl (oW hw 50 rfl)) Via.refl e11 F_coder_a0 E_a0 (Or.inr ⟨(oW hw 51 rfl), rfl, hnm⟩) (oW hw 8 rfl) (ty := .byte) (by decide) rfl rfl (g := (mkF m 286 #[.val (.ref a0), .val (.ref ch), .val (.ref a2), .val (.int 0), .val (.int 3), .val (.int 2), .val (.ref nb_5), .val (.int 0), .val (.ref nb_10), .unset, .unset] [(.int 1), (.ref a0)])) rfl rfl (hb hby d4_286)
  have Eold12 := E_a0
  have E_a0 := E_a0.wr W12
  have F_value_a0 := F_value_a0.other W12 (Or.inr (slot_ne (Or.inr (oW hw 49 rfl)) (Or.inr (oW hw 51 rfl)) (by decide) (t := (.array .byte)) (t' := .byte) (by decide) (by decide)))
  have F_coder_a0 := F_coder_a0.same W12
  have S_INSTANCE := S_INSTANCE.wr W12
  have S_COMPACT_STRINGS := S_COMPACT_STRINGS.wr W12
  have S_SIOOBE_FORMATTER := S_SIOOBE_FORMATTER.wr W12
  have S__assertionsDisabled := S__assertionsDisabled.wr W12
  have S_HI_BYTE_SHIFT := S_HI_BYTE_SHIFT.wr W12
  have S_LO_BYTE_SHIFT := S_LO_BYTE_SHIFT.wr W12
  have E_a2 := E_a2.wr W12
  have V_a2 := V_a2.other W12 (Ne.symm (Exa.neArv Eold12 V_a2 (oW hw 8 rfl)))
  have V_nb_5 := V_nb_5.other W12 (Ne.symm ne_a0_nb_5)
  have V_nb_7 := V_nb_7.other W12 (Ne.symm ne_a0_nb_7)
  have V_nb_10 := V_nb_10.other W12 (Ne.symm ne_a0_nb_10)
  have K12 := K11.wr W12 (Or.inl (List.mem_of_getElem? (i := 0) rfl))
  have zn12 : n0 ≤ h12.size := Nat.le_trans zn11 (Keep.of_wr W12).1
  have N12 := Fr.snoc X12 N11 ga
  refine og (T12.setTop (mkF m 289 #[.val (.ref a0), .val (.ref ch), .val (.ref a2), .val (.int 0), .val (.int 3), .val (.int 2), .val (.ref nb_5), .val (.int 0), .val (.ref nb_10), .unset, .unset] [])) ?_ st12
  refine og (T12.setTop (mkF m 879 #[.val (.ref a0), .val (.ref ch), .val (.ref a2), .val (.int 0), .val (.int 3), .val (.int 2), .val (.ref nb_5), .val (.int 0), .val (.ref nb_10), .unset, .unset] [])) ?_ (fun tX kX => XS.goto X12.here hx rfl (pc0 := 289) (pc' := 879) rfl (hb hby d4_289) (by decide) (by decide) kX)
  refine OGo.ret X12 (v := none) (fun _ => rfl) (BodyLoose.notSynchronized Bd) (fun fs hr => X12.returnOut hx Bd.returns (hb hby d4_879) hr) (Q := Q4G Z a0 (1 : Int32) (4 : Int32) [(.int (own_lo ca)), (.int (own_hi ca)), (.int (own_lo tv)), (.int (own_hi tv))] h0 n0) ?_ (by decide) (by decide)
  show Q4G Z a0 (1 : Int32) (4 : Int32) [(.int (own_lo ca)), (.int (own_hi ca)), (.int (own_lo tv)), (.int (own_hi tv))] h0 n0 _ T12.heap _
  rw [e12]
  exact ⟨nb_10, kn_10, rfl, N12, K12, sz_nb_10, E_a0, F_value_a0, F_coder_a0, V_nb_10⟩
def P4C (Z : State) (a0 : Addr) (ch : Addr) (a2 : Addr) (u1 : Value) (u2 : Value) (kb : ClassId) (xa : Int32) (xb : Int32) (xc : Int32) (tv : Int32) (ca : Int32) (cs : Int32) (fv : Value) (h0 : Heap) (n0 : Nat) (s : State) (o : Outcome) (U' : State) : Prop := ∃ v L, o = .returned v ∧ Q4G Z a0 (1 : Int32) (4 : Int32) [(.int (own_lo ca)), (.int (own_hi ca)), (.int (own_lo tv)), (.int (own_hi tv))] h0 n0 v U'.heap L ∧ FrameEnd s o U' L oR14.cells oR14.slots
set_option maxRecDepth 65536 in
set_option maxHeartbeats 40000000 in
theorem rm4C (l : Launch) (Z : State) (aV : Array Value) (hw : ∀ d ∈ tables_1, d.before aV Z = true) (ws : List Jvm.Cond) (a0 : Addr) (ch : Addr) (a2 : Addr) (u1 : Value) (u2 : Value) (kb : ClassId) (xa : Int32) (xb : Int32) (xc : Int32) (tv : Int32) (ca : Int32) (cs : Int32) (fv : Value) (h0 : Heap) (n0 : Nat) (Z0 : n0 ≤ h0.size) (E_a0 : Exa Z h0 a0 "java/lang/String") (F_value_a0 : Fld Z h0 a0 "java/lang/String" "value" "[B" u1) (F_coder_a0 : Fld Z h0 a0 "java/lang/String" "coder" "B" u2) (S_INSTANCE : Sta Z h0 "sun/nio/cs/UTF_8" "INSTANCE" "Lsun/nio/cs/UTF_8;" (.ref ch)) (S_COMPACT_STRINGS : Sta Z h0 "java/lang/String" "COMPACT_STRINGS" "Z" (.int cs)) (S_SIOOBE_FORMATTER : Sta Z h0 "jdk/internal/util/Preconditions" "SIOOBE_FORMATTER" "Ljava/util/function/BiFunction;" fv) (S__assertionsDisabled : Sta Z h0 "java/lang/StringUTF16" "$assertionsDisabled" "Z" (.int 1)) (S_HI_BYTE_SHIFT : Sta Z h0 "java/lang/StringUTF16" "HI_BYTE_SHIFT" "I" (.int 0)) (S_LO_BYTE_SHIFT : Sta Z h0 "java/lang/StringUTF16" "LO_BYTE_SHIFT" "I" (.int 8)) (E_a2 : Exa Z h0 a2 "[B") (V_a2 : Arv Z h0 a2 kb .byte (4 : Int32) [(.int xa), (.int xb), (.int xc), (.int tv)] (.int 0)) (ga : n0 ≤ a0) (hcs : ¬ cs = 0) (hfv : fv.isRef = true) (hH : own_H2 xa xb xc ca) (hT : own_HT tv) :
    MetFree l oM39 (head1 (Jvm.Cond.codeWith oM39 jdk_42_method_11_code 11 none [(800, 813, 816, 202)] :: ws) oR14) (fun a U => a = #[(.ref a0), (.ref ch), (.ref a2), (.int 0), (.int 4)] ∧ Z.Warmed39 U.vm ∧ U.heap = h0) (fun _ _ _ _ _ => True) (fun _ U o U' => ∃ v L, o = .returned v ∧ Q4G Z a0 (1 : Int32) (4 : Int32) [(.int (own_lo ca)), (.int (own_hi ca)), (.int (own_lo tv)), (.int (own_hi tv))] h0 n0 v U'.heap L ∧ FrameEnd U o U' L oR14.cells oR14.slots) := by
  refine MetFree.of_bodySF (plainFor_of_name pn_java_lang_String) hisWith ?_
  intro p e s m args below meth c s₁ Bd hml0 hP hK
  obtain ⟨rfl, hZ, hh⟩ := hP
  have hx := Bd.exec
  have hby := Bd.bytes
  have hml : c.maxLocals = 11 := hml0
  have hown : s.vm.findClass "java/lang/String" = some m.cls := findClass_of_methodNamed Bd.named
  have hnm := (name_of_methodNamed Bd.named Bd.method).1
  have X0 : Stand p l e oR14 s m #[(.ref a0), (.ref ch), (.ref a2), (.int 0), (.int 4)] below meth c s₁ [] 0 0 := Stand.of_body Bd
  have e0 : s₁.heap = h0 := by rw [← hh, Bd.state]; rfl
  have efx : entryFrame m #[(.ref a0), (.ref ch), (.ref a2), (.int 0), (.int 4)] 11 = mkF m 0 #[.val (.ref a0), .val (.ref ch), .val (.ref a2), .val (.int 0), .val (.int 4), .unset, .unset, .unset, .unset, .unset, .unset] [] := by first | (simp [entryFrame, mkF, argsToLocals, Value.category]; done) | rfl
  have N0 := Fr.nil n0
  have K0 : Keep h0 h0 [a0] := Keep.refl h0 _
  refine OGo.start (g' := mkF m 0 #[.val (.ref a0), .val (.ref ch), .val (.ref a2), .val (.int 0), .val (.int 4), .unset, .unset, .unset, .unset, .unset, .unset] []) (efx) ?_
  show OGo p.tables e below (P4C Z a0 ch a2 u1 u2 kb xa xb xc tv ca cs fv h0 n0 s) (s₁.setTop (mkF m 0 #[.val (.ref a0), .val (.ref ch), .val (.ref a2), .val (.int 0), .val (.int 4), .unset, .unset, .unset, .unset, .unset, .unset] []))
  refine og (s₁.setTop (mkF m 1 #[.val (.ref a0), .val (.ref ch), .val (.ref a2), .val (.int 0), .val (.int 4), .unset, .unset, .unset, .unset, .unset, .unset] [(.ref a0)])) ?_ (fun tX kX => XS.aloadN X0.here hx rfl (hb hby d4_0) rfl rfl kX)
  obtain ⟨T1, X1, e1, st1⟩ := initO X0 hx hZ hown (oW hw 25 rfl) (oW hw 26 rfl) (oW hw 27 rfl) e0 (g := (mkF m 1 #[.val (.ref a0), .val (.ref ch), .val (.ref a2), .val (.int 0), .val (.int 4), .unset, .unset, .unset, .unset, .unset, .unset] [(.ref a0)])) rfl (by rw [hml]; rfl) rfl (hb hby d4_1) (by decide) (W := 0) (by show 2 * 0 + _ ≤ _; exact Nat.le_of_eq rfl) (by decide)
  refine og (T1.setTop (mkF m 4 #[.val (.ref a0), .val (.ref ch), .val (.ref a2), .val (.int 0), .val (.int 4), .unset, .unset, .unset, .unset, .unset, .unset] [])) ?_ st1
  refine og (T1.setTop (mkF m 31 #[.val (.ref a0), .val (.ref ch), .val (.ref a2), .val (.int 0), .val (.int 4), .unset, .unset, .unset, .unset, .unset, .unset] [(.ref ch)])) ?_ (fun tX kX => XS.iload X1.here hx rfl (hb hby d4_4) rfl (XS.ifYes X1.here hx rfl (pc0 := 6) (pc' := 30) rfl (hb hby d4_6) rfl ((if0 _ _).trans (feq (by decide)).2) (by decide) (by decide) (XS.aloadN X1.here hx rfl (hb hby d4_30) rfl rfl kX)))
  obtain ⟨T2, X2, e2, st2⟩ := getS2 X1 hx hZ hown (host := "") (Or.inl (oW hw 28 rfl)) Via.refl e1 S_INSTANCE (g := (mkF m 31 #[.val (.ref a0), .val (.ref ch), .val (.ref a2), .val (.int 0), .val (.int 4), .unset, .unset, .unset, .unset, .unset, .unset] [(.ref ch)])) rfl (hb hby d4_31)
  refine og (T2.setTop (mkF m 34 #[.val (.ref a0), .val (.ref ch), .val (.ref a2), .val (.int 0), .val (.int 4), .unset, .unset, .unset, .unset, .unset, .unset] [(.ref ch), (.ref ch)])) ?_ st2
  refine og (T2.setTop (mkF m 37 #[.val (.ref a0), .val (.ref ch), .val (.ref a2), .val (.int 0), .val (.int 4), .unset, .unset, .unset, .unset, .unset, .unset] [])) ?_ (fun tX kX => Jvm.RoadKit.acmp (g := (mkF m 34 #[.val (.ref a0), .val (.ref ch), .val (.ref a2), .val (.int 0), .val (.int 4), .unset, .unset, .unset, .unset, .unset, .unset] [(.ref ch), (.ref ch)])) X2 hx rfl rfl rfl (pc0 := 34) (pc' := 37) (same := true) rfl (hb hby d4_34) rfl (decide_eq_true rfl) (by decide) (by decide) kX)
  obtain ⟨T3, X3, e3, st3⟩ := getS2 X2 hx hZ hown (host := "") (Or.inl (oW hw 30 rfl)) Via.refl e2 S_COMPACT_STRINGS (g := (mkF m 37 #[.val (.ref a0), .val (.ref ch), .val (.ref a2), .val (.int 0), .val (.int 4), .unset, .unset, .unset, .unset, .unset, .unset] [])) rfl (hb hby d4_37)
  refine og (T3.setTop (mkF m 40 #[.val (.ref a0), .val (.ref ch), .val (.ref a2), .val (.int 0), .val (.int 4), .unset, .unset, .unset, .unset, .unset, .unset] [(.int cs)])) ?_ st3
  refine og (T3.setTop (mkF m 47 #[.val (.ref a0), .val (.ref ch), .val (.ref a2), .val (.int 0), .val (.int 4), .unset, .unset, .unset, .unset, .unset, .unset] [(.int 4), (.int 0), (.ref a2)])) ?_ (fun tX kX => XS.ifNo X3.here hx rfl (hb hby d4_40) rfl ((if0 _ _).trans (feq hcs).1) (XS.aloadN X3.here hx rfl (hb hby d4_43) rfl rfl (XS.iloadN X3.here hx rfl (hb hby d4_44) rfl (XS.iload X3.here hx rfl (hb hby d4_45) rfl kX))))
  obtain ⟨_, _, ⟨T4, L4, k4, n4⟩, -, X4, ⟨Lc4, hQ4, l4, y4, z4⟩, st4⟩ := Jvm.LawKit.callS X3 hx (y := oM27) hown (mvT hZ (oW hw 31 rfl)) (mvT hZ (oW hw 32 rfl)) (mvT hZ (oW hw 33 rfl)) (mvT hZ (oW hw 34 rfl)) (by decide) (backOf (W := 0) (rm6N l Z aV hw [] a2 (4 : Int32) kb [(.int xa), (.int xb), (.int xc), (.int tv)] xa h0 n0 Z0 V_a2 (by decide) (by decide) rfl hH.1) hZ (oW hw 34 rfl) (oW hw 33 rfl) (by decide) (by decide)) (g := (mkF m 47 #[.val (.ref a0), .val (.ref ch), .val (.ref a2), .val (.int 0), .val (.int 4), .unset, .unset, .unset, .unset, .unset, .unset] [(.int 4), (.int 0), (.ref a2)])) rfl (by rw [hml]; rfl) (argsL := [(.ref a2), (.int 0), (.int 4)]) (rest := []) (lenOf pd___BII_I rfl) rfl (by show 2 * 0 + _ ≤ _; exact Nat.le_of_eq rfl) (hb hby d4_47) (fun _ _ => ⟨rfl, e3, (by decide : 0 + 0 ≤ _), (by decide : 0 + 0 ≤ _)⟩)
  dsimp only [Pt.U, Pt.locs, Pt.cells, Pt.slots] at X4 l4 y4 z4 st4 hQ4
  subst l4 y4 z4
  obtain ⟨rfl, N4q, e4⟩ := hQ4
  have N4 := Fr.app N0 N4q
  refine og (T4.setTop (mkF m 50 #[.val (.ref a0), .val (.ref ch), .val (.ref a2), .val (.int 0), .val (.int 4), .unset, .unset, .unset, .unset, .unset, .unset] [(.int 0)])) ?_ st4
  refine og (T4.setTop (mkF m 80 #[.val (.ref a0), .val (.ref ch), .val (.ref a2), .val (.int 0), .val (.int 4), .val (.int 0), .unset, .unset, .unset, .unset, .unset] [(.int 0), (.ref a2)])) ?_ (fun tX kX => XS.istore X4.here hx rfl (hb hby d4_50) rfl (l' := #[.val (.ref a0), .val (.ref ch), .val (.ref a2), .val (.int 0), .val (.int 4), .val (.int 0), .unset, .unset, .unset, .unset, .unset]) rfl (XS.iload X4.here hx rfl (hb hby d4_52) rfl (XS.iload X4.here hx rfl (hb hby d4_54) rfl (XS.icmpYes X4.here hx rfl (pc0 := 56) (pc' := 78) rfl (hb hby d4_56) rfl (feq (by decide)).2 (by decide) (by decide) (XS.aloadN X4.here hx rfl (hb hby d4_78) rfl rfl (XS.iloadN X4.here hx rfl (hb hby d4_79) rfl kX))))))
  refine og (T4.setTop (mkF m 84 #[.val (.ref a0), .val (.ref ch), .val (.ref a2), .val (.int 0), .val (.int 4), .val (.int 0), .unset, .unset, .unset, .unset, .unset] [(.int 4), (.int 0), (.ref a2)])) ?_ (fun tX kX => XS.iloadN X4.here hx rfl (hb hby d4_80) rfl (XS.iload X4.here hx rfl (hb hby d4_81) rfl (XS.iadd X4.here hx rfl (hb hby d4_83) rfl kX)))
  obtain ⟨_, _, ⟨T5, L5, k5, n5⟩, -, X5, ⟨Lc5, hQ5, l5, y5, z5⟩, st5⟩ := Jvm.LawKit.callS X4 hx (y := oM28) hown (mvT hZ (oW hw 35 rfl)) (mvT hZ (oW hw 36 rfl)) (mvT hZ (oW hw 37 rfl)) (mvT hZ (oW hw 38 rfl)) (by decide) (backOf (W := 0) (rm7 l Z aV hw [] a2 (4 : Int32) kb [(.int xa), (.int xb), (.int xc), (.int tv)] h0 n0 Z0 E_a2 V_a2 (by decide)) hZ (oW hw 38 rfl) (oW hw 37 rfl) (by decide) (by decide)) (g := (mkF m 84 #[.val (.ref a0), .val (.ref ch), .val (.ref a2), .val (.int 0), .val (.int 4), .val (.int 0), .unset, .unset, .unset, .unset, .unset] [(.int 4), (.int 0), (.ref a2)])) rfl (by rw [hml]; rfl) (argsL := [(.ref a2), (.int 0), (.int 4)]) (rest := []) (lenOf pd___BII__B rfl) rfl (by show 2 * 0 + _ ≤ _; exact Nat.le_of_eq rfl) (hb hby d4_84) (fun _ _ => ⟨rfl, e4, (by decide : 0 + 1 ≤ _), (by decide : 0 + 5 ≤ _)⟩)
  dsimp only [Pt.U, Pt.locs, Pt.cells, Pt.slots] at X5 l5 y5 z5 st5 hQ5
  subst l5 y5 z5
  obtain ⟨nb_5, rfl, N5q, Kq5, sz5_nb, V_nb_5_p⟩ := hQ5
  have N5 := Fr.app N4 N5q
  have ne_a0_nb_5 : a0 ≠ nb_5 := Nat.ne_of_lt (Nat.lt_of_lt_of_le E_a0.lt sz5_nb)
  have ne_a2_nb_5 : a2 ≠ nb_5 := Nat.ne_of_lt (Nat.lt_of_lt_of_le E_a2.lt sz5_nb)
  have S_INSTANCE := Sta.keep0 S_INSTANCE Kq5
  have S_COMPACT_STRINGS := Sta.keep0 S_COMPACT_STRINGS Kq5
  have S_SIOOBE_FORMATTER := Sta.keep0 S_SIOOBE_FORMATTER Kq5
  have S__assertionsDisabled := Sta.keep0 S__assertionsDisabled Kq5
  have S_HI_BYTE_SHIFT := Sta.keep0 S_HI_BYTE_SHIFT Kq5
  have S_LO_BYTE_SHIFT := Sta.keep0 S_LO_BYTE_SHIFT Kq5
  have E_a0 := E_a0.keep Kq5
  have F_value_a0 := F_value_a0.keep Kq5 nin0
  have F_coder_a0 := F_coder_a0.keep Kq5 nin0
  have E_a2 := E_a2.keep Kq5
  have V_a2 := V_a2.keep Kq5 nin0
  have g_nb_5 : n0 ≤ nb_5 := Nat.le_trans Z0 sz5_nb
  have sz_nb_5 : h0.size ≤ nb_5 := Nat.le_trans K0.1 sz5_nb
  have K5 := K0.trans Kq5 all0
  have zn5 : n0 ≤ T5.heap.size := Nat.le_trans Z0 Kq5.1
  have V_nb_5 := V_nb_5_p
  refine og (T5.setTop (mkF m 87 #[.val (.ref a0), .val (.ref ch), .val (.ref a2), .val (.int 0), .val (.int 4), .val (.int 0), .unset, .unset, .unset, .unset, .unset] [(.ref nb_5)])) ?_ st5
  refine og (T5.setTop (mkF m 100 #[.val (.ref a0), .val (.ref ch), .val (.ref a2), .val (.int 0), .val (.int 4), .val (.int 0), .val (.ref nb_5), .val (.int 0), .unset, .unset, .unset] [])) ?_ (fun tX kX => XS.astore X5.here hx rfl (hb hby d4_87) rfl rfl (l' := #[.val (.ref a0), .val (.ref ch), .val (.ref a2), .val (.int 0), .val (.int 4), .val (.int 0), .val (.ref nb_5), .unset, .unset, .unset, .unset]) rfl (XS.iload X5.here hx rfl (hb hby d4_89) rfl (XS.istore X5.here hx rfl (hb hby d4_91) rfl (l' := #[.val (.ref a0), .val (.ref ch), .val (.ref a2), .val (.int 0), .val (.int 4), .val (.int 0), .val (.ref nb_5), .val (.int 0), .unset, .unset, .unset]) rfl (XS.iload X5.here hx rfl (hb hby d4_93) rfl (XS.iload X5.here hx rfl (hb hby d4_95) rfl (XS.icmpNo X5.here hx rfl (hb hby d4_97) rfl (tlt (by decide)).2.1 kX))))))
  refine og (T5.setTop (mkF m 107 #[.val (.ref a0), .val (.ref ch), .val (.ref a2), .val (.int 0), .val (.int 4), .val (.int 0), .val (.ref nb_5), .val (.int 1), .unset, .unset, .unset] [(.int 0), (.ref nb_5)])) ?_ (fun tX kX => XS.aload X5.here hx rfl (hb hby d4_100) rfl rfl (XS.iload X5.here hx rfl (hb hby d4_102) rfl (XS.iinc X5.here hx rfl (hb hby d4_104) rfl (l' := #[.val (.ref a0), .val (.ref ch), .val (.ref a2), .val (.int 0), .val (.int 4), .val (.int 0), .val (.ref nb_5), .val (.int 1), .unset, .unset, .unset]) rfl kX)))
  obtain ⟨cl6, Ar6, qa6, S6, N6', H6, G6⟩ := id V_nb_5
  have hin6 := inb_of (j := (0 : Int32)) S6 ⟨by decide, by decide⟩
  have hat6 := H6.at (v := (.int xa)) hin6 rfl
  refine og (T5.setTop (mkF m 134 #[.val (.ref a0), .val (.ref ch), .val (.ref a2), .val (.int 0), .val (.int 4), .val (.int 0), .val (.ref nb_5), .val (.int 1), .val (.int xa), .unset, .unset] [(.int 254), (.int xa)])) ?_ (fun tX kX => X5.baloadBytes hx (j := (0 : Int32)) (v := (.int xa)) Ar6.1 (State.isArrayOf_alike hZ.alike Ar6.2.1) Ar6.2.2 hin6 hat6 (g := (mkF m 107 #[.val (.ref a0), .val (.ref ch), .val (.ref a2), .val (.int 0), .val (.int 4), .val (.int 0), .val (.ref nb_5), .val (.int 1), .unset, .unset, .unset] [(.int 0), (.ref nb_5)])) rfl rfl (hb hby d4_107) _ (XS.istore X5.here hx rfl (hb hby d4_108) rfl (l' := #[.val (.ref a0), .val (.ref ch), .val (.ref a2), .val (.int 0), .val (.int 4), .val (.int 0), .val (.ref nb_5), .val (.int 1), .val (.int xa), .unset, .unset]) rfl (XS.iload X5.here hx rfl (hb hby d4_110) rfl (XS.ifYes X5.here hx rfl (pc0 := 112) (pc' := 129) rfl (hb hby d4_112) rfl ((if0 _ _).trans (tlt hH.1).1) (by decide) (by decide) (XS.iload X5.here hx rfl (hb hby d4_129) rfl (XS.sipush X5.here hx rfl (hb hby d4_131) kX))))))
  refine og (T5.setTop (mkF m 192 #[.val (.ref a0), .val (.ref ch), .val (.ref a2), .val (.int 0), .val (.int 4), .val (.int 0), .val (.ref nb_5), .val (.int 0), .val (.int xa), .unset, .unset] [(.int 0)])) ?_ (fun tX kX => XS.iand X5.here hx rfl (hb hby d4_134) rfl (XS.sipush X5.here hx rfl (hb hby d4_135) (XS.icmpYes X5.here hx rfl (pc0 := 138) (pc' := 184) rfl (hb hby d4_138) rfl (feq hH.2.1).2 (by decide) (by decide) (XS.iinc X5.here hx rfl (hb hby d4_184) rfl (l' := #[.val (.ref a0), .val (.ref ch), .val (.ref a2), .val (.int 0), .val (.int 4), .val (.int 0), .val (.ref nb_5), .val (.int 0), .val (.int xa), .unset, .unset]) rfl (XS.goto X5.here hx rfl (pc0 := 187) (pc' := 190) rfl (hb hby d4_187) (by decide) (by decide) (XS.iload X5.here hx rfl (hb hby d4_190) rfl kX))))))
  refine og (T5.setTop (mkF m 228 #[.val (.ref a0), .val (.ref ch), .val (.ref a2), .val (.int 0), .val (.int 4), .val (.int 0), .val (.ref nb_5), .val (.int 0), .val (.int xa), .unset, .unset] [(.int 4)])) ?_ (fun tX kX => XS.iload X5.here hx rfl (hb hby d4_192) rfl (XS.icmpYes X5.here hx rfl (pc0 := 194) (pc' := 226) rfl (hb hby d4_194) rfl (feq (by decide)).2 (by decide) (by decide) (XS.iload X5.here hx rfl (hb hby d4_226) rfl kX)))
  obtain ⟨_, _, ⟨T7, L7, k7, n7⟩, -, X7, ⟨Lc7, hQ7, l7, y7, z7⟩, st7⟩ := Jvm.LawKit.callS X5 hx (y := oM30) hown (mvT hZ (oW hw 104 rfl)) (mvT hZ (oW hw 105 rfl)) (mvT hZ (oW hw 106 rfl)) (mvT hZ (oW hw 107 rfl)) (by decide) (backOf (W := 0) (rm19 l Z aV hw [] (4 : Int32) T5.heap n0 zn5 (by decide) (by decide) (by decide) (by decide)) hZ (oW hw 107 rfl) (oW hw 106 rfl) (by decide) (by decide)) (g := (mkF m 228 #[.val (.ref a0), .val (.ref ch), .val (.ref a2), .val (.int 0), .val (.int 4), .val (.int 0), .val (.ref nb_5), .val (.int 0), .val (.int xa), .unset, .unset] [(.int 4)])) rfl (by rw [hml]; rfl) (argsL := [(.int 4)]) (rest := []) (lenOf pd__I__B rfl) rfl (by show 2 * 0 + _ ≤ _; exact Nat.le_of_eq rfl) (hb hby d4_228) (fun _ _ => ⟨rfl, rfl, (by decide : 1 + 1 ≤ _), (by decide : 5 + 10 ≤ _)⟩)
  dsimp only [Pt.U, Pt.locs, Pt.cells, Pt.slots] at X7 l7 y7 z7 st7 hQ7
  subst l7 y7 z7
  obtain ⟨nb_7, kn_7, rfl, N7q, Kq7, sz7_nb, V_nb_7_p⟩ := hQ7
  have N7 := Fr.app N5 N7q
  have ne_a0_nb_7 : a0 ≠ nb_7 := Nat.ne_of_lt (Nat.lt_of_lt_of_le E_a0.lt sz7_nb)
  have ne_a2_nb_7 : a2 ≠ nb_7 := Nat.ne_of_lt (Nat.lt_of_lt_of_le E_a2.lt sz7_nb)
  have ne_nb_5_nb_7 : nb_5 ≠ nb_7 := Nat.ne_of_lt (Nat.lt_of_lt_of_le V_nb_5.lt sz7_nb)
  have S_INSTANCE := Sta.keep0 S_INSTANCE Kq7
  have S_COMPACT_STRINGS := Sta.keep0 S_COMPACT_STRINGS Kq7
  have S_SIOOBE_FORMATTER := Sta.keep0 S_SIOOBE_FORMATTER Kq7
  have S__assertionsDisabled := Sta.keep0 S__assertionsDisabled Kq7
  have S_HI_BYTE_SHIFT := Sta.keep0 S_HI_BYTE_SHIFT Kq7
  have S_LO_BYTE_SHIFT := Sta.keep0 S_LO_BYTE_SHIFT Kq7
  have E_a0 := E_a0.keep Kq7
  have F_value_a0 := F_value_a0.keep Kq7 nin0
  have F_coder_a0 := F_coder_a0.keep Kq7 nin0
  have E_a2 := E_a2.keep Kq7
  have V_a2 := V_a2.keep Kq7 nin0
  have V_nb_5 := V_nb_5.keep Kq7 nin0
  have g_nb_7 : n0 ≤ nb_7 := Nat.le_trans zn5 sz7_nb
  have sz_nb_7 : h0.size ≤ nb_7 := Nat.le_trans K5.1 sz7_nb
  have K7 := K5.trans Kq7 all0
  have zn7 : n0 ≤ T7.heap.size := Nat.le_trans zn5 Kq7.1
  have V_nb_7 := V_nb_7_p
  refine og (T7.setTop (mkF m 231 #[.val (.ref a0), .val (.ref ch), .val (.ref a2), .val (.int 0), .val (.int 4), .val (.int 0), .val (.ref nb_5), .val (.int 0), .val (.int xa), .unset, .unset] [(.ref nb_7)])) ?_ st7
  have V_nb_7 : Arv Z T7.heap nb_7 kn_7 .byte (8 : Int32) [(.int 0), (.int 0), (.int 0), (.int 0), (.int 0), (.int 0), (.int 0), (.int 0)] (.int 0) := by have q := own_zz V_nb_7 (z' := (8 : Int32)) (by decide) 8; exact q
  refine og (T7.setTop (mkF m 241 #[.val (.ref a0), .val (.ref ch), .val (.ref a2), .val (.int 0), .val (.int 4), .val (.int 0), .val (.ref nb_5), .val (.int 0), .val (.ref nb_7), .unset, .unset] [(.int 0), (.int 0), (.ref nb_7), (.int 0), (.ref nb_5)])) ?_ (fun tX kX => XS.astore X7.here hx rfl (hb hby d4_231) rfl rfl (l' := #[.val (.ref a0), .val (.ref ch), .val (.ref a2), .val (.int 0), .val (.int 4), .val (.int 0), .val (.ref nb_5), .val (.int 0), .val (.ref nb_7), .unset, .unset]) rfl (XS.aload X7.here hx rfl (hb hby d4_233) rfl rfl (XS.iconst X7.here hx rfl (hb hby d4_235) (XS.aload X7.here hx rfl (hb hby d4_236) rfl rfl (XS.iconst X7.here hx rfl (hb hby d4_238) (XS.iload X7.here hx rfl (hb hby d4_239) rfl kX))))))
  obtain ⟨_, _, ⟨T8, L8, k8, n8⟩, -, X8, ⟨Lc8, hQ8, l8, y8, z8⟩, st8⟩ := Jvm.LawKit.callS X7 hx (y := oM36) hown (mvT hZ (oW hw 112 rfl)) (mvT hZ (oW hw 113 rfl)) (mvT hZ (oW hw 78 rfl)) (mvT hZ (oW hw 114 rfl)) (by decide) (backOf (W := 0) (rm21 l Z aV hw [] nb_5 nb_7 kn_7 (8 : Int32) [(.int 0), (.int 0), (.int 0), (.int 0), (.int 0), (.int 0), (.int 0), (.int 0)] fv T7.heap n0 zn7 V_nb_7 S_SIOOBE_FORMATTER hfv (by decide) (by decide)) hZ (oW hw 114 rfl) (oW hw 78 rfl) (by decide) (by decide)) (g := (mkF m 241 #[.val (.ref a0), .val (.ref ch), .val (.ref a2), .val (.int 0), .val (.int 4), .val (.int 0), .val (.ref nb_5), .val (.int 0), .val (.ref nb_7), .unset, .unset] [(.int 0), (.int 0), (.ref nb_7), (.int 0), (.ref nb_5)])) rfl (by rw [hml]; rfl) (argsL := [(.ref nb_5), (.int 0), (.ref nb_7), (.int 0), (.int 0)]) (rest := []) (lenOf pd___BI_BII_V rfl) rfl (by show 2 * 0 + _ ≤ _; exact Nat.le_of_eq rfl) (hb hby d4_241) (fun _ _ => ⟨rfl, rfl, (by decide : 2 + 0 ≤ _), (by decide : 15 + 0 ≤ _)⟩)
  dsimp only [Pt.U, Pt.locs, Pt.cells, Pt.slots] at X8 l8 y8 z8 st8 hQ8
  subst l8 y8 z8
  obtain ⟨rfl, N8q, e8⟩ := hQ8
  have N8 := Fr.app N7 N8q
  refine og (T8.setTop (mkF m 244 #[.val (.ref a0), .val (.ref ch), .val (.ref a2), .val (.int 0), .val (.int 4), .val (.int 0), .val (.ref nb_5), .val (.int 0), .val (.ref nb_7), .unset, .unset] [])) ?_ st8
  refine og (T8.setTop (mkF m 255 #[.val (.ref a0), .val (.ref ch), .val (.ref a2), .val (.int 0), .val (.int 4), .val (.int 0), .val (.ref nb_5), .val (.int 0), .val (.ref nb_7), .unset, .unset] [(.int 1), (.int 0), (.ref nb_7), (.int 4), (.int 0), (.ref nb_5)])) ?_ (fun tX kX => XS.aload X8.here hx rfl (hb hby d4_244) rfl rfl (XS.iload X8.here hx rfl (hb hby d4_246) rfl (XS.iload X8.here hx rfl (hb hby d4_248) rfl (XS.aload X8.here hx rfl (hb hby d4_250) rfl rfl (XS.iload X8.here hx rfl (hb hby d4_252) rfl (XS.iconst X8.here hx rfl (hb hby d4_254) kX))))))
  obtain ⟨_, _, ⟨T9, L9, k9, n9⟩, -, X9, ⟨Lc9, hQ9, l9, y9, z9⟩, st9⟩ := Jvm.LawKit.callS X8 hx (y := oM38) hown (mvT hZ (oW hw 130 rfl)) (mvT hZ (oW hw 131 rfl)) (mvT hZ (oW hw 9 rfl)) (mvT hZ (oW hw 132 rfl)) (by decide) (backOf (W := 0) (rm27c l Z aV hw [] nb_5 nb_7 kb kn_7 xa xb xc tv ca T7.heap n0 zn7 V_nb_5 V_nb_7 S__assertionsDisabled S_HI_BYTE_SHIFT S_LO_BYTE_SHIFT g_nb_7 ne_nb_5_nb_7 hH hT) hZ (oW hw 132 rfl) (oW hw 9 rfl) (by decide) (by decide)) (g := (mkF m 255 #[.val (.ref a0), .val (.ref ch), .val (.ref a2), .val (.int 0), .val (.int 4), .val (.int 0), .val (.ref nb_5), .val (.int 0), .val (.ref nb_7), .unset, .unset] [(.int 1), (.int 0), (.ref nb_7), (.int 4), (.int 0), (.ref nb_5)])) rfl (by rw [hml]; rfl) (argsL := [(.ref nb_5), (.int 0), (.int 4), (.ref nb_7), (.int 0), (.int 1)]) (rest := []) (lenOf pd___BII_BIZ_I rfl) rfl (by show 2 * 0 + _ ≤ _; exact Nat.le_of_eq rfl) (hb hby d4_255) (fun _ _ => ⟨rfl, e8, (by decide : 2 + 0 ≤ _), (by decide : 15 + 0 ≤ _)⟩)
  dsimp only [Pt.U, Pt.locs, Pt.cells, Pt.slots] at X9 l9 y9 z9 st9 hQ9
  subst l9 y9 z9
  obtain ⟨rfl, N9q, Kq9, V_nb_7_p⟩ := hQ9
  have N9 := Fr.app N8 N9q
  have S_INSTANCE := Sta.keepE S_INSTANCE Kq9 (staS (own_acell V_nb_7) (fun x hx' => nomatch hx'))
  have S_COMPACT_STRINGS := Sta.keepE S_COMPACT_STRINGS Kq9 (staS (own_acell V_nb_7) (fun x hx' => nomatch hx'))
  have S_SIOOBE_FORMATTER := Sta.keepE S_SIOOBE_FORMATTER Kq9 (staS (own_acell V_nb_7) (fun x hx' => nomatch hx'))
  have S__assertionsDisabled := Sta.keepE S__assertionsDisabled Kq9 (staS (own_acell V_nb_7) (fun x hx' => nomatch hx'))
  have S_HI_BYTE_SHIFT := Sta.keepE S_HI_BYTE_SHIFT Kq9 (staS (own_acell V_nb_7) (fun x hx' => nomatch hx'))
  have S_LO_BYTE_SHIFT := Sta.keepE S_LO_BYTE_SHIFT Kq9 (staS (own_acell V_nb_7) (fun x hx' => nomatch hx'))
  have E_a0 := E_a0.keep Kq9
  have F_value_a0 := F_value_a0.keep Kq9 (ninS ne_a0_nb_7 nin0)
  have F_coder_a0 := F_coder_a0.keep Kq9 (ninS ne_a0_nb_7 nin0)
  have E_a2 := E_a2.keep Kq9
  have V_a2 := V_a2.keep Kq9 (ninS ne_a2_nb_7 nin0)
  have V_nb_5 := V_nb_5.keep Kq9 (ninS ne_nb_5_nb_7 nin0)
  have K9 := K7.trans Kq9 (allS (P := fun x => x ∈ [a0] ∨ h0.size ≤ x) (Or.inr sz_nb_7) all0)
  have zn9 : n0 ≤ T9.heap.size := Nat.le_trans zn7 Kq9.1
  have V_nb_7 := V_nb_7_p
  refine og (T9.setTop (mkF m 258 #[.val (.ref a0), .val (.ref ch), .val (.ref a2), .val (.int 0), .val (.int 4), .val (.int 0), .val (.ref nb_5), .val (.int 0), .val (.ref nb_7), .unset, .unset] [(.int 2)])) ?_ st9
  refine og (T9.setTop (mkF m 271 #[.val (.ref a0), .val (.ref ch), .val (.ref a2), .val (.int 0), .val (.int 4), .val (.int 2), .val (.ref nb_5), .val (.int 0), .val (.ref nb_7), .unset, .unset] [(.int 2), (.ref nb_7)])) ?_ (fun tX kX => XS.istore X9.here hx rfl (hb hby d4_258) rfl (l' := #[.val (.ref a0), .val (.ref ch), .val (.ref a2), .val (.int 0), .val (.int 4), .val (.int 2), .val (.ref nb_5), .val (.int 0), .val (.ref nb_7), .unset, .unset]) rfl (XS.iload X9.here hx rfl (hb hby d4_260) rfl (XS.iload X9.here hx rfl (hb hby d4_262) rfl (XS.icmpNo X9.here hx rfl (hb hby d4_264) rfl (feq (by decide)).1 (XS.aload X9.here hx rfl (hb hby d4_267) rfl rfl (XS.iload X9.here hx rfl (hb hby d4_269) rfl kX))))))
  refine og (T9.setTop (mkF m 273 #[.val (.ref a0), .val (.ref ch), .val (.ref a2), .val (.int 0), .val (.int 4), .val (.int 2), .val (.ref nb_5), .val (.int 0), .val (.ref nb_7), .unset, .unset] [(.int ((2 : Int32) <<< ((1 : Int32) &&& 31))), (.ref nb_7)])) ?_ (fun tX kX => XS.iconst X9.here hx rfl (hb hby d4_271) (XS.ishl X9.here hx rfl (hb hby d4_272) rfl kX))
  rw [show ((2 : Int32) <<< ((1 : Int32) &&& 31)) = (4 : Int32) from by decide]
  obtain ⟨_, _, ⟨T10, L10, k10, n10⟩, -, X10, ⟨Lc10, hQ10, l10, y10, z10⟩, st10⟩ := Jvm.LawKit.callS X9 hx (y := oM31) hown (mvT hZ (oW hw 91 rfl)) (mvT hZ (oW hw 92 rfl)) (mvT hZ (oW hw 37 rfl)) (mvT hZ (oW hw 93 rfl)) (by decide) (backOf (W := 0) (rm17 l Z aV hw [] nb_7 (4 : Int32) kn_7 (8 : Int32) [(.int (own_lo ca)), (.int (own_hi ca)), (.int (own_lo tv)), (.int (own_hi tv)), (.int 0), (.int 0), (.int 0), (.int 0)] T9.heap n0 zn9 V_nb_7 (by decide) (by decide) (by decide) (by decide) (by decide)) hZ (oW hw 93 rfl) (oW hw 37 rfl) (by decide) (by decide)) (g := (mkF m 273 #[.val (.ref a0), .val (.ref ch), .val (.ref a2), .val (.int 0), .val (.int 4), .val (.int 2), .val (.ref nb_5), .val (.int 0), .val (.ref nb_7), .unset, .unset] [(.int 4), (.ref nb_7)])) rfl (by rw [hml]; rfl) (argsL := [(.ref nb_7), (.int 4)]) (rest := []) (lenOf pd___BI__B rfl) rfl (by show 2 * 0 + _ ≤ _; exact Nat.le_of_eq rfl) (hb hby d4_273) (fun _ _ => ⟨rfl, rfl, (by decide : 2 + 1 ≤ _), (by decide : 15 + 6 ≤ _)⟩)
  dsimp only [Pt.U, Pt.locs, Pt.cells, Pt.slots] at X10 l10 y10 z10 st10 hQ10
  subst l10 y10 z10
  obtain ⟨nb_10, kn_10, rfl, N10q, Kq10, sz10_nb, V_nb_10_p⟩ := hQ10
  have N10 := Fr.app N9 N10q
  have ne_a0_nb_10 : a0 ≠ nb_10 := Nat.ne_of_lt (Nat.lt_of_lt_of_le E_a0.lt sz10_nb)
  have ne_a2_nb_10 : a2 ≠ nb_10 := Nat.ne_of_lt (Nat.lt_of_lt_of_le E_a2.lt sz10_nb)
  have ne_nb_5_nb_10 : nb_5 ≠ nb_10 := Nat.ne_of_lt (Nat.lt_of_lt_of_le V_nb_5.lt sz10_nb)
  have ne_nb_7_nb_10 : nb_7 ≠ nb_10 := Nat.ne_of_lt (Nat.lt_of_lt_of_le V_nb_7.lt sz10_nb)
  have S_INSTANCE := Sta.keep0 S_INSTANCE Kq10
  have S_COMPACT_STRINGS := Sta.keep0 S_COMPACT_STRINGS Kq10
  have S_SIOOBE_FORMATTER := Sta.keep0 S_SIOOBE_FORMATTER Kq10
  have S__assertionsDisabled := Sta.keep0 S__assertionsDisabled Kq10
  have S_HI_BYTE_SHIFT := Sta.keep0 S_HI_BYTE_SHIFT Kq10
  have S_LO_BYTE_SHIFT := Sta.keep0 S_LO_BYTE_SHIFT Kq10
  have E_a0 := E_a0.keep Kq10
  have F_value_a0 := F_value_a0.keep Kq10 nin0
  have F_coder_a0 := F_coder_a0.keep Kq10 nin0
  have E_a2 := E_a2.keep Kq10
  have V_a2 := V_a2.keep Kq10 nin0
  have V_nb_5 := V_nb_5.keep Kq10 nin0
  have V_nb_7 := V_nb_7.keep Kq10 nin0
  have g_nb_10 : n0 ≤ nb_10 := Nat.le_trans zn9 sz10_nb
  have sz_nb_10 : h0.size ≤ nb_10 := Nat.le_trans K9.1 sz10_nb
  have K10 := K9.trans Kq10 all0
  have zn10 : n0 ≤ T10.heap.size := Nat.le_trans zn9 Kq10.1
  have V_nb_10 := V_nb_10_p
  refine og (T10.setTop (mkF m 276 #[.val (.ref a0), .val (.ref ch), .val (.ref a2), .val (.int 0), .val (.int 4), .val (.int 2), .val (.ref nb_5), .val (.int 0), .val (.ref nb_7), .unset, .unset] [(.ref nb_10)])) ?_ st10
  have V_nb_10 : Arv Z T10.heap nb_10 kn_10 .byte (4 : Int32) [(.int (own_lo ca)), (.int (own_hi ca)), (.int (own_lo tv)), (.int (own_hi tv))] (.int 0) := V_nb_10
  refine og (T10.setTop (mkF m 281 #[.val (.ref a0), .val (.ref ch), .val (.ref a2), .val (.int 0), .val (.int 4), .val (.int 2), .val (.ref nb_5), .val (.int 0), .val (.ref nb_10), .unset, .unset] [(.ref nb_10), (.ref a0)])) ?_ (fun tX kX => XS.astore X10.here hx rfl (hb hby d4_276) rfl rfl (l' := #[.val (.ref a0), .val (.ref ch), .val (.ref a2), .val (.int 0), .val (.int 4), .val (.int 2), .val (.ref nb_5), .val (.int 0), .val (.ref nb_10), .unset, .unset]) rfl (XS.aloadN X10.here hx rfl (hb hby d4_278) rfl rfl (XS.aload X10.here hx rfl (hb hby d4_279) rfl rfl kX)))
  obtain ⟨T11, h11, X11, e11, W11, st11⟩ := putF X10 hx hZ hown (host := "") (Or.inl (oW hw 48 rfl)) Via.refl rfl F_value_a0 E_a0 (Or.inr ⟨(oW hw 49 rfl), rfl, hnm⟩) (oW hw 8 rfl) (ty := (.array .byte)) (by decide) rfl rfl (g := (mkF m 281 #[.val (.ref a0), .val (.ref ch), .val (.ref a2), .val (.int 0), .val (.int 4), .val (.int 2), .val (.ref nb_5), .val (.int 0), .val (.ref nb_10), .unset, .unset] [(.ref nb_10), (.ref a0)])) rfl rfl (hb hby d4_281)
  have Eold11 := E_a0
  have E_a0 := E_a0.wr W11
  have F_value_a0 := F_value_a0.same W11
  have F_coder_a0 := F_coder_a0.other W11 (Or.inr (slot_ne (Or.inr (oW hw 51 rfl)) (Or.inr (oW hw 49 rfl)) (by decide) (t := .byte) (t' := (.array .byte)) (by decide) (by decide)))
  have S_INSTANCE := S_INSTANCE.wr W11
  have S_COMPACT_STRINGS := S_COMPACT_STRINGS.wr W11
  have S_SIOOBE_FORMATTER := S_SIOOBE_FORMATTER.wr W11
  have S__assertionsDisabled := S__assertionsDisabled.wr W11
  have S_HI_BYTE_SHIFT := S_HI_BYTE_SHIFT.wr W11
  have S_LO_BYTE_SHIFT := S_LO_BYTE_SHIFT.wr W11
  have E_a2 := E_a2.wr W11
  have V_a2 := V_a2.other W11 (Ne.symm (Exa.neArv Eold11 V_a2 (oW hw 8 rfl)))
  have V_nb_5 := V_nb_5.other W11 (Ne.symm ne_a0_nb_5)
  have V_nb_7 := V_nb_7.other W11 (Ne.symm ne_a0_nb_7)
  have V_nb_10 := V_nb_10.other W11 (Ne.symm ne_a0_nb_10)
  have K11 := K10.wr W11 (Or.inl (List.mem_of_getElem? (i := 0) rfl))
  have zn11 : n0 ≤ h11.size := Nat.le_trans zn10 (Keep.of_wr W11).1
  have N11 := Fr.snoc X11 N10 ga
  refine og (T11.setTop (mkF m 284 #[.val (.ref a0), .val (.ref ch), .val (.ref a2), .val (.int 0), .val (.int 4), .val (.int 2), .val (.ref nb_5), .val (.int 0), .val (.ref nb_10), .unset, .unset] [])) ?_ st11
  refine og (T11.setTop (mkF m 286 #[.val (.ref a0), .val (.ref ch), .val (.ref a2), .val (.int 0), .val (.int 4), .val (.int 2), .val (.ref nb_5), .val (.int 0), .val (.ref nb_10), .unset, .unset] [(.int 1), (.ref a0)])) ?_ (fun tX kX => XS.aloadN X11.here hx rfl (hb hby d4_284) rfl rfl (XS.iconst X11.here hx rfl (hb hby d4_285) kX))
  obtain ⟨T12, h12, X12, e12, W12, st12⟩ := putF X11 hx hZ hown (host := "") (Or.inl (oW hw 50 rfl)) Via.refl e11 F_coder_a0 E_a0 (Or.inr ⟨(oW hw 51 rfl), rfl, hnm⟩) (oW hw 8 rfl) (ty := .byte) (by decide) rfl rfl (g := (mkF m 286 #[.val (.ref a0), .val (.ref ch), .val (.ref a2), .val (.int 0), .val (.int 4), .val (.int 2), .val (.ref nb_5), .val (.int 0), .val (.ref nb_10), .unset, .unset] [(.int 1), (.ref a0)])) rfl rfl (hb hby d4_286)
  have Eold12 := E_a0
  have E_a0 := E_a0.wr W12
  have F_value_a0 := F_value_a0.other W12 (Or.inr (slot_ne (Or.inr (oW hw 49 rfl)) (Or.inr (oW hw 51 rfl)) (by decide) (t := (.array .byte)) (t' := .byte) (by decide) (by decide)))
  have F_coder_a0 := F_coder_a0.same W12
  have S_INSTANCE := S_INSTANCE.wr W12
  have S_COMPACT_STRINGS := S_COMPACT_STRINGS.wr W12
  have S_SIOOBE_FORMATTER := S_SIOOBE_FORMATTER.wr W12
  have S__assertionsDisabled := S__assertionsDisabled.wr W12
  have S_HI_BYTE_SHIFT := S_HI_BYTE_SHIFT.wr W12
  have S_LO_BYTE_SHIFT := S_LO_BYTE_SHIFT.wr W12
  have E_a2 := E_a2.wr W12
  have V_a2 := V_a2.other W12 (Ne.symm (Exa.neArv Eold12 V_a2 (oW hw 8 rfl)))
  have V_nb_5 := V_nb_5.other W12 (Ne.symm ne_a0_nb_5)
  have V_nb_7 := V_nb_7.other W12 (Ne.symm ne_a0_nb_7)
  have V_nb_10 := V_nb_10.other W12 (Ne.symm ne_a0_nb_10)
  have K12 := K11.wr W12 (Or.inl (List.mem_of_getElem? (i := 0) rfl))
  have zn12 : n0 ≤ h12.size := Nat.le_trans zn11 (Keep.of_wr W12).1
  have N12 := Fr.snoc X12 N11 ga
  refine og (T12.setTop (mkF m 289 #[.val (.ref a0), .val (.ref ch), .val (.ref a2), .val (.int 0), .val (.int 4), .val (.int 2), .val (.ref nb_5), .val (.int 0), .val (.ref nb_10), .unset, .unset] [])) ?_ st12
  refine og (T12.setTop (mkF m 879 #[.val (.ref a0), .val (.ref ch), .val (.ref a2), .val (.int 0), .val (.int 4), .val (.int 2), .val (.ref nb_5), .val (.int 0), .val (.ref nb_10), .unset, .unset] [])) ?_ (fun tX kX => XS.goto X12.here hx rfl (pc0 := 289) (pc' := 879) rfl (hb hby d4_289) (by decide) (by decide) kX)
  refine OGo.ret X12 (v := none) (fun _ => rfl) (BodyLoose.notSynchronized Bd) (fun fs hr => X12.returnOut hx Bd.returns (hb hby d4_879) hr) (Q := Q4G Z a0 (1 : Int32) (4 : Int32) [(.int (own_lo ca)), (.int (own_hi ca)), (.int (own_lo tv)), (.int (own_hi tv))] h0 n0) ?_ (by decide) (by decide)
  show Q4G Z a0 (1 : Int32) (4 : Int32) [(.int (own_lo ca)), (.int (own_hi ca)), (.int (own_lo tv)), (.int (own_hi tv))] h0 n0 _ T12.heap _
  rw [e12]
  exact ⟨nb_10, kn_10, rfl, N12, K12, sz_nb_10, E_a0, F_value_a0, F_coder_a0, V_nb_10⟩
def P4D (Z : State) (a0 : Addr) (ch : Addr) (a2 : Addr) (u1 : Value) (u2 : Value) (kb : ClassId) (xa : Int32) (xb : Int32) (xc : Int32) (xd : Int32) (tv : Int32) (cq : Int32) (ca : Int32) (cb : Int32) (cs : Int32) (fv : Value) (h0 : Heap) (n0 : Nat) (s : State) (o : Outcome) (U' : State) : Prop := ∃ v L, o = .returned v ∧ Q4G Z a0 (1 : Int32) (6 : Int32) [(.int (own_lo ca)), (.int (own_hi ca)), (.int (own_lo cb)), (.int (own_hi cb)), (.int (own_lo tv)), (.int (own_hi tv))] h0 n0 v U'.heap L ∧ FrameEnd s o U' L oR14.cells oR14.slots
set_option maxRecDepth 65536 in
set_option maxHeartbeats 40000000 in
theorem rm4D (l : Launch) (Z : State) (aV : Array Value) (hw : ∀ d ∈ tables_1, d.before aV Z = true) (ws : List Jvm.Cond) (a0 : Addr) (ch : Addr) (a2 : Addr) (u1 : Value) (u2 : Value) (kb : ClassId) (xa : Int32) (xb : Int32) (xc : Int32) (xd : Int32) (tv : Int32) (cq : Int32) (ca : Int32) (cb : Int32) (cs : Int32) (fv : Value) (h0 : Heap) (n0 : Nat) (Z0 : n0 ≤ h0.size) (E_a0 : Exa Z h0 a0 "java/lang/String") (F_value_a0 : Fld Z h0 a0 "java/lang/String" "value" "[B" u1) (F_coder_a0 : Fld Z h0 a0 "java/lang/String" "coder" "B" u2) (S_INSTANCE : Sta Z h0 "sun/nio/cs/UTF_8" "INSTANCE" "Lsun/nio/cs/UTF_8;" (.ref ch)) (S_COMPACT_STRINGS : Sta Z h0 "java/lang/String" "COMPACT_STRINGS" "Z" (.int cs)) (S_SIOOBE_FORMATTER : Sta Z h0 "jdk/internal/util/Preconditions" "SIOOBE_FORMATTER" "Ljava/util/function/BiFunction;" fv) (S__assertionsDisabled : Sta Z h0 "java/lang/StringUTF16" "$assertionsDisabled" "Z" (.int 1)) (S_HI_BYTE_SHIFT : Sta Z h0 "java/lang/StringUTF16" "HI_BYTE_SHIFT" "I" (.int 0)) (S_LO_BYTE_SHIFT : Sta Z h0 "java/lang/StringUTF16" "LO_BYTE_SHIFT" "I" (.int 8)) (E_a2 : Exa Z h0 a2 "[B") (V_a2 : Arv Z h0 a2 kb .byte (5 : Int32) [(.int xa), (.int xb), (.int xc), (.int xd), (.int tv)] (.int 0)) (ga : n0 ≤ a0) (hcs : ¬ cs = 0) (hfv : fv.isRef = true) (hH : own_H3 xa xb xc xd cq ca cb) (hT : own_HT tv) :
    MetFree l oM39 (head1 (Jvm.Cond.codeWith oM39 jdk_42_method_11_code 11 none [(800, 813, 816, 202)] :: ws) oR14) (fun a U => a = #[(.ref a0), (.ref ch), (.ref a2), (.int 0), (.int 5)] ∧ Z.Warmed39 U.vm ∧ U.heap = h0) (fun _ _ _ _ _ => True) (fun _ U o U' => ∃ v L, o = .returned v ∧ Q4G Z a0 (1 : Int32) (6 : Int32) [(.int (own_lo ca)), (.int (own_hi ca)), (.int (own_lo cb)), (.int (own_hi cb)), (.int (own_lo tv)), (.int (own_hi tv))] h0 n0 v U'.heap L ∧ FrameEnd U o U' L oR14.cells oR14.slots) := by
  refine MetFree.of_bodySF (plainFor_of_name pn_java_lang_String) hisWith ?_
  intro p e s m args below meth c s₁ Bd hml0 hP hK
  obtain ⟨rfl, hZ, hh⟩ := hP
  have hx := Bd.exec
  have hby := Bd.bytes
  have hml : c.maxLocals = 11 := hml0
  have hown : s.vm.findClass "java/lang/String" = some m.cls := findClass_of_methodNamed Bd.named
  have hnm := (name_of_methodNamed Bd.named Bd.method).1
  have X0 : Stand p l e oR14 s m #[(.ref a0), (.ref ch), (.ref a2), (.int 0), (.int 5)] below meth c s₁ [] 0 0 := Stand.of_body Bd
  have e0 : s₁.heap = h0 := by rw [← hh, Bd.state]; rfl
  have efx : entryFrame m #[(.ref a0), (.ref ch), (.ref a2), (.int 0), (.int 5)] 11 = mkF m 0 #[.val (.ref a0), .val (.ref ch), .val (.ref a2), .val (.int 0), .val (.int 5), .unset, .unset, .unset, .unset, .unset, .unset] [] := by first | (simp [entryFrame, mkF, argsToLocals, Value.category]; done) | rfl
  have N0 := Fr.nil n0
  have K0 : Keep h0 h0 [a0] := Keep.refl h0 _
  refine OGo.start (g' := mkF m 0 #[.val (.ref a0), .val (.ref ch), .val (.ref a2), .val (.int 0), .val (.int 5), .unset, .unset, .unset, .unset, .unset, .unset] []) (efx) ?_
  show OGo p.tables e below (P4D Z a0 ch a2 u1 u2 kb xa xb xc xd tv cq ca cb cs fv h0 n0 s) (s₁.setTop (mkF m 0 #[.val (.ref a0), .val (.ref ch), .val (.ref a2), .val (.int 0), .val (.int 5), .unset, .unset, .unset, .unset, .unset, .unset] []))
  refine og (s₁.setTop (mkF m 1 #[.val (.ref a0), .val (.ref ch), .val (.ref a2), .val (.int 0), .val (.int 5), .unset, .unset, .unset, .unset, .unset, .unset] [(.ref a0)])) ?_ (fun tX kX => XS.aloadN X0.here hx rfl (hb hby d4_0) rfl rfl kX)
  obtain ⟨T1, X1, e1, st1⟩ := initO X0 hx hZ hown (oW hw 25 rfl) (oW hw 26 rfl) (oW hw 27 rfl) e0 (g := (mkF m 1 #[.val (.ref a0), .val (.ref ch), .val (.ref a2), .val (.int 0), .val (.int 5), .unset, .unset, .unset, .unset, .unset, .unset] [(.ref a0)])) rfl (by rw [hml]; rfl) rfl (hb hby d4_1) (by decide) (W := 0) (by show 2 * 0 + _ ≤ _; exact Nat.le_of_eq rfl) (by decide)
  refine og (T1.setTop (mkF m 4 #[.val (.ref a0), .val (.ref ch), .val (.ref a2), .val (.int 0), .val (.int 5), .unset, .unset, .unset, .unset, .unset, .unset] [])) ?_ st1
  refine og (T1.setTop (mkF m 31 #[.val (.ref a0), .val (.ref ch), .val (.ref a2), .val (.int 0), .val (.int 5), .unset, .unset, .unset, .unset, .unset, .unset] [(.ref ch)])) ?_ (fun tX kX => XS.iload X1.here hx rfl (hb hby d4_4) rfl (XS.ifYes X1.here hx rfl (pc0 := 6) (pc' := 30) rfl (hb hby d4_6) rfl ((if0 _ _).trans (feq (by decide)).2) (by decide) (by decide) (XS.aloadN X1.here hx rfl (hb hby d4_30) rfl rfl kX)))
  obtain ⟨T2, X2, e2, st2⟩ := getS2 X1 hx hZ hown (host := "") (Or.inl (oW hw 28 rfl)) Via.refl e1 S_INSTANCE (g := (mkF m 31 #[.val (.ref a0), .val (.ref ch), .val (.ref a2), .val (.int 0), .val (.int 5), .unset, .unset, .unset, .unset, .unset, .unset] [(.ref ch)])) rfl (hb hby d4_31)
  refine og (T2.setTop (mkF m 34 #[.val (.ref a0), .val (.ref ch), .val (.ref a2), .val (.int 0), .val (.int 5), .unset, .unset, .unset, .unset, .unset, .unset] [(.ref ch), (.ref ch)])) ?_ st2
  refine og (T2.setTop (mkF m 37 #[.val (.ref a0), .val (.ref ch), .val (.ref a2), .val (.int 0), .val (.int 5), .unset, .unset, .unset, .unset, .unset, .unset] [])) ?_ (fun tX kX => Jvm.RoadKit.acmp (g := (mkF m 34 #[.val (.ref a0), .val (.ref ch), .val (.ref a2), .val (.int 0), .val (.int 5), .unset, .unset, .unset, .unset, .unset, .unset] [(.ref ch), (.ref ch)])) X2 hx rfl rfl rfl (pc0 := 34) (pc' := 37) (same := true) rfl (hb hby d4_34) rfl (decide_eq_true rfl) (by decide) (by decide) kX)
  obtain ⟨T3, X3, e3, st3⟩ := getS2 X2 hx hZ hown (host := "") (Or.inl (oW hw 30 rfl)) Via.refl e2 S_COMPACT_STRINGS (g := (mkF m 37 #[.val (.ref a0), .val (.ref ch), .val (.ref a2), .val (.int 0), .val (.int 5), .unset, .unset, .unset, .unset, .unset, .unset] [])) rfl (hb hby d4_37)
  refine og (T3.setTop (mkF m 40 #[.val (.ref a0), .val (.ref ch), .val (.ref a2), .val (.int 0), .val (.int 5), .unset, .unset, .unset, .unset, .unset, .unset] [(.int cs)])) ?_ st3
  refine og (T3.setTop (mkF m 47 #[.val (.ref a0), .val (.ref ch), .val (.ref a2), .val (.int 0), .val (.int 5), .unset, .unset, .unset, .unset, .unset, .unset] [(.int 5), (.int 0), (.ref a2)])) ?_ (fun tX kX => XS.ifNo X3.here hx rfl (hb hby d4_40) rfl ((if0 _ _).trans (feq hcs).1) (XS.aloadN X3.here hx rfl (hb hby d4_43) rfl rfl (XS.iloadN X3.here hx rfl (hb hby d4_44) rfl (XS.iload X3.here hx rfl (hb hby d4_45) rfl kX))))
  obtain ⟨_, _, ⟨T4, L4, k4, n4⟩, -, X4, ⟨Lc4, hQ4, l4, y4, z4⟩, st4⟩ := Jvm.LawKit.callS X3 hx (y := oM27) hown (mvT hZ (oW hw 31 rfl)) (mvT hZ (oW hw 32 rfl)) (mvT hZ (oW hw 33 rfl)) (mvT hZ (oW hw 34 rfl)) (by decide) (backOf (W := 0) (rm6N l Z aV hw [] a2 (5 : Int32) kb [(.int xa), (.int xb), (.int xc), (.int xd), (.int tv)] xa h0 n0 Z0 V_a2 (by decide) (by decide) rfl hH.1) hZ (oW hw 34 rfl) (oW hw 33 rfl) (by decide) (by decide)) (g := (mkF m 47 #[.val (.ref a0), .val (.ref ch), .val (.ref a2), .val (.int 0), .val (.int 5), .unset, .unset, .unset, .unset, .unset, .unset] [(.int 5), (.int 0), (.ref a2)])) rfl (by rw [hml]; rfl) (argsL := [(.ref a2), (.int 0), (.int 5)]) (rest := []) (lenOf pd___BII_I rfl) rfl (by show 2 * 0 + _ ≤ _; exact Nat.le_of_eq rfl) (hb hby d4_47) (fun _ _ => ⟨rfl, e3, (by decide : 0 + 0 ≤ _), (by decide : 0 + 0 ≤ _)⟩)
  dsimp only [Pt.U, Pt.locs, Pt.cells, Pt.slots] at X4 l4 y4 z4 st4 hQ4
  subst l4 y4 z4
  obtain ⟨rfl, N4q, e4⟩ := hQ4
  have N4 := Fr.app N0 N4q
  refine og (T4.setTop (mkF m 50 #[.val (.ref a0), .val (.ref ch), .val (.ref a2), .val (.int 0), .val (.int 5), .unset, .unset, .unset, .unset, .unset, .unset] [(.int 0)])) ?_ st4
  refine og (T4.setTop (mkF m 80 #[.val (.ref a0), .val (.ref ch), .val (.ref a2), .val (.int 0), .val (.int 5), .val (.int 0), .unset, .unset, .unset, .unset, .unset] [(.int 0), (.ref a2)])) ?_ (fun tX kX => XS.istore X4.here hx rfl (hb hby d4_50) rfl (l' := #[.val (.ref a0), .val (.ref ch), .val (.ref a2), .val (.int 0), .val (.int 5), .val (.int 0), .unset, .unset, .unset, .unset, .unset]) rfl (XS.iload X4.here hx rfl (hb hby d4_52) rfl (XS.iload X4.here hx rfl (hb hby d4_54) rfl (XS.icmpYes X4.here hx rfl (pc0 := 56) (pc' := 78) rfl (hb hby d4_56) rfl (feq (by decide)).2 (by decide) (by decide) (XS.aloadN X4.here hx rfl (hb hby d4_78) rfl rfl (XS.iloadN X4.here hx rfl (hb hby d4_79) rfl kX))))))
  refine og (T4.setTop (mkF m 84 #[.val (.ref a0), .val (.ref ch), .val (.ref a2), .val (.int 0), .val (.int 5), .val (.int 0), .unset, .unset, .unset, .unset, .unset] [(.int 5), (.int 0), (.ref a2)])) ?_ (fun tX kX => XS.iloadN X4.here hx rfl (hb hby d4_80) rfl (XS.iload X4.here hx rfl (hb hby d4_81) rfl (XS.iadd X4.here hx rfl (hb hby d4_83) rfl kX)))
  obtain ⟨_, _, ⟨T5, L5, k5, n5⟩, -, X5, ⟨Lc5, hQ5, l5, y5, z5⟩, st5⟩ := Jvm.LawKit.callS X4 hx (y := oM28) hown (mvT hZ (oW hw 35 rfl)) (mvT hZ (oW hw 36 rfl)) (mvT hZ (oW hw 37 rfl)) (mvT hZ (oW hw 38 rfl)) (by decide) (backOf (W := 0) (rm7 l Z aV hw [] a2 (5 : Int32) kb [(.int xa), (.int xb), (.int xc), (.int xd), (.int tv)] h0 n0 Z0 E_a2 V_a2 (by decide)) hZ (oW hw 38 rfl) (oW hw 37 rfl) (by decide) (by decide)) (g := (mkF m 84 #[.val (.ref a0), .val (.ref ch), .val (.ref a2), .val (.int 0), .val (.int 5), .val (.int 0), .unset, .unset, .unset, .unset, .unset] [(.int 5), (.int 0), (.ref a2)])) rfl (by rw [hml]; rfl) (argsL := [(.ref a2), (.int 0), (.int 5)]) (rest := []) (lenOf pd___BII__B rfl) rfl (by show 2 * 0 + _ ≤ _; exact Nat.le_of_eq rfl) (hb hby d4_84) (fun _ _ => ⟨rfl, e4, (by decide : 0 + 1 ≤ _), (by decide : 0 + 5 ≤ _)⟩)
  dsimp only [Pt.U, Pt.locs, Pt.cells, Pt.slots] at X5 l5 y5 z5 st5 hQ5
  subst l5 y5 z5
  obtain ⟨nb_5, rfl, N5q, Kq5, sz5_nb, V_nb_5_p⟩ := hQ5
  have N5 := Fr.app N4 N5q
  have ne_a0_nb_5 : a0 ≠ nb_5 := Nat.ne_of_lt (Nat.lt_of_lt_of_le E_a0.lt sz5_nb)
  have ne_a2_nb_5 : a2 ≠ nb_5 := Nat.ne_of_lt (Nat.lt_of_lt_of_le E_a2.lt sz5_nb)
  have S_INSTANCE := Sta.keep0 S_INSTANCE Kq5
  have S_COMPACT_STRINGS := Sta.keep0 S_COMPACT_STRINGS Kq5
  have S_SIOOBE_FORMATTER := Sta.keep0 S_SIOOBE_FORMATTER Kq5
  have S__assertionsDisabled := Sta.keep0 S__assertionsDisabled Kq5
  have S_HI_BYTE_SHIFT := Sta.keep0 S_HI_BYTE_SHIFT Kq5
  have S_LO_BYTE_SHIFT := Sta.keep0 S_LO_BYTE_SHIFT Kq5
  have E_a0 := E_a0.keep Kq5
  have F_value_a0 := F_value_a0.keep Kq5 nin0
  have F_coder_a0 := F_coder_a0.keep Kq5 nin0
  have E_a2 := E_a2.keep Kq5
  have V_a2 := V_a2.keep Kq5 nin0
  have g_nb_5 : n0 ≤ nb_5 := Nat.le_trans Z0 sz5_nb
  have sz_nb_5 : h0.size ≤ nb_5 := Nat.le_trans K0.1 sz5_nb
  have K5 := K0.trans Kq5 all0
  have zn5 : n0 ≤ T5.heap.size := Nat.le_trans Z0 Kq5.1
  have V_nb_5 := V_nb_5_p
  refine og (T5.setTop (mkF m 87 #[.val (.ref a0), .val (.ref ch), .val (.ref a2), .val (.int 0), .val (.int 5), .val (.int 0), .unset, .unset, .unset, .unset, .unset] [(.ref nb_5)])) ?_ st5
  refine og (T5.setTop (mkF m 100 #[.val (.ref a0), .val (.ref ch), .val (.ref a2), .val (.int 0), .val (.int 5), .val (.int 0), .val (.ref nb_5), .val (.int 0), .unset, .unset, .unset] [])) ?_ (fun tX kX => XS.astore X5.here hx rfl (hb hby d4_87) rfl rfl (l' := #[.val (.ref a0), .val (.ref ch), .val (.ref a2), .val (.int 0), .val (.int 5), .val (.int 0), .val (.ref nb_5), .unset, .unset, .unset, .unset]) rfl (XS.iload X5.here hx rfl (hb hby d4_89) rfl (XS.istore X5.here hx rfl (hb hby d4_91) rfl (l' := #[.val (.ref a0), .val (.ref ch), .val (.ref a2), .val (.int 0), .val (.int 5), .val (.int 0), .val (.ref nb_5), .val (.int 0), .unset, .unset, .unset]) rfl (XS.iload X5.here hx rfl (hb hby d4_93) rfl (XS.iload X5.here hx rfl (hb hby d4_95) rfl (XS.icmpNo X5.here hx rfl (hb hby d4_97) rfl (tlt (by decide)).2.1 kX))))))
  refine og (T5.setTop (mkF m 107 #[.val (.ref a0), .val (.ref ch), .val (.ref a2), .val (.int 0), .val (.int 5), .val (.int 0), .val (.ref nb_5), .val (.int 1), .unset, .unset, .unset] [(.int 0), (.ref nb_5)])) ?_ (fun tX kX => XS.aload X5.here hx rfl (hb hby d4_100) rfl rfl (XS.iload X5.here hx rfl (hb hby d4_102) rfl (XS.iinc X5.here hx rfl (hb hby d4_104) rfl (l' := #[.val (.ref a0), .val (.ref ch), .val (.ref a2), .val (.int 0), .val (.int 5), .val (.int 0), .val (.ref nb_5), .val (.int 1), .unset, .unset, .unset]) rfl kX)))
  obtain ⟨cl6, Ar6, qa6, S6, N6', H6, G6⟩ := id V_nb_5
  have hin6 := inb_of (j := (0 : Int32)) S6 ⟨by decide, by decide⟩
  have hat6 := H6.at (v := (.int xa)) hin6 rfl
  refine og (T5.setTop (mkF m 134 #[.val (.ref a0), .val (.ref ch), .val (.ref a2), .val (.int 0), .val (.int 5), .val (.int 0), .val (.ref nb_5), .val (.int 1), .val (.int xa), .unset, .unset] [(.int 254), (.int xa)])) ?_ (fun tX kX => X5.baloadBytes hx (j := (0 : Int32)) (v := (.int xa)) Ar6.1 (State.isArrayOf_alike hZ.alike Ar6.2.1) Ar6.2.2 hin6 hat6 (g := (mkF m 107 #[.val (.ref a0), .val (.ref ch), .val (.ref a2), .val (.int 0), .val (.int 5), .val (.int 0), .val (.ref nb_5), .val (.int 1), .unset, .unset, .unset] [(.int 0), (.ref nb_5)])) rfl rfl (hb hby d4_107) _ (XS.istore X5.here hx rfl (hb hby d4_108) rfl (l' := #[.val (.ref a0), .val (.ref ch), .val (.ref a2), .val (.int 0), .val (.int 5), .val (.int 0), .val (.ref nb_5), .val (.int 1), .val (.int xa), .unset, .unset]) rfl (XS.iload X5.here hx rfl (hb hby d4_110) rfl (XS.ifYes X5.here hx rfl (pc0 := 112) (pc' := 129) rfl (hb hby d4_112) rfl ((if0 _ _).trans (tlt hH.1).1) (by decide) (by decide) (XS.iload X5.here hx rfl (hb hby d4_129) rfl (XS.sipush X5.here hx rfl (hb hby d4_131) kX))))))
  refine og (T5.setTop (mkF m 192 #[.val (.ref a0), .val (.ref ch), .val (.ref a2), .val (.int 0), .val (.int 5), .val (.int 0), .val (.ref nb_5), .val (.int 0), .val (.int xa), .unset, .unset] [(.int 0)])) ?_ (fun tX kX => XS.iand X5.here hx rfl (hb hby d4_134) rfl (XS.sipush X5.here hx rfl (hb hby d4_135) (XS.icmpYes X5.here hx rfl (pc0 := 138) (pc' := 184) rfl (hb hby d4_138) rfl (feq hH.2.1).2 (by decide) (by decide) (XS.iinc X5.here hx rfl (hb hby d4_184) rfl (l' := #[.val (.ref a0), .val (.ref ch), .val (.ref a2), .val (.int 0), .val (.int 5), .val (.int 0), .val (.ref nb_5), .val (.int 0), .val (.int xa), .unset, .unset]) rfl (XS.goto X5.here hx rfl (pc0 := 187) (pc' := 190) rfl (hb hby d4_187) (by decide) (by decide) (XS.iload X5.here hx rfl (hb hby d4_190) rfl kX))))))
  refine og (T5.setTop (mkF m 228 #[.val (.ref a0), .val (.ref ch), .val (.ref a2), .val (.int 0), .val (.int 5), .val (.int 0), .val (.ref nb_5), .val (.int 0), .val (.int xa), .unset, .unset] [(.int 5)])) ?_ (fun tX kX => XS.iload X5.here hx rfl (hb hby d4_192) rfl (XS.icmpYes X5.here hx rfl (pc0 := 194) (pc' := 226) rfl (hb hby d4_194) rfl (feq (by decide)).2 (by decide) (by decide) (XS.iload X5.here hx rfl (hb hby d4_226) rfl kX)))
  obtain ⟨_, _, ⟨T7, L7, k7, n7⟩, -, X7, ⟨Lc7, hQ7, l7, y7, z7⟩, st7⟩ := Jvm.LawKit.callS X5 hx (y := oM30) hown (mvT hZ (oW hw 104 rfl)) (mvT hZ (oW hw 105 rfl)) (mvT hZ (oW hw 106 rfl)) (mvT hZ (oW hw 107 rfl)) (by decide) (backOf (W := 0) (rm19 l Z aV hw [] (5 : Int32) T5.heap n0 zn5 (by decide) (by decide) (by decide) (by decide)) hZ (oW hw 107 rfl) (oW hw 106 rfl) (by decide) (by decide)) (g := (mkF m 228 #[.val (.ref a0), .val (.ref ch), .val (.ref a2), .val (.int 0), .val (.int 5), .val (.int 0), .val (.ref nb_5), .val (.int 0), .val (.int xa), .unset, .unset] [(.int 5)])) rfl (by rw [hml]; rfl) (argsL := [(.int 5)]) (rest := []) (lenOf pd__I__B rfl) rfl (by show 2 * 0 + _ ≤ _; exact Nat.le_of_eq rfl) (hb hby d4_228) (fun _ _ => ⟨rfl, rfl, (by decide : 1 + 1 ≤ _), (by decide : 5 + 10 ≤ _)⟩)
  dsimp only [Pt.U, Pt.locs, Pt.cells, Pt.slots] at X7 l7 y7 z7 st7 hQ7
  subst l7 y7 z7
  obtain ⟨nb_7, kn_7, rfl, N7q, Kq7, sz7_nb, V_nb_7_p⟩ := hQ7
  have N7 := Fr.app N5 N7q
  have ne_a0_nb_7 : a0 ≠ nb_7 := Nat.ne_of_lt (Nat.lt_of_lt_of_le E_a0.lt sz7_nb)
  have ne_a2_nb_7 : a2 ≠ nb_7 := Nat.ne_of_lt (Nat.lt_of_lt_of_le E_a2.lt sz7_nb)
  have ne_nb_5_nb_7 : nb_5 ≠ nb_7 := Nat.ne_of_lt (Nat.lt_of_lt_of_le V_nb_5.lt sz7_nb)
  have S_INSTANCE := Sta.keep0 S_INSTANCE Kq7
  have S_COMPACT_STRINGS := Sta.keep0 S_COMPACT_STRINGS Kq7
  have S_SIOOBE_FORMATTER := Sta.keep0 S_SIOOBE_FORMATTER Kq7
  have S__assertionsDisabled := Sta.keep0 S__assertionsDisabled Kq7
  have S_HI_BYTE_SHIFT := Sta.keep0 S_HI_BYTE_SHIFT Kq7
  have S_LO_BYTE_SHIFT := Sta.keep0 S_LO_BYTE_SHIFT Kq7
  have E_a0 := E_a0.keep Kq7
  have F_value_a0 := F_value_a0.keep Kq7 nin0
  have F_coder_a0 := F_coder_a0.keep Kq7 nin0
  have E_a2 := E_a2.keep Kq7
  have V_a2 := V_a2.keep Kq7 nin0
  have V_nb_5 := V_nb_5.keep Kq7 nin0
  have g_nb_7 : n0 ≤ nb_7 := Nat.le_trans zn5 sz7_nb
  have sz_nb_7 : h0.size ≤ nb_7 := Nat.le_trans K5.1 sz7_nb
  have K7 := K5.trans Kq7 all0
  have zn7 : n0 ≤ T7.heap.size := Nat.le_trans zn5 Kq7.1
  have V_nb_7 := V_nb_7_p
  refine og (T7.setTop (mkF m 231 #[.val (.ref a0), .val (.ref ch), .val (.ref a2), .val (.int 0), .val (.int 5), .val (.int 0), .val (.ref nb_5), .val (.int 0), .val (.int xa), .unset, .unset] [(.ref nb_7)])) ?_ st7
  have V_nb_7 : Arv Z T7.heap nb_7 kn_7 .byte (10 : Int32) [(.int 0), (.int 0), (.int 0), (.int 0), (.int 0), (.int 0), (.int 0), (.int 0), (.int 0), (.int 0)] (.int 0) := by have q := own_zz V_nb_7 (z' := (10 : Int32)) (by decide) 10; exact q
  refine og (T7.setTop (mkF m 241 #[.val (.ref a0), .val (.ref ch), .val (.ref a2), .val (.int 0), .val (.int 5), .val (.int 0), .val (.ref nb_5), .val (.int 0), .val (.ref nb_7), .unset, .unset] [(.int 0), (.int 0), (.ref nb_7), (.int 0), (.ref nb_5)])) ?_ (fun tX kX => XS.astore X7.here hx rfl (hb hby d4_231) rfl rfl (l' := #[.val (.ref a0), .val (.ref ch), .val (.ref a2), .val (.int 0), .val (.int 5), .val (.int 0), .val (.ref nb_5), .val (.int 0), .val (.ref nb_7), .unset, .unset]) rfl (XS.aload X7.here hx rfl (hb hby d4_233) rfl rfl (XS.iconst X7.here hx rfl (hb hby d4_235) (XS.aload X7.here hx rfl (hb hby d4_236) rfl rfl (XS.iconst X7.here hx rfl (hb hby d4_238) (XS.iload X7.here hx rfl (hb hby d4_239) rfl kX))))))
  obtain ⟨_, _, ⟨T8, L8, k8, n8⟩, -, X8, ⟨Lc8, hQ8, l8, y8, z8⟩, st8⟩ := Jvm.LawKit.callS X7 hx (y := oM36) hown (mvT hZ (oW hw 112 rfl)) (mvT hZ (oW hw 113 rfl)) (mvT hZ (oW hw 78 rfl)) (mvT hZ (oW hw 114 rfl)) (by decide) (backOf (W := 0) (rm21 l Z aV hw [] nb_5 nb_7 kn_7 (10 : Int32) [(.int 0), (.int 0), (.int 0), (.int 0), (.int 0), (.int 0), (.int 0), (.int 0), (.int 0), (.int 0)] fv T7.heap n0 zn7 V_nb_7 S_SIOOBE_FORMATTER hfv (by decide) (by decide)) hZ (oW hw 114 rfl) (oW hw 78 rfl) (by decide) (by decide)) (g := (mkF m 241 #[.val (.ref a0), .val (.ref ch), .val (.ref a2), .val (.int 0), .val (.int 5), .val (.int 0), .val (.ref nb_5), .val (.int 0), .val (.ref nb_7), .unset, .unset] [(.int 0), (.int 0), (.ref nb_7), (.int 0), (.ref nb_5)])) rfl (by rw [hml]; rfl) (argsL := [(.ref nb_5), (.int 0), (.ref nb_7), (.int 0), (.int 0)]) (rest := []) (lenOf pd___BI_BII_V rfl) rfl (by show 2 * 0 + _ ≤ _; exact Nat.le_of_eq rfl) (hb hby d4_241) (fun _ _ => ⟨rfl, rfl, (by decide : 2 + 0 ≤ _), (by decide : 15 + 0 ≤ _)⟩)
  dsimp only [Pt.U, Pt.locs, Pt.cells, Pt.slots] at X8 l8 y8 z8 st8 hQ8
  subst l8 y8 z8
  obtain ⟨rfl, N8q, e8⟩ := hQ8
  have N8 := Fr.app N7 N8q
  refine og (T8.setTop (mkF m 244 #[.val (.ref a0), .val (.ref ch), .val (.ref a2), .val (.int 0), .val (.int 5), .val (.int 0), .val (.ref nb_5), .val (.int 0), .val (.ref nb_7), .unset, .unset] [])) ?_ st8
  refine og (T8.setTop (mkF m 255 #[.val (.ref a0), .val (.ref ch), .val (.ref a2), .val (.int 0), .val (.int 5), .val (.int 0), .val (.ref nb_5), .val (.int 0), .val (.ref nb_7), .unset, .unset] [(.int 1), (.int 0), (.ref nb_7), (.int 5), (.int 0), (.ref nb_5)])) ?_ (fun tX kX => XS.aload X8.here hx rfl (hb hby d4_244) rfl rfl (XS.iload X8.here hx rfl (hb hby d4_246) rfl (XS.iload X8.here hx rfl (hb hby d4_248) rfl (XS.aload X8.here hx rfl (hb hby d4_250) rfl rfl (XS.iload X8.here hx rfl (hb hby d4_252) rfl (XS.iconst X8.here hx rfl (hb hby d4_254) kX))))))
  obtain ⟨_, _, ⟨T9, L9, k9, n9⟩, -, X9, ⟨Lc9, hQ9, l9, y9, z9⟩, st9⟩ := Jvm.LawKit.callS X8 hx (y := oM38) hown (mvT hZ (oW hw 130 rfl)) (mvT hZ (oW hw 131 rfl)) (mvT hZ (oW hw 9 rfl)) (mvT hZ (oW hw 132 rfl)) (by decide) (backOf (W := 0) (rm27d l Z aV hw [] nb_5 nb_7 kb kn_7 xa xb xc xd tv cq ca cb T7.heap n0 zn7 V_nb_5 V_nb_7 S__assertionsDisabled S_HI_BYTE_SHIFT S_LO_BYTE_SHIFT g_nb_7 ne_nb_5_nb_7 hH hT) hZ (oW hw 132 rfl) (oW hw 9 rfl) (by decide) (by decide)) (g := (mkF m 255 #[.val (.ref a0), .val (.ref ch), .val (.ref a2), .val (.int 0), .val (.int 5), .val (.int 0), .val (.ref nb_5), .val (.int 0), .val (.ref nb_7), .unset, .unset] [(.int 1), (.int 0), (.ref nb_7), (.int 5), (.int 0), (.ref nb_5)])) rfl (by rw [hml]; rfl) (argsL := [(.ref nb_5), (.int 0), (.int 5), (.ref nb_7), (.int 0), (.int 1)]) (rest := []) (lenOf pd___BII_BIZ_I rfl) rfl (by show 2 * 0 + _ ≤ _; exact Nat.le_of_eq rfl) (hb hby d4_255) (fun _ _ => ⟨rfl, e8, (by decide : 2 + 0 ≤ _), (by decide : 15 + 0 ≤ _)⟩)
  dsimp only [Pt.U, Pt.locs, Pt.cells, Pt.slots] at X9 l9 y9 z9 st9 hQ9
  subst l9 y9 z9
  obtain ⟨rfl, N9q, Kq9, V_nb_7_p⟩ := hQ9
  have N9 := Fr.app N8 N9q
  have S_INSTANCE := Sta.keepE S_INSTANCE Kq9 (staS (own_acell V_nb_7) (fun x hx' => nomatch hx'))
  have S_COMPACT_STRINGS := Sta.keepE S_COMPACT_STRINGS Kq9 (staS (own_acell V_nb_7) (fun x hx' => nomatch hx'))
  have S_SIOOBE_FORMATTER := Sta.keepE S_SIOOBE_FORMATTER Kq9 (staS (own_acell V_nb_7) (fun x hx' => nomatch hx'))
  have S__assertionsDisabled := Sta.keepE S__assertionsDisabled Kq9 (staS (own_acell V_nb_7) (fun x hx' => nomatch hx'))
  have S_HI_BYTE_SHIFT := Sta.keepE S_HI_BYTE_SHIFT Kq9 (staS (own_acell V_nb_7) (fun x hx' => nomatch hx'))
  have S_LO_BYTE_SHIFT := Sta.keepE S_LO_BYTE_SHIFT Kq9 (staS (own_acell V_nb_7) (fun x hx' => nomatch hx'))
  have E_a0 := E_a0.keep Kq9
  have F_value_a0 := F_value_a0.keep Kq9 (ninS ne_a0_nb_7 nin0)
  have F_coder_a0 := F_coder_a0.keep Kq9 (ninS ne_a0_nb_7 nin0)
  have E_a2 := E_a2.keep Kq9
  have V_a2 := V_a2.keep Kq9 (ninS ne_a2_nb_7 nin0)
  have V_nb_5 := V_nb_5.keep Kq9 (ninS ne_nb_5_nb_7 nin0)
  have K9 := K7.trans Kq9 (allS (P := fun x => x ∈ [a0] ∨ h0.size ≤ x) (Or.inr sz_nb_7) all0)
  have zn9 : n0 ≤ T9.heap.size := Nat.le_trans zn7 Kq9.1
  have V_nb_7 := V_nb_7_p
  refine og (T9.setTop (mkF m 258 #[.val (.ref a0), .val (.ref ch), .val (.ref a2), .val (.int 0), .val (.int 5), .val (.int 0), .val (.ref nb_5), .val (.int 0), .val (.ref nb_7), .unset, .unset] [(.int 3)])) ?_ st9
  refine og (T9.setTop (mkF m 271 #[.val (.ref a0), .val (.ref ch), .val (.ref a2), .val (.int 0), .val (.int 5), .val (.int 3), .val (.ref nb_5), .val (.int 0), .val (.ref nb_7), .unset, .unset] [(.int 3), (.ref nb_7)])) ?_ (fun tX kX => XS.istore X9.here hx rfl (hb hby d4_258) rfl (l' := #[.val (.ref a0), .val (.ref ch), .val (.ref a2), .val (.int 0), .val (.int 5), .val (.int 3), .val (.ref nb_5), .val (.int 0), .val (.ref nb_7), .unset, .unset]) rfl (XS.iload X9.here hx rfl (hb hby d4_260) rfl (XS.iload X9.here hx rfl (hb hby d4_262) rfl (XS.icmpNo X9.here hx rfl (hb hby d4_264) rfl (feq (by decide)).1 (XS.aload X9.here hx rfl (hb hby d4_267) rfl rfl (XS.iload X9.here hx rfl (hb hby d4_269) rfl kX))))))
  refine og (T9.setTop (mkF m 273 #[.val (.ref a0), .val (.ref ch), .val (.ref a2), .val (.int 0), .val (.int 5), .val (.int 3), .val (.ref nb_5), .val (.int 0), .val (.ref nb_7), .unset, .unset] [(.int ((3 : Int32) <<< ((1 : Int32) &&& 31))), (.ref nb_7)])) ?_ (fun tX kX => XS.iconst X9.here hx rfl (hb hby d4_271) (XS.ishl X9.here hx rfl (hb hby d4_272) rfl kX))
  rw [show ((3 : Int32) <<< ((1 : Int32) &&& 31)) = (6 : Int32) from by decide]
  obtain ⟨_, _, ⟨T10, L10, k10, n10⟩, -, X10, ⟨Lc10, hQ10, l10, y10, z10⟩, st10⟩ := Jvm.LawKit.callS X9 hx (y := oM31) hown (mvT hZ (oW hw 91 rfl)) (mvT hZ (oW hw 92 rfl)) (mvT hZ (oW hw 37 rfl)) (mvT hZ (oW hw 93 rfl)) (by decide) (backOf (W := 0) (rm17 l Z aV hw [] nb_7 (6 : Int32) kn_7 (10 : Int32) [(.int (own_lo ca)), (.int (own_hi ca)), (.int (own_lo cb)), (.int (own_hi cb)), (.int (own_lo tv)), (.int (own_hi tv)), (.int 0), (.int 0), (.int 0), (.int 0)] T9.heap n0 zn9 V_nb_7 (by decide) (by decide) (by decide) (by decide) (by decide)) hZ (oW hw 93 rfl) (oW hw 37 rfl) (by decide) (by decide)) (g := (mkF m 273 #[.val (.ref a0), .val (.ref ch), .val (.ref a2), .val (.int 0), .val (.int 5), .val (.int 3), .val (.ref nb_5), .val (.int 0), .val (.ref nb_7), .unset, .unset] [(.int 6), (.ref nb_7)])) rfl (by rw [hml]; rfl) (argsL := [(.ref nb_7), (.int 6)]) (rest := []) (lenOf pd___BI__B rfl) rfl (by show 2 * 0 + _ ≤ _; exact Nat.le_of_eq rfl) (hb hby d4_273) (fun _ _ => ⟨rfl, rfl, (by decide : 2 + 1 ≤ _), (by decide : 15 + 6 ≤ _)⟩)
  dsimp only [Pt.U, Pt.locs, Pt.cells, Pt.slots] at X10 l10 y10 z10 st10 hQ10
  subst l10 y10 z10
  obtain ⟨nb_10, kn_10, rfl, N10q, Kq10, sz10_nb, V_nb_10_p⟩ := hQ10
  have N10 := Fr.app N9 N10q
  have ne_a0_nb_10 : a0 ≠ nb_10 := Nat.ne_of_lt (Nat.lt_of_lt_of_le E_a0.lt sz10_nb)
  have ne_a2_nb_10 : a2 ≠ nb_10 := Nat.ne_of_lt (Nat.lt_of_lt_of_le E_a2.lt sz10_nb)
  have ne_nb_5_nb_10 : nb_5 ≠ nb_10 := Nat.ne_of_lt (Nat.lt_of_lt_of_le V_nb_5.lt sz10_nb)
  have ne_nb_7_nb_10 : nb_7 ≠ nb_10 := Nat.ne_of_lt (Nat.lt_of_lt_of_le V_nb_7.lt sz10_nb)
  have S_INSTANCE := Sta.keep0 S_INSTANCE Kq10
  have S_COMPACT_STRINGS := Sta.keep0 S_COMPACT_STRINGS Kq10
  have S_SIOOBE_FORMATTER := Sta.keep0 S_SIOOBE_FORMATTER Kq10
  have S__assertionsDisabled := Sta.keep0 S__assertionsDisabled Kq10
  have S_HI_BYTE_SHIFT := Sta.keep0 S_HI_BYTE_SHIFT Kq10
  have S_LO_BYTE_SHIFT := Sta.keep0 S_LO_BYTE_SHIFT Kq10
  have E_a0 := E_a0.keep Kq10
  have F_value_a0 := F_value_a0.keep Kq10 nin0
  have F_coder_a0 := F_coder_a0.keep Kq10 nin0
  have E_a2 := E_a2.keep Kq10
  have V_a2 := V_a2.keep Kq10 nin0
  have V_nb_5 := V_nb_5.keep Kq10 nin0
  have V_nb_7 := V_nb_7.keep Kq10 nin0
  have g_nb_10 : n0 ≤ nb_10 := Nat.le_trans zn9 sz10_nb
  have sz_nb_10 : h0.size ≤ nb_10 := Nat.le_trans K9.1 sz10_nb
  have K10 := K9.trans Kq10 all0
  have zn10 : n0 ≤ T10.heap.size := Nat.le_trans zn9 Kq10.1
  have V_nb_10 := V_nb_10_p
  refine og (T10.setTop (mkF m 276 #[.val (.ref a0), .val (.ref ch), .val (.ref a2), .val (.int 0), .val (.int 5), .val (.int 3), .val (.ref nb_5), .val (.int 0), .val (.ref nb_7), .unset, .unset] [(.ref nb_10)])) ?_ st10
  have V_nb_10 : Arv Z T10.heap nb_10 kn_10 .byte (6 : Int32) [(.int (own_lo ca)), (.int (own_hi ca)), (.int (own_lo cb)), (.int (own_hi cb)), (.int (own_lo tv)), (.int (own_hi tv))] (.int 0) := V_nb_10
  refine og (T10.setTop (mkF m 281 #[.val (.ref a0), .val (.ref ch), .val (.ref a2), .val (.int 0), .val (.int 5), .val (.int 3), .val (.ref nb_5), .val (.int 0), .val (.ref nb_10), .unset, .unset] [(.ref nb_10), (.ref a0)])) ?_ (fun tX kX => XS.astore X10.here hx rfl (hb hby d4_276) rfl rfl (l' := #[.val (.ref a0), .val (.ref ch), .val (.ref a2), .val (.int 0), .val (.int 5), .val (.int 3), .val (.ref nb_5), .val (.int 0), .val (.ref nb_10), .unset, .unset]) rfl (XS.aloadN X10.here hx rfl (hb hby d4_278) rfl rfl (XS.aload X10.here hx rfl (hb hby d4_279) rfl rfl kX)))
  obtain ⟨T11, h11, X11, e11, W11, st11⟩ := putF X10 hx hZ hown (host := "") (Or.inl (oW hw 48 rfl)) Via.refl rfl F_value_a0 E_a0 (Or.inr ⟨(oW hw 49 rfl), rfl, hnm⟩) (oW hw 8 rfl) (ty := (.array .byte)) (by decide) rfl rfl (g := (mkF m 281 #[.val (.ref a0), .val (.ref ch), .val (.ref a2), .val (.int 0), .val (.int 5), .val (.int 3), .val (.ref nb_5), .val (.int 0), .val (.ref nb_10), .unset, .unset] [(.ref nb_10), (.ref a0)])) rfl rfl (hb hby d4_281)
  have Eold11 := E_a0
  have E_a0 := E_a0.wr W11
  have F_value_a0 := F_value_a0.same W11
  have F_coder_a0 := F_coder_a0.other W11 (Or.inr (slot_ne (Or.inr (oW hw 51 rfl)) (Or.inr (oW hw 49 rfl)) (by decide) (t := .byte) (t' := (.array .byte)) (by decide) (by decide)))
  have S_INSTANCE := S_INSTANCE.wr W11
  have S_COMPACT_STRINGS := S_COMPACT_STRINGS.wr W11
  have S_SIOOBE_FORMATTER := S_SIOOBE_FORMATTER.wr W11
  have S__assertionsDisabled := S__assertionsDisabled.wr W11
  have S_HI_BYTE_SHIFT := S_HI_BYTE_SHIFT.wr W11
  have S_LO_BYTE_SHIFT := S_LO_BYTE_SHIFT.wr W11
  have E_a2 := E_a2.wr W11
  have V_a2 := V_a2.other W11 (Ne.symm (Exa.neArv Eold11 V_a2 (oW hw 8 rfl)))
  have V_nb_5 := V_nb_5.other W11 (Ne.symm ne_a0_nb_5)
  have V_nb_7 := V_nb_7.other W11 (Ne.symm ne_a0_nb_7)
  have V_nb_10 := V_nb_10.other W11 (Ne.symm ne_a0_nb_10)
  have K11 := K10.wr W11 (Or.inl (List.mem_of_getElem? (i := 0) rfl))
  have zn11 : n0 ≤ h11.size := Nat.le_trans zn10 (Keep.of_wr W11).1
  have N11 := Fr.snoc X11 N10 ga
  refine og (T11.setTop (mkF m 284 #[.val (.ref a0), .val (.ref ch), .val (.ref a2), .val (.int 0), .val (.int 5), .val (.int 3), .val (.ref nb_5), .val (.int 0), .val (.ref nb_10), .unset, .unset] [])) ?_ st11
  refine og (T11.setTop (mkF m 286 #[.val (.ref a0), .val (.ref ch), .val (.ref a2), .val (.int 0), .val (.int 5), .val (.int 3), .val (.ref nb_5), .val (.int 0), .val (.ref nb_10), .unset, .unset] [(.int 1), (.ref a0)])) ?_ (fun tX kX => XS.aloadN X11.here hx rfl (hb hby d4_284) rfl rfl (XS.iconst X11.here hx rfl (hb hby d4_285) kX))
  obtain ⟨T12, h12, X12, e12, W12, st12⟩ := putF X11 hx hZ hown (host := "") (Or.inl (oW hw 50 rfl)) Via.refl e11 F_coder_a0 E_a0 (Or.inr ⟨(oW hw 51 rfl), rfl, hnm⟩) (oW hw 8 rfl) (ty := .byte) (by decide) rfl rfl (g := (mkF m 286 #[.val (.ref a0), .val (.ref ch), .val (.ref a2), .val (.int 0), .val (.int 5), .val (.int 3), .val (.ref nb_5), .val (.int 0), .val (.ref nb_10), .unset, .unset] [(.int 1), (.ref a0)])) rfl rfl (hb hby d4_286)
  have Eold12 := E_a0
  have E_a0 := E_a0.wr W12
  have F_value_a0 := F_value_a0.other W12 (Or.inr (slot_ne (Or.inr (oW hw 49 rfl)) (Or.inr (oW hw 51 rfl)) (by decide) (t := (.array .byte)) (t' := .byte) (by decide) (by decide)))
  have F_coder_a0 := F_coder_a0.same W12
  have S_INSTANCE := S_INSTANCE.wr W12
  have S_COMPACT_STRINGS := S_COMPACT_STRINGS.wr W12
  have S_SIOOBE_FORMATTER := S_SIOOBE_FORMATTER.wr W12
  have S__assertionsDisabled := S__assertionsDisabled.wr W12
  have S_HI_BYTE_SHIFT := S_HI_BYTE_SHIFT.wr W12
  have S_LO_BYTE_SHIFT := S_LO_BYTE_SHIFT.wr W12
  have E_a2 := E_a2.wr W12
  have V_a2 := V_a2.other W12 (Ne.symm (Exa.neArv Eold12 V_a2 (oW hw 8 rfl)))
  have V_nb_5 := V_nb_5.other W12 (Ne.symm ne_a0_nb_5)
  have V_nb_7 := V_nb_7.other W12 (Ne.symm ne_a0_nb_7)
  have V_nb_10 := V_nb_10.other W12 (Ne.symm ne_a0_nb_10)
  have K12 := K11.wr W12 (Or.inl (List.mem_of_getElem? (i := 0) rfl))
  have zn12 : n0 ≤ h12.size := Nat.le_trans zn11 (Keep.of_wr W12).1
  have N12 := Fr.snoc X12 N11 ga
  refine og (T12.setTop (mkF m 289 #[.val (.ref a0), .val (.ref ch), .val (.ref a2), .val (.int 0), .val (.int 5), .val (.int 3), .val (.ref nb_5), .val (.int 0), .val (.ref nb_10), .unset, .unset] [])) ?_ st12
  refine og (T12.setTop (mkF m 879 #[.val (.ref a0), .val (.ref ch), .val (.ref a2), .val (.int 0), .val (.int 5), .val (.int 3), .val (.ref nb_5), .val (.int 0), .val (.ref nb_10), .unset, .unset] [])) ?_ (fun tX kX => XS.goto X12.here hx rfl (pc0 := 289) (pc' := 879) rfl (hb hby d4_289) (by decide) (by decide) kX)
  refine OGo.ret X12 (v := none) (fun _ => rfl) (BodyLoose.notSynchronized Bd) (fun fs hr => X12.returnOut hx Bd.returns (hb hby d4_879) hr) (Q := Q4G Z a0 (1 : Int32) (6 : Int32) [(.int (own_lo ca)), (.int (own_hi ca)), (.int (own_lo cb)), (.int (own_hi cb)), (.int (own_lo tv)), (.int (own_hi tv))] h0 n0) ?_ (by decide) (by decide)
  show Q4G Z a0 (1 : Int32) (6 : Int32) [(.int (own_lo ca)), (.int (own_hi ca)), (.int (own_lo cb)), (.int (own_hi cb)), (.int (own_lo tv)), (.int (own_hi tv))] h0 n0 _ T12.heap _
  rw [e12]
  exact ⟨nb_10, kn_10, rfl, N12, K12, sz_nb_10, E_a0, F_value_a0, F_coder_a0, V_nb_10⟩
theorem d4_9 : oD4 9 (.aload_n 0) 1 := by decide +kernel
theorem d4_10 : oD4 10 (.ldc 7) 2 := by decide +kernel
theorem d4_12 : oD4 12 (.getfield 9) 3 := by decide +kernel
theorem d4_15 : oD4 15 (.putfield 9) 3 := by decide +kernel
theorem d4_18 : oD4 18 (.aload_n 0) 1 := by decide +kernel
theorem d4_19 : oD4 19 (.ldc 7) 2 := by decide +kernel
theorem d4_21 : oD4 21 (.getfield 15) 3 := by decide +kernel
theorem d4_24 : oD4 24 (.putfield 15) 3 := by decide +kernel
theorem d4_27 : oD4 27 (.goto 852) 3 := by decide +kernel
def Q4E (Z : State) (a0 : Addr) (ch : Addr) (a2 : Addr) (u2 : Value) (h0 : Heap) (n0 : Nat) (v : Option Value) (h : Heap) (L : List Loc) : Prop := ∃ (nb : Addr) (kb : ClassId), v = none ∧ Fr n0 L ∧ Keep h0 h [a0] ∧ Exa Z h a0 "java/lang/String" ∧ Fld Z h a0 "java/lang/String" "value" "[B" (.ref nb) ∧ Fld Z h a0 "java/lang/String" "coder" "B" (.int 0) ∧ Arv Z h nb kb .byte (0 : Int32) [] (.int 0)
def P4E (Z : State) (a0 : Addr) (ch : Addr) (a2 : Addr) (u2 : Value) (h0 : Heap) (n0 : Nat) (s : State) (o : Outcome) (U' : State) : Prop := ∃ v L, o = .returned v ∧ Q4E Z a0 ch a2 u2 h0 n0 v U'.heap L ∧ CHr Z own_EL s.vm s.heap U'.vm U'.heap ∧ ReturnedEndW s o U' L oR17.cells oR17.slots
set_option maxRecDepth 65536 in
set_option maxHeartbeats 40000000 in
theorem rm4E (l : Launch) (Z : State) (aV : Array Value) (hw : ∀ d ∈ tables_1, d.before aV Z = true) (ws : List Jvm.Cond) (a0 : Addr) (ch : Addr) (a2 : Addr) (u2 : Value) (h0 : Heap) (n0 : Nat) (Z0 : n0 ≤ h0.size) (E_a0 : Exa Z h0 a0 "java/lang/String") (F_value_a0 : Fld Z h0 a0 "java/lang/String" "value" "[B" .null) (F_coder_a0 : Fld Z h0 a0 "java/lang/String" "coder" "B" u2) (ga : n0 ≤ a0) :
    MetFree l oM39 (head1 (Jvm.Cond.codeWith oM39 jdk_42_method_11_code 11 none [(800, 813, 816, 202)] :: ws) oR17) (fun a U => a = #[(.ref a0), (.ref ch), (.ref a2), (.int 0), (.int 0)] ∧ Z.Warmed39 U.vm ∧ U.heap = h0 ∧ CHv Z own_EL U.vm h0) (fun _ _ _ _ _ => True) (fun _ U o U' => ∃ v L, o = .returned v ∧ Q4E Z a0 ch a2 u2 h0 n0 v U'.heap L ∧ CHr Z own_EL U.vm U.heap U'.vm U'.heap ∧ ReturnedEndW U o U' L oR17.cells oR17.slots) := by
  refine MetFree.of_bodySF (plainFor_of_name pn_java_lang_String) hisWith ?_
  intro p e s m args below meth c s₁ Bd hml0 hP hK
  obtain ⟨rfl, hZ, hh, hCH⟩ := hP
  have hx := Bd.exec
  have hby := Bd.bytes
  have hml : c.maxLocals = 11 := hml0
  have hown : s.vm.findClass "java/lang/String" = some m.cls := findClass_of_methodNamed Bd.named
  have hnm := (name_of_methodNamed Bd.named Bd.method).1
  have X0 : Stand p l e oR17 s m #[(.ref a0), (.ref ch), (.ref a2), (.int 0), (.int 0)] below meth c s₁ [] 0 0 := Stand.of_body Bd
  have e0 : s₁.heap = h0 := by rw [← hh, Bd.state]; rfl
  have X0 : Stand p l e oR17 (s.setVm s.vm) m #[(.ref a0), (.ref ch), (.ref a2), (.int 0), (.int 0)] below meth c s₁ [] 0 0 := X0
  have hZ : Z.Warmed39 (s.setVm s.vm).vm := hZ
  have hown : (s.setVm s.vm).vm.findClass "java/lang/String" = some m.cls := hown
  have hS0 : s.Since s.vm 0 := (State.WarmedH.refl s).since 0
  have hk0 : 0 ≤ h0.size := Nat.zero_le _
  have own_ew := own_ewT hw
  have own_wS := own_wST hw
  have efx : entryFrame m #[(.ref a0), (.ref ch), (.ref a2), (.int 0), (.int 0)] 11 = mkF m 0 #[.val (.ref a0), .val (.ref ch), .val (.ref a2), .val (.int 0), .val (.int 0), .unset, .unset, .unset, .unset, .unset, .unset] [] := by first | (simp [entryFrame, mkF, argsToLocals, Value.category]; done) | rfl
  have CR0 : CHr Z own_EL s.vm h0 s.vm h0 := CHr.refl hCH
  have N0 := Fr.nil n0
  have K0 : Keep h0 h0 [a0] := Keep.refl h0 _
  refine OGo.start (g' := mkF m 0 #[.val (.ref a0), .val (.ref ch), .val (.ref a2), .val (.int 0), .val (.int 0), .unset, .unset, .unset, .unset, .unset, .unset] []) (efx) ?_
  show OGo p.tables e below (P4E Z a0 ch a2 u2 h0 n0 s) (s₁.setTop (mkF m 0 #[.val (.ref a0), .val (.ref ch), .val (.ref a2), .val (.int 0), .val (.int 0), .unset, .unset, .unset, .unset, .unset, .unset] []))
  have Sf_a0 : Safe Z own_EL s.vm h0 a0 := Safe.bare hZ.alike E_a0 F_value_a0
  refine og (s₁.setTop (mkF m 1 #[.val (.ref a0), .val (.ref ch), .val (.ref a2), .val (.int 0), .val (.int 0), .unset, .unset, .unset, .unset, .unset, .unset] [(.ref a0)])) ?_ (fun tX kX => XS.aloadN X0.here hx rfl (hb hby d4_0) rfl rfl kX)
  obtain ⟨T1, X1, e1, st1⟩ := initO X0 hx hZ hown (oW hw 25 rfl) (oW hw 26 rfl) (oW hw 27 rfl) e0 (g := (mkF m 1 #[.val (.ref a0), .val (.ref ch), .val (.ref a2), .val (.int 0), .val (.int 0), .unset, .unset, .unset, .unset, .unset, .unset] [(.ref a0)])) rfl (by rw [hml]; rfl) rfl (hb hby d4_1) (by decide) (W := 0) (by show 2 * 0 + _ ≤ _; exact Nat.le_of_eq rfl) (by decide)
  refine og (T1.setTop (mkF m 4 #[.val (.ref a0), .val (.ref ch), .val (.ref a2), .val (.int 0), .val (.int 0), .unset, .unset, .unset, .unset, .unset, .unset] [])) ?_ st1
  refine og (T1.setTop (mkF m 10 #[.val (.ref a0), .val (.ref ch), .val (.ref a2), .val (.int 0), .val (.int 0), .unset, .unset, .unset, .unset, .unset, .unset] [(.ref a0)])) ?_ (fun tX kX => XS.iload X1.here hx rfl (hb hby d4_4) rfl (XS.ifNo X1.here hx rfl (hb hby d4_6) rfl ((if0 _ _).trans (teq (by decide)).2) (XS.aloadN X1.here hx rfl (hb hby d4_9) rfl rfl kX)))
  obtain ⟨s2, T2, h2, k2, sb2, kk2, X2, e2, E2, hS2, hk2, hZ2, hown2, EA2, FC2, FV2, VA2, -, -, CR2, LT2, SF2, st2⟩ := ldcCH (vs := []) (z := (0 : Int32)) X1 hx hZ hown (oW hw 161 rfl) own_wS e1 hS0 hk0 own_ew (by decide) hCH ⟨by decide, rfl⟩ (by decide) rfl (g := (mkF m 10 #[.val (.ref a0), .val (.ref ch), .val (.ref a2), .val (.int 0), .val (.int 0), .unset, .unset, .unset, .unset, .unset, .unset] [(.ref a0)])) rfl (hb hby d4_10) (n := 0) (by decide) (by decide) (by decide) (by decide)
  have Sf_a0 := CR2.safe E_a0.lt Sf_a0
  have CRt2 := CR0.trans CR2
  have hCH := CR2.1
  have E_a0 := E_a0.ext E2
  have F_value_a0 := F_value_a0.ext E2
  have F_coder_a0 := F_coder_a0.ext E2
  have zn2 : n0 ≤ h2.size := Nat.le_trans Z0 E2.1
  have K2 := K0.ext E2
  have E_s2 := EA2
  have F_coder_s2 := FC2
  have F_value_s2 := FV2
  have V_sb2 := VA2
  refine og (T2.setTop (mkF m 12 #[.val (.ref a0), .val (.ref ch), .val (.ref a2), .val (.int 0), .val (.int 0), .unset, .unset, .unset, .unset, .unset, .unset] [(.ref s2), (.ref a0)])) ?_ st2
  obtain ⟨T3, X3, e3, st3⟩ := getF X2 hx hZ2 hown2 (host := "") (Or.inl (oW hw 48 rfl)) Via.refl e2 F_value_s2 (g := (mkF m 12 #[.val (.ref a0), .val (.ref ch), .val (.ref a2), .val (.int 0), .val (.int 0), .unset, .unset, .unset, .unset, .unset, .unset] [(.ref s2), (.ref a0)])) rfl rfl (hb hby d4_12)
  refine og (T3.setTop (mkF m 15 #[.val (.ref a0), .val (.ref ch), .val (.ref a2), .val (.int 0), .val (.int 0), .unset, .unset, .unset, .unset, .unset, .unset] [(.ref sb2), (.ref a0)])) ?_ st3
  obtain ⟨T4, h4, X4, e4, W4, st4⟩ := putF X3 hx hZ2 hown2 (host := "") (Or.inl (oW hw 48 rfl)) Via.refl e3 F_value_a0 E_a0 (Or.inr ⟨(oW hw 49 rfl), rfl, hnm⟩) (oW hw 8 rfl) (ty := (.array .byte)) (by decide) rfl rfl (g := (mkF m 15 #[.val (.ref a0), .val (.ref ch), .val (.ref a2), .val (.int 0), .val (.int 0), .unset, .unset, .unset, .unset, .unset, .unset] [(.ref sb2), (.ref a0)])) rfl rfl (hb hby d4_15)
  have Eold4 := E_a0
  have Sfo4 := Sf_a0
  have CHo4 := hCH
  have Sf_a0 := Safe.wr W4 Sfo4 CHo4 Sf_a0
  have CR4 := CRt2.trans (CHr.wr W4 Sfo4 CHo4)
  have hCH := CHv.wr W4 Sfo4 CHo4
  have E_a0 := E_a0.wr W4
  have F_value_a0 := F_value_a0.same W4
  have F_coder_a0 := F_coder_a0.other W4 (Or.inr (slot_ne (Or.inr (oW hw 51 rfl)) (Or.inr (oW hw 49 rfl)) (by decide) (t := .byte) (t' := (.array .byte)) (by decide) (by decide)))
  have E_s2 := E_s2.wr W4
  have F_coder_s2 := F_coder_s2.other W4 (Or.inr (slot_ne (Or.inr (oW hw 51 rfl)) (Or.inr (oW hw 49 rfl)) (by decide) (t := .byte) (t' := (.array .byte)) (by decide) (by decide)))
  have V_sb2 := V_sb2.other W4 (Ne.symm (Exa.neArv Eold4 V_sb2 (oW hw 8 rfl)))
  have K4 := K2.wr W4 (Or.inl (List.mem_of_getElem? (i := 0) rfl))
  have zn4 : n0 ≤ h4.size := Nat.le_trans zn2 (Keep.of_wr W4).1
  have hk4 := Nat.le_trans hk2 (Keep.of_wr W4).1
  have N4 := Fr.snoc X4 N0 ga
  refine og (T4.setTop (mkF m 18 #[.val (.ref a0), .val (.ref ch), .val (.ref a2), .val (.int 0), .val (.int 0), .unset, .unset, .unset, .unset, .unset, .unset] [])) ?_ st4
  refine og (T4.setTop (mkF m 19 #[.val (.ref a0), .val (.ref ch), .val (.ref a2), .val (.int 0), .val (.int 0), .unset, .unset, .unset, .unset, .unset, .unset] [(.ref a0)])) ?_ (fun tX kX => XS.aloadN X4.here hx rfl (hb hby d4_18) rfl rfl kX)
  refine OGo.go (B := T4.setTop (mkF m 21 #[.val (.ref a0), .val (.ref ch), .val (.ref a2), .val (.int 0), .val (.int 0), .unset, .unset, .unset, .unset, .unset, .unset] [(.ref s2), (.ref a0)])) ?_ (ldcAgain X4 hx hZ2 hown2 (oW hw 161 rfl) LT2 (g := (mkF m 19 #[.val (.ref a0), .val (.ref ch), .val (.ref a2), .val (.int 0), .val (.int 0), .unset, .unset, .unset, .unset, .unset, .unset] [(.ref a0)])) rfl (hb hby d4_19))
  obtain ⟨T5, X5, e5, st5⟩ := getF X4 hx hZ2 hown2 (host := "") (Or.inl (oW hw 50 rfl)) Via.refl e4 F_coder_s2 (g := (mkF m 21 #[.val (.ref a0), .val (.ref ch), .val (.ref a2), .val (.int 0), .val (.int 0), .unset, .unset, .unset, .unset, .unset, .unset] [(.ref s2), (.ref a0)])) rfl rfl (hb hby d4_21)
  refine og (T5.setTop (mkF m 24 #[.val (.ref a0), .val (.ref ch), .val (.ref a2), .val (.int 0), .val (.int 0), .unset, .unset, .unset, .unset, .unset, .unset] [(.int 0), (.ref a0)])) ?_ st5
  obtain ⟨T6, h6, X6, e6, W6, st6⟩ := putF X5 hx hZ2 hown2 (host := "") (Or.inl (oW hw 50 rfl)) Via.refl e5 F_coder_a0 E_a0 (Or.inr ⟨(oW hw 51 rfl), rfl, hnm⟩) (oW hw 8 rfl) (ty := .byte) (by decide) rfl rfl (g := (mkF m 24 #[.val (.ref a0), .val (.ref ch), .val (.ref a2), .val (.int 0), .val (.int 0), .unset, .unset, .unset, .unset, .unset, .unset] [(.int 0), (.ref a0)])) rfl rfl (hb hby d4_24)
  have Eold6 := E_a0
  have Sfo6 := Sf_a0
  have CHo6 := hCH
  have Sf_a0 := Safe.wr W6 Sfo6 CHo6 Sf_a0
  have CR6 := CR4.trans (CHr.wr W6 Sfo6 CHo6)
  have hCH := CHv.wr W6 Sfo6 CHo6
  have E_a0 := E_a0.wr W6
  have F_value_a0 := F_value_a0.other W6 (Or.inr (slot_ne (Or.inr (oW hw 49 rfl)) (Or.inr (oW hw 51 rfl)) (by decide) (t := (.array .byte)) (t' := .byte) (by decide) (by decide)))
  have F_coder_a0 := F_coder_a0.same W6
  have E_s2 := E_s2.wr W6
  have V_sb2 := V_sb2.other W6 (Ne.symm (Exa.neArv Eold6 V_sb2 (oW hw 8 rfl)))
  have K6 := K4.wr W6 (Or.inl (List.mem_of_getElem? (i := 0) rfl))
  have zn6 : n0 ≤ h6.size := Nat.le_trans zn4 (Keep.of_wr W6).1
  have hk6 := Nat.le_trans hk4 (Keep.of_wr W6).1
  have N6 := Fr.snoc X6 N4 ga
  refine og (T6.setTop (mkF m 27 #[.val (.ref a0), .val (.ref ch), .val (.ref a2), .val (.int 0), .val (.int 0), .unset, .unset, .unset, .unset, .unset, .unset] [])) ?_ st6
  refine og (T6.setTop (mkF m 879 #[.val (.ref a0), .val (.ref ch), .val (.ref a2), .val (.int 0), .val (.int 0), .unset, .unset, .unset, .unset, .unset, .unset] [])) ?_ (fun tX kX => XS.goto X6.here hx rfl (pc0 := 27) (pc' := 879) rfl (hb hby d4_27) (by decide) (by decide) kX)
  have CRe := CR6.trans (CHv.at X6 hZ2 own_ew hCH)
  refine OGo.retWH X6 hS2 (by rw [e6]; exact hk6) (v := none) (fun _ => rfl) (BodyLoose.notSynchronized Bd) (fun fs hr => X6.returnOut hx Bd.returns (hb hby d4_879) hr) (Q := Q4E Z a0 ch a2 u2 h0 n0) ?_ (by rw [hh, e6]; exact CRe) (by decide) (by decide)
  show Q4E Z a0 ch a2 u2 h0 n0 _ T6.heap _
  rw [e6]
  exact ⟨sb2, kk2, rfl, N6, K6, E_a0, F_value_a0, F_coder_a0, V_sb2⟩
def Q2E (Z : State) (a0 : Addr) (a1 : Addr) (ch : Addr) (u2 : Value) (kc : ClassId) (h0 : Heap) (n0 : Nat) (v : Option Value) (h : Heap) (L : List Loc) : Prop := ∃ (nb : Addr) (kb : ClassId), v = none ∧ Fr n0 L ∧ Keep h0 h [a0] ∧ Exa Z h a0 "java/lang/String" ∧ Fld Z h a0 "java/lang/String" "value" "[B" (.ref nb) ∧ Fld Z h a0 "java/lang/String" "coder" "B" (.int 0) ∧ Arv Z h nb kb .byte (0 : Int32) [] (.int 0)
def P2E (Z : State) (a0 : Addr) (a1 : Addr) (ch : Addr) (u2 : Value) (kc : ClassId) (h0 : Heap) (n0 : Nat) (s : State) (o : Outcome) (U' : State) : Prop := ∃ v L, o = .returned v ∧ Q2E Z a0 a1 ch u2 kc h0 n0 v U'.heap L ∧ CHr Z own_EL s.vm s.heap U'.vm U'.heap ∧ ReturnedEndW s o U' L oR18.cells oR18.slots
set_option maxRecDepth 65536 in
set_option maxHeartbeats 40000000 in
theorem rm2E (l : Launch) (Z : State) (aV : Array Value) (hw : ∀ d ∈ tables_1, d.before aV Z = true) (ws : List Jvm.Cond) (a0 : Addr) (a1 : Addr) (ch : Addr) (u2 : Value) (kc : ClassId) (h0 : Heap) (n0 : Nat) (Z0 : n0 ≤ h0.size) (E_a0 : Exa Z h0 a0 "java/lang/String") (F_value_a0 : Fld Z h0 a0 "java/lang/String" "value" "[B" .null) (F_coder_a0 : Fld Z h0 a0 "java/lang/String" "coder" "B" u2) (E_ch : Exa Z h0 ch "sun/nio/cs/UTF_8") (V_a1 : Arv Z h0 a1 kc .byte (0 : Int32) [] (.int 0)) (ga : n0 ≤ a0) :
    MetFree l oM40 (head1 (Jvm.Cond.code oM40 jdk_42_method_49_code 3 none :: ws) oR18) (fun a U => a = #[(.ref a0), (.ref a1), (.ref ch)] ∧ Z.Warmed39 U.vm ∧ U.heap = h0 ∧ CHv Z own_EL U.vm h0) (fun _ _ _ _ _ => True) (fun _ U o U' => ∃ v L, o = .returned v ∧ Q2E Z a0 a1 ch u2 kc h0 n0 v U'.heap L ∧ CHr Z own_EL U.vm U.heap U'.vm U'.heap ∧ ReturnedEndW U o U' L oR18.cells oR18.slots) := by
  refine MetFree.of_bodySF (plainFor_of_name pn_java_lang_String) hisR ?_
  intro p e s m args below meth c s₁ Bd hml0 hP hK
  obtain ⟨rfl, hZ, hh, hCH⟩ := hP
  have hx := Bd.exec
  have hby := Bd.bytes
  have hml : c.maxLocals = 3 := hml0
  have hown : s.vm.findClass "java/lang/String" = some m.cls := findClass_of_methodNamed Bd.named
  have hnm := (name_of_methodNamed Bd.named Bd.method).1
  have X0 : Stand p l e oR18 s m #[(.ref a0), (.ref a1), (.ref ch)] below meth c s₁ [] 0 0 := Stand.of_body Bd
  have e0 : s₁.heap = h0 := by rw [← hh, Bd.state]; rfl
  have X0 : Stand p l e oR18 (s.setVm s.vm) m #[(.ref a0), (.ref a1), (.ref ch)] below meth c s₁ [] 0 0 := X0
  have hZ : Z.Warmed39 (s.setVm s.vm).vm := hZ
  have hown : (s.setVm s.vm).vm.findClass "java/lang/String" = some m.cls := hown
  have hS0 : s.Since s.vm 0 := (State.WarmedH.refl s).since 0
  have hk0 : 0 ≤ h0.size := Nat.zero_le _
  have own_ew := own_ewT hw
  have own_wS := own_wST hw
  have efx : entryFrame m #[(.ref a0), (.ref a1), (.ref ch)] 3 = mkF m 0 #[.val (.ref a0), .val (.ref a1), .val (.ref ch)] [] := by first | (simp [entryFrame, mkF, argsToLocals, Value.category]; done) | rfl
  have CR0 : CHr Z own_EL s.vm h0 s.vm h0 := CHr.refl hCH
  have N0 := Fr.nil n0
  have K0 : Keep h0 h0 [a0] := Keep.refl h0 _
  refine OGo.start (g' := mkF m 0 #[.val (.ref a0), .val (.ref a1), .val (.ref ch)] []) (efx) ?_
  show OGo p.tables e below (P2E Z a0 a1 ch u2 kc h0 n0 s) (s₁.setTop (mkF m 0 #[.val (.ref a0), .val (.ref a1), .val (.ref ch)] []))
  have Sf_a0 : Safe Z own_EL s.vm h0 a0 := Safe.bare hZ.alike E_a0 F_value_a0
  refine og (s₁.setTop (mkF m 2 #[.val (.ref a0), .val (.ref a1), .val (.ref ch)] [(.ref ch), (.ref a0)])) ?_ (fun tX kX => XS.aloadN X0.here hx rfl (hb hby d2_0) rfl rfl (XS.aloadN X0.here hx rfl (hb hby d2_1) rfl rfl kX))
  obtain ⟨_, _, ⟨T1, L1, k1, n1⟩, -, X1, ⟨Lc1, hQ1, l1, y1, z1⟩, st1⟩ := Jvm.LawKit.callS X0 hx (y := oM0) hown (mvT hZ (oW hw 15 rfl)) (mvT hZ (oW hw 16 rfl)) (mvT hZ (oW hw 17 rfl)) (mvT hZ (oW hw 18 rfl)) (by decide) (backOf (W := 1) (rm3 l Z aV hw [] ch h0 n0 Z0) hZ (oW hw 18 rfl) (oW hw 17 rfl) (by decide) (by decide)) (g := (mkF m 2 #[.val (.ref a0), .val (.ref a1), .val (.ref ch)] [(.ref ch), (.ref a0)])) rfl (by rw [hml]; rfl) (argsL := [(.ref ch)]) (rest := [(.ref a0)]) (lenOf pd__Ljava_lang_Object__Ljava_lang_Object_ rfl) rfl (by show 2 * 0 + _ ≤ _; exact Nat.le_of_eq rfl) (hb hby d2_2) (fun _ _ => ⟨rfl, e0, (by decide : 0 + 0 ≤ _), (by decide : 0 + 0 ≤ _)⟩)
  dsimp only [Pt.U, Pt.locs, Pt.cells, Pt.slots] at X1 l1 y1 z1 st1 hQ1
  subst l1 y1 z1
  obtain ⟨rfl, N1q, e1⟩ := hQ1
  have N1 := Fr.app N0 N1q
  refine og (T1.setTop (mkF m 5 #[.val (.ref a0), .val (.ref a1), .val (.ref ch)] [(.ref ch), (.ref a0)])) ?_ st1
  obtain ⟨T2, X2, e2, st2⟩ := castY X1 hx hZ hown (oW hw 19 rfl) e1 (Ins.of_exa E_ch (oW hw 20 rfl)) (g := (mkF m 5 #[.val (.ref a0), .val (.ref a1), .val (.ref ch)] [(.ref ch), (.ref a0)])) rfl rfl (hb hby d2_5)
  refine og (T2.setTop (mkF m 8 #[.val (.ref a0), .val (.ref a1), .val (.ref ch)] [(.ref ch), (.ref a0)])) ?_ st2
  refine og (T2.setTop (mkF m 11 #[.val (.ref a0), .val (.ref a1), .val (.ref ch)] [(.ref a1), (.int 0), (.ref a1), (.ref ch), (.ref a0)])) ?_ (fun tX kX => XS.aloadN X2.here hx rfl (hb hby d2_8) rfl rfl (XS.iconst X2.here hx rfl (hb hby d2_9) (XS.aloadN X2.here hx rfl (hb hby d2_10) rfl rfl kX)))
  obtain ⟨cl3, Ar3, qa3, S3, N3', H3, G3⟩ := id V_a1
  refine OGo.go (B := T2.setTop (mkF m 12 #[.val (.ref a0), .val (.ref a1), .val (.ref ch)] [(.int 0), (.int 0), (.ref a1), (.ref ch), (.ref a0)])) ?_ (fun tX kX => X2.arraylength hx (by rw [e2]; exact Ar3.1) (State.isArrayOf_alike hZ.alike Ar3.2.1) (g := (mkF m 11 #[.val (.ref a0), .val (.ref a1), .val (.ref ch)] [(.ref a1), (.int 0), (.ref a1), (.ref ch), (.ref a0)])) rfl rfl (hb hby d2_11) _ (by rw [len_of S3 N3']; exact kX))
  obtain ⟨_, _, ⟨T4, L4, k4, n4⟩, -, X4, hSq4, hgr4, ⟨Lc4, hQ4, l4, y4, z4, CRq4⟩, st4⟩ := own_specialW X2 hx (y := oM39) rfl hown (mvT hZ (oW hw 21 rfl)) (mvT hZ (oW hw 22 rfl)) (mvT hZ (oW hw 24 rfl)) (by decide) (own_backW (W := 0) (rm4E l Z aV hw [] a0 ch a1 u2 h0 n0 Z0 E_a0 F_value_a0 F_coder_a0 ga) hZ (oW hw 24 rfl) (oW hw 9 rfl) (by decide) (by decide) own_ew hCH) (g := (mkF m 12 #[.val (.ref a0), .val (.ref a1), .val (.ref ch)] [(.int 0), (.int 0), (.ref a1), (.ref ch), (.ref a0)])) rfl (by rw [hml]; rfl) (Steps.refl _) (a := a0) (argsL := [(.ref ch), (.ref a1), (.int 0), (.int 0)]) (rest := []) (lenOf pd__Ljava_nio_charset_Charset__BII_V rfl) rfl (by show 2 * 0 + _ ≤ _; exact Nat.le_of_eq rfl) (hb hby d2_12) (fun _ _ => ⟨rfl, e2, (by decide : 0 + 2 ≤ _), (by decide : 0 + 4 ≤ _)⟩)
  dsimp only [Pt.U, Pt.locs, Pt.cells, Pt.slots] at X4 l4 y4 z4 st4 hQ4 hSq4 hgr4 CRq4
  subst l4 y4 z4
  obtain ⟨X4, hS4, hZ4, hown4⟩ := rebS hS0 hk0 X4 hSq4 (by rw [← e2]; exact hgr4) hZ hown
  have Sf_a0 := CRq4.safe E_a0.lt Sf_a0
  have CRt4 := CR0.trans CRq4
  have hCH := CRq4.1
  obtain ⟨nb_4, kb_4, rfl, N4q, Kq4, E_a0_p, F_value_a0_p, F_coder_a0_p, V_nb_4_p⟩ := hQ4
  have N4 := Fr.app N1 N4q
  have E_a0 := E_a0.keep Kq4
  have E_ch := E_ch.keep Kq4
  have K4 := K0.trans Kq4 (allS (P := fun x => x ∈ [a0] ∨ h0.size ≤ x) (Or.inl (List.mem_of_getElem? (i := 0) rfl)) all0)
  have zn4 : n0 ≤ T4.heap.size := Nat.le_trans Z0 Kq4.1
  have hk4 := Nat.le_trans hk0 Kq4.1
  have E_a0 := E_a0_p
  have F_value_a0 := F_value_a0_p
  have F_coder_a0 := F_coder_a0_p
  have V_nb_4 := V_nb_4_p
  refine og (T4.setTop (mkF m 15 #[.val (.ref a0), .val (.ref a1), .val (.ref ch)] [])) ?_ (fun tX kX => st4.trans kX)
  have CRe := CRt4.trans (CHv.at X4 hZ4 own_ew hCH)
  refine OGo.retWH X4 hS4 (Nat.le_refl _) (v := none) (fun _ => rfl) (BodyLoose.notSynchronized Bd) (fun fs hr => X4.returnOut hx Bd.returns (hb hby d2_15) hr) (Q := Q2E Z a0 a1 ch u2 kc h0 n0) ?_ (by rw [hh]; exact CRe) (by decide) (by decide)
  show Q2E Z a0 a1 ch u2 kc h0 n0 _ T4.heap _
  exact ⟨nb_4, kb_4, rfl, N4, K4, E_a0, F_value_a0, F_coder_a0, V_nb_4⟩
def Q1E (Z : State) (a0 : Addr) (ch : Addr) (kc : ClassId) (h0 : Heap) (n0 : Nat) (v : Option Value) (h : Heap) (L : List Loc) : Prop := ∃ (sb : Addr) (nb : Addr) (kb : ClassId), v = some (.ref sb) ∧ Fr n0 L ∧ Keep h0 h [] ∧ h0.size ≤ sb ∧ Exa Z h sb "java/lang/String" ∧ Fld Z h sb "java/lang/String" "value" "[B" (.ref nb) ∧ Fld Z h sb "java/lang/String" "coder" "B" (.int 0) ∧ Arv Z h nb kb .byte (0 : Int32) [] (.int 0)
def P1E (Z : State) (a0 : Addr) (ch : Addr) (kc : ClassId) (h0 : Heap) (n0 : Nat) (s : State) (o : Outcome) (U' : State) : Prop := ∃ v L, o = .returned v ∧ Q1E Z a0 ch kc h0 n0 v U'.heap L ∧ CHr Z own_EL s.vm s.heap U'.vm U'.heap ∧ ReturnedEndW s o U' L oR19.cells oR19.slots
set_option maxRecDepth 65536 in
set_option maxHeartbeats 40000000 in
theorem rm1E (l : Launch) (Z : State) (aV : Array Value) (hw : ∀ d ∈ tables_1, d.before aV Z = true) (ws : List Jvm.Cond) (a0 : Addr) (ch : Addr) (kc : ClassId) (h0 : Heap) (n0 : Nat) (Z0 : n0 ≤ h0.size) (S_UTF_8 : Sta Z h0 "java/nio/charset/StandardCharsets" "UTF_8" "Ljava/nio/charset/Charset;" (.ref ch)) (E_ch : Exa Z h0 ch "sun/nio/cs/UTF_8") (V_a0 : Arv Z h0 a0 kc .byte (0 : Int32) [] (.int 0)) :
    MetFree l oM41 (head1 (Jvm.Cond.code oM41 prog_6_method_12_code 1 (some (.object "java/lang/String")) :: ws) oR19) (fun a U => a = #[(.ref a0)] ∧ Z.Warmed39 U.vm ∧ U.heap = h0 ∧ CHv Z own_EL U.vm h0) (fun _ _ _ _ _ => True) (fun _ U o U' => ∃ v L, o = .returned v ∧ Q1E Z a0 ch kc h0 n0 v U'.heap L ∧ CHr Z own_EL U.vm U.heap U'.vm U'.heap ∧ ReturnedEndW U o U' L oR19.cells oR19.slots) := by
  refine MetFree.of_bodySF (plainFor_of_name pn_com_example_claimward_claimward_keys_KeyLocation) hisR ?_
  intro p e s m args below meth c s₁ Bd hml0 hP hK
  obtain ⟨rfl, hZ, hh, hCH⟩ := hP
  have hx := Bd.exec
  have hby := Bd.bytes
  have hml : c.maxLocals = 1 := hml0
  have hown : s.vm.findClass "com/example/claimward/claimward/keys/KeyLocation" = some m.cls := findClass_of_methodNamed Bd.named
  have hnm := (name_of_methodNamed Bd.named Bd.method).1
  have X0 : Stand p l e oR19 s m #[(.ref a0)] below meth c s₁ [] 0 0 := Stand.of_body Bd
  have e0 : s₁.heap = h0 := by rw [← hh, Bd.state]; rfl
  have X0 : Stand p l e oR19 (s.setVm s.vm) m #[(.ref a0)] below meth c s₁ [] 0 0 := X0
  have hZ : Z.Warmed39 (s.setVm s.vm).vm := hZ
  have hown : (s.setVm s.vm).vm.findClass "com/example/claimward/claimward/keys/KeyLocation" = some m.cls := hown
  have hS0 : s.Since s.vm 0 := (State.WarmedH.refl s).since 0
  have hk0 : 0 ≤ h0.size := Nat.zero_le _
  have own_ew := own_ewT hw
  have own_wS := own_wST hw
  have efx : entryFrame m #[(.ref a0)] 1 = mkF m 0 #[.val (.ref a0)] [] := by first | (simp [entryFrame, mkF, argsToLocals, Value.category]; done) | rfl
  have CR0 : CHr Z own_EL s.vm h0 s.vm h0 := CHr.refl hCH
  have N0 := Fr.nil n0
  have K0 : Keep h0 h0 [] := Keep.refl h0 _
  refine OGo.start (g' := mkF m 0 #[.val (.ref a0)] []) (efx) ?_
  show OGo p.tables e below (P1E Z a0 ch kc h0 n0 s) (s₁.setTop (mkF m 0 #[.val (.ref a0)] []))
  refine og (s₁.setTop (mkF m 1 #[.val (.ref a0)] [(.ref a0)])) ?_ (fun tX kX => XS.aloadN X0.here hx rfl (hb hby d1_0) rfl rfl kX)
  obtain ⟨cl1, Ar1, qa1, S1, N1', H1, G1⟩ := id V_a0
  refine OGo.go (B := s₁.setTop (mkF m 2 #[.val (.ref a0)] [(.int 0)])) ?_ (fun tX kX => X0.arraylength hx (by rw [e0]; exact Ar1.1) (State.isArrayOf_alike hZ.alike Ar1.2.1) (g := (mkF m 1 #[.val (.ref a0)] [(.ref a0)])) rfl rfl (hb hby d1_1) _ (by rw [len_of S1 N1']; exact kX))
  refine og (s₁.setTop (mkF m 17 #[.val (.ref a0)] [])) ?_ (fun tX kX => X0.ldcInt hx hown (mvT hZ (oW hw 6 rfl)) (g := (mkF m 2 #[.val (.ref a0)] [(.int 0)])) rfl (hb hby d1_2) _ (XS.icmpYes X0.here hx rfl (pc0 := 4) (pc' := 17) rfl (hb hby d1_4) rfl (flt (by decide)).2.2.2 (by decide) (by decide) kX))
  obtain ⟨T2, h2, X2, e2, E2, A2, D2, C2, st2⟩ := newO X0 hx hZ hown (oW hw 7 rfl) (oW hw 8 rfl) (oW hw 9 rfl) e0 (g := (mkF m 17 #[.val (.ref a0)] [])) rfl (hb hby d1_17) (by decide) (by decide)
  obtain ⟨b2, g2⟩ : ∃ z, z = h0.size := ⟨_, rfl⟩
  rw [← g2] at A2 D2 st2 C2
  have ne_ch_b2 : ch ≠ b2 := Nat.ne_of_lt (Nat.lt_of_lt_of_le E_ch.lt (Nat.le_of_eq g2.symm))
  have ne_a0_b2 : a0 ≠ b2 := Nat.ne_of_lt (Nat.lt_of_lt_of_le V_a0.lt (Nat.le_of_eq g2.symm))
  have CHo2 := hCH
  have CR2 := CR0.trans (CHr.ext E2 CHo2)
  have hCH := CHv.ext E2 CHo2
  have S_UTF_8 := S_UTF_8.ext E2
  have E_ch := E_ch.ext E2
  have V_a0 := V_a0.ext E2
  have Sf_b2 : Safe Z own_EL s.vm h2 b2 := Safe.ext E2 CHo2 (Safe.new (Nat.le_of_eq g2.symm))
  have g_b2 : n0 ≤ b2 := Nat.le_trans Z0 (Nat.le_of_eq g2.symm)
  have sz_b2 : h0.size ≤ b2 := Nat.le_trans K0.1 (Nat.le_of_eq g2.symm)
  have zn2 : n0 ≤ h2.size := Nat.le_trans Z0 E2.1
  have hk2 := Nat.le_trans hk0 E2.1
  have K2 := K0.ext E2
  have E_b2 := A2
  have F_value_b2 : Fld Z h2 b2 "java/lang/String" "value" "[B" .null := D2 (Or.inr (oW hw 49 rfl)) (ty := (.array .byte)) (by decide)
  have F_coder_b2 : Fld Z h2 b2 "java/lang/String" "coder" "B" (.int 0) := D2 (Or.inr (oW hw 51 rfl)) (ty := .byte) (by decide)
  refine og (T2.setTop (mkF m 20 #[.val (.ref a0)] [(.ref b2)])) ?_ st2
  refine og (T2.setTop (mkF m 22 #[.val (.ref a0)] [(.ref a0), (.ref b2), (.ref b2)])) ?_ (fun tX kX => XS.dup X2.here hx rfl (hb hby d1_20) rfl rfl (XS.aloadN X2.here hx rfl (hb hby d1_21) rfl rfl kX))
  obtain ⟨T3, X3, e3, st3⟩ := getS2 X2 hx hZ hown (host := "") (Or.inl (oW hw 10 rfl)) Via.refl e2 S_UTF_8 (g := (mkF m 22 #[.val (.ref a0)] [(.ref a0), (.ref b2), (.ref b2)])) rfl (hb hby d1_22)
  refine og (T3.setTop (mkF m 25 #[.val (.ref a0)] [(.ref ch), (.ref a0), (.ref b2), (.ref b2)])) ?_ st3
  obtain ⟨_, _, ⟨T4, L4, k4, n4⟩, -, X4, hSq4, hgr4, ⟨Lc4, hQ4, l4, y4, z4, CRq4⟩, st4⟩ := X3.specialBackS hx (y := oM40) rfl hown (mvT hZ (oW hw 12 rfl)) (mvT hZ (oW hw 13 rfl)) (mvT hZ (oW hw 14 rfl)) (by decide) (backOfSH (W := 1) (rm2E l Z aV hw [] b2 a0 ch (.int 0) kc h2 n0 zn2 E_b2 F_value_b2 F_coder_b2 E_ch V_a0 g_b2) hZ (oW hw 14 rfl) (oW hw 9 rfl) (by decide) (by decide) own_ew hCH) (g := (mkF m 25 #[.val (.ref a0)] [(.ref ch), (.ref a0), (.ref b2), (.ref b2)])) rfl (by rw [hml]; rfl) (Steps.refl _) (a := b2) (argsL := [(.ref a0), (.ref ch)]) (rest := [(.ref b2)]) (lenOf pd___BLjava_nio_charset_Charset__V rfl) rfl (by show 2 * 0 + _ ≤ _; exact Nat.le_of_eq rfl) (hb hby d1_25) (fun _ _ => ⟨rfl, e3, (by decide : 1 + 2 ≤ _), (by decide : 4 + 4 ≤ _)⟩)
  dsimp only [Pt.U, Pt.locs, Pt.cells, Pt.slots] at X4 l4 y4 z4 st4 hQ4 hSq4 hgr4 CRq4
  subst l4 y4 z4
  obtain ⟨X4, hS4, hZ4, hown4⟩ := rebS hS0 hk2 X4 hSq4 (by rw [← e3]; exact hgr4) hZ hown
  have Sf_b2 := CRq4.safe E_b2.lt Sf_b2
  have CRt4 := CR2.trans CRq4
  have hCH := CRq4.1
  obtain ⟨nb_4, kb_4, rfl, N4q, Kq4, E_b2_p, F_value_b2_p, F_coder_b2_p, V_nb_4_p⟩ := hQ4
  have N4 := Fr.app N0 N4q
  have S_UTF_8 := Sta.keepE S_UTF_8 Kq4 (staS E_b2.cell (fun x hx' => nomatch hx'))
  have E_ch := E_ch.keep Kq4
  have V_a0 := V_a0.keep Kq4 (ninS ne_a0_b2 nin0)
  have E_b2 := E_b2.keep Kq4
  have K4 := K2.trans Kq4 (allS (P := fun x => x ∈ ([] : List Addr) ∨ h0.size ≤ x) (Or.inr sz_b2) all0)
  have zn4 : n0 ≤ T4.heap.size := Nat.le_trans zn2 Kq4.1
  have hk4 := Nat.le_trans hk2 Kq4.1
  have E_b2 := E_b2_p
  have F_value_b2 := F_value_b2_p
  have F_coder_b2 := F_coder_b2_p
  have V_nb_4 := V_nb_4_p
  refine og (T4.setTop (mkF m 28 #[.val (.ref a0)] [(.ref b2)])) ?_ (fun tX kX => st4.trans kX)
  have CRe := CRt4.trans (CHv.at X4 hZ4 own_ew hCH)
  refine OGo.retWH X4 hS4 (Nat.le_refl _) (v := (some (.ref b2))) (fun h => by rw [Bd.returns] at h; cases h) (BodyLoose.notSynchronized Bd) (fun fs hr => retOut X4 hx Bd.returns rfl (Or.inr (Or.inr (Or.inr (Or.inr ⟨rfl, rfl, rfl⟩)))) (hb hby d1_28) hr) (Q := Q1E Z a0 ch kc h0 n0) ?_ (by rw [hh]; exact CRe) (by decide) (by decide)
  show Q1E Z a0 ch kc h0 n0 _ T4.heap _
  exact ⟨b2, nb_4, kb_4, rfl, N4, K4, sz_b2, E_b2, F_value_b2, F_coder_b2, V_nb_4⟩
theorem pd___B_Ljava_lang_String_ : parseMethodDescriptor "([B)Ljava/lang/String;" = some ⟨[(.array .byte)], some (.object "java/lang/String")⟩ := by decide +kernel
theorem pd__Ljava_lang_String_CC_Z : parseMethodDescriptor "(Ljava/lang/String;CC)Z" = some ⟨[(.object "java/lang/String"), .char, .char], some .boolean⟩ := by decide +kernel
def Q0 (Z : State) (p0 : Int32) (p1 : Int32) (p2 : Int32) (ch : Addr) (cs : Int32) (fv : Value) (h0 : Heap) (n0 : Nat) (v : Option Value) (h : Heap) (L : List Loc) : Prop := v = some (.int 1) ∧ Fr n0 L
def P0 (Z : State) (p0 : Int32) (p1 : Int32) (p2 : Int32) (ch : Addr) (cs : Int32) (fv : Value) (h0 : Heap) (n0 : Nat) (s : State) (o : Outcome) (U' : State) : Prop := ∃ v L, o = .returned v ∧ Q0 Z p0 p1 p2 ch cs fv h0 n0 v U'.heap L ∧ ReturnedEndW s o U' L room_1.cells room_1.slots
set_option maxRecDepth 65536 in
set_option maxHeartbeats 40000000 in
theorem rm0 (l : Launch) (Z : State) (aV : Array Value) (hw : ∀ d ∈ tables_1, d.before aV Z = true) (ws : List Jvm.Cond) (p0 : Int32) (p1 : Int32) (p2 : Int32) (ch : Addr) (cs : Int32) (fv : Value) (h0 : Heap) (n0 : Nat) (Z0 : n0 ≤ h0.size) (S_INSTANCE : Sta Z h0 "sun/nio/cs/UTF_8" "INSTANCE" "Lsun/nio/cs/UTF_8;" (.ref ch)) (S_UTF_8 : Sta Z h0 "java/nio/charset/StandardCharsets" "UTF_8" "Ljava/nio/charset/Charset;" (.ref ch)) (E_ch : Exa Z h0 ch "sun/nio/cs/UTF_8") (S_COMPACT_STRINGS : Sta Z h0 "java/lang/String" "COMPACT_STRINGS" "Z" (.int cs)) (S_SIOOBE_FORMATTER : Sta Z h0 "jdk/internal/util/Preconditions" "SIOOBE_FORMATTER" "Ljava/util/function/BiFunction;" fv) (S__assertionsDisabled : Sta Z h0 "java/lang/StringUTF16" "$assertionsDisabled" "Z" (.int 1)) (S_HI_BYTE_SHIFT : Sta Z h0 "java/lang/StringUTF16" "HI_BYTE_SHIFT" "I" (.int 0)) (S_LO_BYTE_SHIFT : Sta Z h0 "java/lang/StringUTF16" "LO_BYTE_SHIFT" "I" (.int 8)) (hcs : ¬ cs = 0) (hfv : fv.isRef = true) :
    MetFree l x (head1 (Jvm.Cond.code x code maxLocals ret :: ws) room_1) (fun a U => a = #[(.int p0), (.int p1), (.int p2)] ∧ Z.Warmed39 U.vm ∧ U.heap = h0 ∧ CHv Z own_EL U.vm h0) (fun _ _ _ _ _ => True) (fun _ U o U' => ∃ v L, o = .returned v ∧ Q0 Z p0 p1 p2 ch cs fv h0 n0 v U'.heap L ∧ ReturnedEndW U o U' L room_1.cells room_1.slots) := by
  refine MetFree.of_bodySF (plainFor_of_name pn_com_example_claimward_claimward_keys_KeyLocationTextPinLaw) hisR ?_
  intro p e s m args below meth c s₁ Bd hml0 hP hK
  obtain ⟨rfl, hZ, hh, hCH⟩ := hP
  have hx := Bd.exec
  have hby := Bd.bytes
  have hml : c.maxLocals = 11 := hml0
  have hown : s.vm.findClass "com/example/claimward/claimward/keys/KeyLocationTextPinLaw" = some m.cls := findClass_of_methodNamed Bd.named
  have hnm := (name_of_methodNamed Bd.named Bd.method).1
  have X0 : Stand p l e room_1 s m #[(.int p0), (.int p1), (.int p2)] below meth c s₁ [] 0 0 := Stand.of_body Bd
  have e0 : s₁.heap = h0 := by rw [← hh, Bd.state]; rfl
  have X0 : Stand p l e room_1 (s.setVm s.vm) m #[(.int p0), (.int p1), (.int p2)] below meth c s₁ [] 0 0 := X0
  have hZ : Z.Warmed39 (s.setVm s.vm).vm := hZ
  have hown : (s.setVm s.vm).vm.findClass "com/example/claimward/claimward/keys/KeyLocationTextPinLaw" = some m.cls := hown
  have hS0 : s.Since s.vm 0 := (State.WarmedH.refl s).since 0
  have hk0 : 0 ≤ h0.size := Nat.zero_le _
  have own_ew := own_ewT hw
  have own_wS := own_wST hw
  have efx : entryFrame m #[(.int p0), (.int p1), (.int p2)] maxLocals = mkF m 0 #[.val (.int p0), .val (.int p1), .val (.int p2), .unset, .unset, .unset, .unset, .unset, .unset, .unset, .unset] [] := by first | (simp [entryFrame, mkF, argsToLocals, Value.category, maxLocals]; done) | rfl
  have N0 := Fr.nil n0
  have K0 : Keep h0 h0 [] := Keep.refl h0 _
  refine OGo.start (g' := mkF m 0 #[.val (.int p0), .val (.int p1), .val (.int p2), .unset, .unset, .unset, .unset, .unset, .unset, .unset, .unset] []) (efx) ?_
  show OGo p.tables e below (P0 Z p0 p1 p2 ch cs fv h0 n0 s) (s₁.setTop (mkF m 0 #[.val (.int p0), .val (.int p1), .val (.int p2), .unset, .unset, .unset, .unset, .unset, .unset, .unset, .unset] []))
  refine og (s₁.setTop (mkF m 8 #[.val (.int p0), .val (.int p1), .val (.int p2), .val (.int ((p0 &&& (2147483647 : Int32)) % (6 : Int32))), .unset, .unset, .unset, .unset, .unset, .unset, .unset] [])) ?_ (fun tX kX => XS.iloadN X0.here hx rfl (hb hby at_0) rfl (X0.ldcInt hx hown (mvT hZ (oW hw 0 rfl)) (g := (mkF m 1 #[.val (.int p0), .val (.int p1), .val (.int p2), .unset, .unset, .unset, .unset, .unset, .unset, .unset, .unset] [(.int p0)])) rfl (hb hby at_1) _ (XS.iand X0.here hx rfl (hb hby at_3) rfl (XS.bipush X0.here hx rfl (hb hby at_4) (iremM X0 hx rfl (hb hby at_6) rfl (by decide) (XS.istoreN X0.here hx rfl (hb hby at_7) rfl (l' := #[.val (.int p0), .val (.int p1), .val (.int p2), .val (.int ((p0 &&& (2147483647 : Int32)) % (6 : Int32))), .unset, .unset, .unset, .unset, .unset, .unset, .unset]) rfl kX))))))
  refine og (s₁.setTop (mkF m 16 #[.val (.int p0), .val (.int p1), .val (.int p2), .val (.int ((p0 &&& (2147483647 : Int32)) % (6 : Int32))), .val (.int ((p2 &&& (127 : Int32)).toUInt32.toUInt16.toUInt32.toInt32)), .unset, .unset, .unset, .unset, .unset, .unset] [(.int p2)])) ?_ (fun tX kX => XS.iloadN X0.here hx rfl (hb hby at_8) rfl (XS.bipush X0.here hx rfl (hb hby at_9) (XS.iand X0.here hx rfl (hb hby at_11) rfl (XS.i2c X0.here hx rfl (hb hby at_12) rfl (XS.istore X0.here hx rfl (hb hby at_13) rfl (l' := #[.val (.int p0), .val (.int p1), .val (.int p2), .val (.int ((p0 &&& (2147483647 : Int32)) % (6 : Int32))), .val (.int ((p2 &&& (127 : Int32)).toUInt32.toUInt16.toUInt32.toInt32)), .unset, .unset, .unset, .unset, .unset, .unset]) rfl (XS.iloadN X0.here hx rfl (hb hby at_15) rfl kX))))))
  refine og (s₁.setTop (mkF m 22 #[.val (.int p0), .val (.int p1), .val (.int p2), .val (.int ((p0 &&& (2147483647 : Int32)) % (6 : Int32))), .val (.int ((p2 &&& (127 : Int32)).toUInt32.toUInt16.toUInt32.toInt32)), .val (.int ((p2 &&& (127 : Int32)).toInt8.toInt32)), .unset, .unset, .unset, .unset, .unset] [])) ?_ (fun tX kX => XS.bipush X0.here hx rfl (hb hby at_16) (XS.iand X0.here hx rfl (hb hby at_18) rfl (XS.i2b X0.here hx rfl (hb hby at_19) rfl (XS.istore X0.here hx rfl (hb hby at_20) rfl (l' := #[.val (.int p0), .val (.int p1), .val (.int p2), .val (.int ((p0 &&& (2147483647 : Int32)) % (6 : Int32))), .val (.int ((p2 &&& (127 : Int32)).toUInt32.toUInt16.toUInt32.toInt32)), .val (.int ((p2 &&& (127 : Int32)).toInt8.toInt32)), .unset, .unset, .unset, .unset, .unset]) rfl kX))))
  obtain ⟨tv, etc, etb, etbb, hT, hgt, hlt⟩ := own_t p2
  rw [etc, etb]
  refine og (s₁.setTop (mkF m 29 #[.val (.int p0), .val (.int p1), .val (.int p2), .val (.int ((p0 &&& (2147483647 : Int32)) % (6 : Int32))), .val (.int tv), .val (.int tv), .val (.int (p1 &&& (2147483647 : Int32))), .unset, .unset, .unset, .unset] [(.int ((p0 &&& (2147483647 : Int32)) % (6 : Int32)))])) ?_ (fun tX kX => XS.iloadN X0.here hx rfl (hb hby at_22) rfl (X0.ldcInt hx hown (mvT hZ (oW hw 0 rfl)) (g := (mkF m 23 #[.val (.int p0), .val (.int p1), .val (.int p2), .val (.int ((p0 &&& (2147483647 : Int32)) % (6 : Int32))), .val (.int tv), .val (.int tv), .unset, .unset, .unset, .unset, .unset] [(.int p1)])) rfl (hb hby at_23) _ (XS.iand X0.here hx rfl (hb hby at_25) rfl (XS.istore X0.here hx rfl (hb hby at_26) rfl (l' := #[.val (.int p0), .val (.int p1), .val (.int p2), .val (.int ((p0 &&& (2147483647 : Int32)) % (6 : Int32))), .val (.int tv), .val (.int tv), .val (.int (p1 &&& (2147483647 : Int32))), .unset, .unset, .unset, .unset]) rfl (XS.iloadN X0.here hx rfl (hb hby at_28) rfl kX)))))
  by_cases hc29 : ((p0 &&& (2147483647 : Int32)) % (6 : Int32)) = (0 : Int32)
  ·
    refine og (s₁.setTop (mkF m 40 #[.val (.int p0), .val (.int p1), .val (.int p2), .val (.int ((p0 &&& (2147483647 : Int32)) % (6 : Int32))), .val (.int tv), .val (.int tv), .val (.int (p1 &&& (2147483647 : Int32))), .val (.int (p1 &&& (255 : Int32))), .unset, .unset, .unset] [(.int 2)])) ?_ (fun tX kX => XS.ifNo X0.here hx rfl (hb hby at_29) rfl ((if0 _ _).trans (teq hc29).2) (XS.iloadN X0.here hx rfl (hb hby at_32) rfl (XS.sipush X0.here hx rfl (hb hby at_33) (XS.iand X0.here hx rfl (hb hby at_36) rfl (XS.istore X0.here hx rfl (hb hby at_37) rfl (l' := #[.val (.int p0), .val (.int p1), .val (.int p2), .val (.int ((p0 &&& (2147483647 : Int32)) % (6 : Int32))), .val (.int tv), .val (.int tv), .val (.int (p1 &&& (2147483647 : Int32))), .val (.int (p1 &&& (255 : Int32))), .unset, .unset, .unset]) rfl (XS.iconst X0.here hx rfl (hb hby at_39) kX))))))
    obtain ⟨T1, h1, k1, X1, e1, E1, A1, EA1, st1⟩ := newPE X0 hx hZ (oW hw 1 rfl) e0 (g := (mkF m 40 #[.val (.int p0), .val (.int p1), .val (.int p2), .val (.int ((p0 &&& (2147483647 : Int32)) % (6 : Int32))), .val (.int tv), .val (.int tv), .val (.int (p1 &&& (2147483647 : Int32))), .val (.int (p1 &&& (255 : Int32))), .unset, .unset, .unset] [(.int 2)])) rfl (hb hby at_40) rfl (by decide) (cap := 2) (by decide) (by decide) (by decide) (by decide) (ad := "[B") (by decide)
    obtain ⟨b1, g1⟩ : ∃ z, z = h0.size := ⟨_, rfl⟩
    rw [← g1] at A1 EA1 st1
    have ne_ch_b1 : ch ≠ b1 := Nat.ne_of_lt (Nat.lt_of_lt_of_le E_ch.lt (Nat.le_of_eq g1.symm))
    have S_INSTANCE := S_INSTANCE.ext E1
    have S_UTF_8 := S_UTF_8.ext E1
    have E_ch := E_ch.ext E1
    have S_COMPACT_STRINGS := S_COMPACT_STRINGS.ext E1
    have S_SIOOBE_FORMATTER := S_SIOOBE_FORMATTER.ext E1
    have S__assertionsDisabled := S__assertionsDisabled.ext E1
    have S_HI_BYTE_SHIFT := S_HI_BYTE_SHIFT.ext E1
    have S_LO_BYTE_SHIFT := S_LO_BYTE_SHIFT.ext E1
    have g_b1 : n0 ≤ b1 := Nat.le_trans Z0 (Nat.le_of_eq g1.symm)
    have sz_b1 : h0.size ≤ b1 := Nat.le_trans K0.1 (Nat.le_of_eq g1.symm)
    have zn1 : n0 ≤ h1.size := Nat.le_trans Z0 E1.1
    have hk1 := Nat.le_trans hk0 E1.1
    have K1 := K0.ext E1
    have E_b1 := EA1
    have V_b1 : Arv Z h1 b1 k1 .byte (2 : Int32) [(.int 0), (.int 0)] (.int 0) := (Arv.new A1 (by decide)).pad (pad_rep [] (.int 0) 2)
    refine og (T1.setTop (mkF m 42 #[.val (.int p0), .val (.int p1), .val (.int p2), .val (.int ((p0 &&& (2147483647 : Int32)) % (6 : Int32))), .val (.int tv), .val (.int tv), .val (.int (p1 &&& (2147483647 : Int32))), .val (.int (p1 &&& (255 : Int32))), .unset, .unset, .unset] [(.ref b1)])) ?_ st1
    refine og (T1.setTop (mkF m 47 #[.val (.int p0), .val (.int p1), .val (.int p2), .val (.int ((p0 &&& (2147483647 : Int32)) % (6 : Int32))), .val (.int tv), .val (.int tv), .val (.int (p1 &&& (2147483647 : Int32))), .val (.int (p1 &&& (255 : Int32))), .unset, .unset, .unset] [(.int ((p1 &&& (255 : Int32)).toInt8.toInt32)), (.int 0), (.ref b1), (.ref b1)])) ?_ (fun tX kX => XS.dup X1.here hx rfl (hb hby at_42) rfl rfl (XS.iconst X1.here hx rfl (hb hby at_43) (XS.iload X1.here hx rfl (hb hby at_44) rfl (XS.i2b X1.here hx rfl (hb hby at_46) rfl kX))))
    obtain ⟨cl2, Ar2, qa2, S2, N2', H2, G2⟩ := id V_b1
    have hin2 := inb_of (j := (0 : Int32)) S2 ⟨by decide, by decide⟩
    obtain ⟨T2, h2, X2, e2, W2, st2⟩ := stB X1 hx hZ e1 Ar2 (j := (0 : Int32)) hin2 (g := (mkF m 47 #[.val (.int p0), .val (.int p1), .val (.int p2), .val (.int ((p0 &&& (2147483647 : Int32)) % (6 : Int32))), .val (.int tv), .val (.int tv), .val (.int (p1 &&& (2147483647 : Int32))), .val (.int (p1 &&& (255 : Int32))), .unset, .unset, .unset] [(.int ((p1 &&& (255 : Int32)).toInt8.toInt32)), (.int 0), (.ref b1), (.ref b1)])) rfl rfl (hb hby at_47)
    have V_b1_2 := Arv.set Ar2 qa2 S2 N2' H2 G2 (fits_nar_byte _) W2 0 rfl (Nat.le_of_ble_eq_true rfl)
    have S_INSTANCE := S_INSTANCE.wr W2
    have S_UTF_8 := S_UTF_8.wr W2
    have E_ch := E_ch.wr W2
    have S_COMPACT_STRINGS := S_COMPACT_STRINGS.wr W2
    have S_SIOOBE_FORMATTER := S_SIOOBE_FORMATTER.wr W2
    have S__assertionsDisabled := S__assertionsDisabled.wr W2
    have S_HI_BYTE_SHIFT := S_HI_BYTE_SHIFT.wr W2
    have S_LO_BYTE_SHIFT := S_LO_BYTE_SHIFT.wr W2
    have E_b1 := E_b1.wr W2
    have K2 := K1.wr W2 (Or.inr sz_b1)
    have zn2 : n0 ≤ h2.size := Nat.le_trans zn1 (Keep.of_wr W2).1
    have hk2 := Nat.le_trans hk1 (Keep.of_wr W2).1
    have N2 := Fr.snoc X2 N0 g_b1
    have V_b1 : Arv Z h2 b1 k1 .byte (2 : Int32) [(.int (((p1 &&& (255 : Int32)).toInt8.toInt32).toInt8.toInt32)), (.int 0)] (.int 0) := V_b1_2
    refine og (T2.setTop (mkF m 48 #[.val (.int p0), .val (.int p1), .val (.int p2), .val (.int ((p0 &&& (2147483647 : Int32)) % (6 : Int32))), .val (.int tv), .val (.int tv), .val (.int (p1 &&& (2147483647 : Int32))), .val (.int (p1 &&& (255 : Int32))), .unset, .unset, .unset] [(.ref b1)])) ?_ st2
    refine og (T2.setTop (mkF m 52 #[.val (.int p0), .val (.int p1), .val (.int p2), .val (.int ((p0 &&& (2147483647 : Int32)) % (6 : Int32))), .val (.int tv), .val (.int tv), .val (.int (p1 &&& (2147483647 : Int32))), .val (.int (p1 &&& (255 : Int32))), .unset, .unset, .unset] [(.int tv), (.int 1), (.ref b1), (.ref b1)])) ?_ (fun tX kX => XS.dup X2.here hx rfl (hb hby at_48) rfl rfl (XS.iconst X2.here hx rfl (hb hby at_49) (XS.iload X2.here hx rfl (hb hby at_50) rfl kX)))
    obtain ⟨cl3, Ar3, qa3, S3, N3', H3, G3⟩ := id V_b1
    have hin3 := inb_of (j := (1 : Int32)) S3 ⟨by decide, by decide⟩
    obtain ⟨T3, h3, X3, e3, W3, st3⟩ := stB X2 hx hZ e2 Ar3 (j := (1 : Int32)) hin3 (g := (mkF m 52 #[.val (.int p0), .val (.int p1), .val (.int p2), .val (.int ((p0 &&& (2147483647 : Int32)) % (6 : Int32))), .val (.int tv), .val (.int tv), .val (.int (p1 &&& (2147483647 : Int32))), .val (.int (p1 &&& (255 : Int32))), .unset, .unset, .unset] [(.int tv), (.int 1), (.ref b1), (.ref b1)])) rfl rfl (hb hby at_52)
    have V_b1_3 := Arv.set Ar3 qa3 S3 N3' H3 G3 (fits_nar_byte _) W3 1 rfl (Nat.le_of_ble_eq_true rfl)
    have S_INSTANCE := S_INSTANCE.wr W3
    have S_UTF_8 := S_UTF_8.wr W3
    have E_ch := E_ch.wr W3
    have S_COMPACT_STRINGS := S_COMPACT_STRINGS.wr W3
    have S_SIOOBE_FORMATTER := S_SIOOBE_FORMATTER.wr W3
    have S__assertionsDisabled := S__assertionsDisabled.wr W3
    have S_HI_BYTE_SHIFT := S_HI_BYTE_SHIFT.wr W3
    have S_LO_BYTE_SHIFT := S_LO_BYTE_SHIFT.wr W3
    have E_b1 := E_b1.wr W3
    have K3 := K2.wr W3 (Or.inr sz_b1)
    have zn3 : n0 ≤ h3.size := Nat.le_trans zn2 (Keep.of_wr W3).1
    have hk3 := Nat.le_trans hk2 (Keep.of_wr W3).1
    have N3 := Fr.snoc X3 N2 g_b1
    have V_b1 : Arv Z h3 b1 k1 .byte (2 : Int32) [(.int (((p1 &&& (255 : Int32)).toInt8.toInt32).toInt8.toInt32)), (.int (tv.toInt8.toInt32))] (.int 0) := V_b1_3
    refine og (T3.setTop (mkF m 53 #[.val (.int p0), .val (.int p1), .val (.int p2), .val (.int ((p0 &&& (2147483647 : Int32)) % (6 : Int32))), .val (.int tv), .val (.int tv), .val (.int (p1 &&& (2147483647 : Int32))), .val (.int (p1 &&& (255 : Int32))), .unset, .unset, .unset] [(.ref b1)])) ?_ st3
    refine og (T3.setTop (mkF m 60 #[.val (.int p0), .val (.int p1), .val (.int p2), .val (.int ((p0 &&& (2147483647 : Int32)) % (6 : Int32))), .val (.int tv), .val (.int tv), .val (.int (p1 &&& (2147483647 : Int32))), .val (.int (p1 &&& (255 : Int32))), .val (.ref b1), .unset, .unset] [(.int 128), (.int (p1 &&& (255 : Int32)))])) ?_ (fun tX kX => XS.astore X3.here hx rfl (hb hby at_53) rfl rfl (l' := #[.val (.int p0), .val (.int p1), .val (.int p2), .val (.int ((p0 &&& (2147483647 : Int32)) % (6 : Int32))), .val (.int tv), .val (.int tv), .val (.int (p1 &&& (2147483647 : Int32))), .val (.int (p1 &&& (255 : Int32))), .val (.ref b1), .unset, .unset]) rfl (XS.iload X3.here hx rfl (hb hby at_55) rfl (XS.sipush X3.here hx rfl (hb hby at_57) kX)))
    by_cases hc60 : (p1 &&& (255 : Int32)) < (128 : Int32)
    ·
      refine og (T3.setTop (mkF m 75 #[.val (.int p0), .val (.int p1), .val (.int p2), .val (.int ((p0 &&& (2147483647 : Int32)) % (6 : Int32))), .val (.int tv), .val (.int tv), .val (.int (p1 &&& (2147483647 : Int32))), .val (.int (p1 &&& (255 : Int32))), .val (.ref b1), .val (.int ((p1 &&& (255 : Int32)).toUInt32.toUInt16.toUInt32.toInt32)), .unset] [(.ref b1)])) ?_ (fun tX kX => XS.icmpNo X3.here hx rfl (hb hby at_60) rfl (tlt hc60).2.1 (XS.iload X3.here hx rfl (hb hby at_63) rfl (XS.i2c X3.here hx rfl (hb hby at_65) rfl (XS.goto X3.here hx rfl (pc0 := 66) (pc' := 71) rfl (hb hby at_66) (by decide) (by decide) (XS.istore X3.here hx rfl (hb hby at_71) rfl (l' := #[.val (.int p0), .val (.int p1), .val (.int p2), .val (.int ((p0 &&& (2147483647 : Int32)) % (6 : Int32))), .val (.int tv), .val (.int tv), .val (.int (p1 &&& (2147483647 : Int32))), .val (.int (p1 &&& (255 : Int32))), .val (.ref b1), .val (.int ((p1 &&& (255 : Int32)).toUInt32.toUInt16.toUInt32.toInt32)), .unset]) rfl (XS.aload X3.here hx rfl (hb hby at_73) rfl rfl kX))))))
      have V_b1 : Arv Z h3 b1 k1 .byte (2 : Int32) [(.int (p1 &&& (255 : Int32))), (.int tv)] (.int 0) := by have q := V_b1; rw [(own_m0a _ hc60).1] at q; rw [hT.2.2.2.2.2.2] at q; exact q
      obtain ⟨_, _, ⟨T4, L4, k4, n4⟩, -, X4, ⟨Lc4, hQ4, l4, y4, z4⟩, st4⟩ := Jvm.LawKit.callS X3 hx (y := oM41) hown (mvT hZ (oW hw 2 rfl)) (mvT hZ (oW hw 3 rfl)) (mvT hZ (oW hw 4 rfl)) (mvT hZ (oW hw 5 rfl)) (by decide) (backOf (W := 0) (rm1G l Z aV hw [] b1 ch (2 : Int32) k1 [(.int (p1 &&& (255 : Int32))), (.int tv)] cs fv (0 : Int32) (2 : Int32) [(.int (p1 &&& (255 : Int32))), (.int tv)] h3 n0 zn3 S_INSTANCE S_COMPACT_STRINGS S_SIOOBE_FORMATTER S__assertionsDisabled S_HI_BYTE_SHIFT S_LO_BYTE_SHIFT S_UTF_8 E_ch E_b1 V_b1 (by decide) (fun a0 u1 u2 hX nX ZX q0 q1 q2 q3 q4 q5 q6 q7 q8 q9 q10 gX => rm4A2 l Z aV hw [] a0 ch b1 u1 u2 k1 (p1 &&& (255 : Int32)) tv cs fv hX nX ZX q0 q1 q2 q3 q4 q5 q6 q7 q8 q9 q10 gX hcs hfv (own_m0a _ hc60).2.1 hT.1)) hZ (oW hw 5 rfl) (oW hw 4 rfl) (by decide) (by decide)) (g := (mkF m 75 #[.val (.int p0), .val (.int p1), .val (.int p2), .val (.int ((p0 &&& (2147483647 : Int32)) % (6 : Int32))), .val (.int tv), .val (.int tv), .val (.int (p1 &&& (2147483647 : Int32))), .val (.int (p1 &&& (255 : Int32))), .val (.ref b1), .val (.int ((p1 &&& (255 : Int32)).toUInt32.toUInt16.toUInt32.toInt32)), .unset] [(.ref b1)])) rfl (by rw [hml]; rfl) (argsL := [(.ref b1)]) (rest := []) (lenOf pd___B_Ljava_lang_String_ rfl) rfl (by show 2 * 0 + _ ≤ _; exact Nat.le_of_eq rfl) (hb hby at_75) (fun _ _ => ⟨rfl, e3, (by decide : 1 + 5 ≤ _), (by decide : 2 + 44 ≤ _)⟩)
      dsimp only [Pt.U, Pt.locs, Pt.cells, Pt.slots] at X4 l4 y4 z4 st4 hQ4
      subst l4 y4 z4
      obtain ⟨sb_4, nb_4, kn_4, rfl, N4q, Kq4, sz4_sb, sz4_nb, E_sb_4_p, F_value_sb_4_p, F_coder_sb_4_p, V_nb_4_p⟩ := hQ4
      have N4 := Fr.app N3 N4q
      have ne_ch_sb_4 : ch ≠ sb_4 := Nat.ne_of_lt (Nat.lt_of_lt_of_le E_ch.lt sz4_sb)
      have ne_b1_sb_4 : b1 ≠ sb_4 := Nat.ne_of_lt (Nat.lt_of_lt_of_le E_b1.lt sz4_sb)
      have ne_ch_nb_4 : ch ≠ nb_4 := Nat.ne_of_lt (Nat.lt_of_lt_of_le E_ch.lt sz4_nb)
      have ne_b1_nb_4 : b1 ≠ nb_4 := Nat.ne_of_lt (Nat.lt_of_lt_of_le E_b1.lt sz4_nb)
      have S_INSTANCE := Sta.keep0 S_INSTANCE Kq4
      have S_UTF_8 := Sta.keep0 S_UTF_8 Kq4
      have S_COMPACT_STRINGS := Sta.keep0 S_COMPACT_STRINGS Kq4
      have S_SIOOBE_FORMATTER := Sta.keep0 S_SIOOBE_FORMATTER Kq4
      have S__assertionsDisabled := Sta.keep0 S__assertionsDisabled Kq4
      have S_HI_BYTE_SHIFT := Sta.keep0 S_HI_BYTE_SHIFT Kq4
      have S_LO_BYTE_SHIFT := Sta.keep0 S_LO_BYTE_SHIFT Kq4
      have E_ch := E_ch.keep Kq4
      have E_b1 := E_b1.keep Kq4
      have V_b1 := V_b1.keep Kq4 nin0
      have g_sb_4 : n0 ≤ sb_4 := Nat.le_trans zn3 sz4_sb
      have sz_sb_4 : h0.size ≤ sb_4 := Nat.le_trans K3.1 sz4_sb
      have g_nb_4 : n0 ≤ nb_4 := Nat.le_trans zn3 sz4_nb
      have sz_nb_4 : h0.size ≤ nb_4 := Nat.le_trans K3.1 sz4_nb
      have K4 := K3.trans Kq4 all0
      have zn4 : n0 ≤ T4.heap.size := Nat.le_trans zn3 Kq4.1
      have hk4 := Nat.le_trans hk3 Kq4.1
      have E_sb_4 := E_sb_4_p
      have F_value_sb_4 := F_value_sb_4_p
      have F_coder_sb_4 := F_coder_sb_4_p
      have V_nb_4 := V_nb_4_p
      refine og (T4.setTop (mkF m 78 #[.val (.int p0), .val (.int p1), .val (.int p2), .val (.int ((p0 &&& (2147483647 : Int32)) % (6 : Int32))), .val (.int tv), .val (.int tv), .val (.int (p1 &&& (2147483647 : Int32))), .val (.int (p1 &&& (255 : Int32))), .val (.ref b1), .val (.int ((p1 &&& (255 : Int32)).toUInt32.toUInt16.toUInt32.toInt32)), .unset] [(.ref sb_4)])) ?_ st4
      refine og (T4.setTop (mkF m 82 #[.val (.int p0), .val (.int p1), .val (.int p2), .val (.int ((p0 &&& (2147483647 : Int32)) % (6 : Int32))), .val (.int tv), .val (.int tv), .val (.int (p1 &&& (2147483647 : Int32))), .val (.int (p1 &&& (255 : Int32))), .val (.ref b1), .val (.int ((p1 &&& (255 : Int32)).toUInt32.toUInt16.toUInt32.toInt32)), .unset] [(.int tv), (.int ((p1 &&& (255 : Int32)).toUInt32.toUInt16.toUInt32.toInt32)), (.ref sb_4)])) ?_ (fun tX kX => XS.iload X4.here hx rfl (hb hby at_78) rfl (XS.iload X4.here hx rfl (hb hby at_80) rfl kX))
      obtain ⟨_, _, ⟨T5, L5, k5, n5⟩, -, X5, ⟨Lc5, hQ5, l5, y5, z5⟩, st5⟩ := Jvm.LawKit.callS X4 hx (y := oM26) hown (mvT hZ (oW hw 52 rfl)) (mvT hZ (oW hw 53 rfl)) (mvT hZ (oW hw 54 rfl)) (mvT hZ (oW hw 55 rfl)) (by decide) (backOf (W := 0) (rm8L l Z aV hw [] sb_4 ((p1 &&& (255 : Int32)).toUInt32.toUInt16.toUInt32.toInt32) tv nb_4 kn_4 (p1 &&& (255 : Int32)) tv cs fv T4.heap n0 zn4 E_sb_4 F_value_sb_4 F_coder_sb_4 V_nb_4 S_COMPACT_STRINGS S_SIOOBE_FORMATTER hcs hfv (own_m0a _ hc60).2.2 hlt) hZ (oW hw 55 rfl) (oW hw 54 rfl) (by decide) (by decide)) (g := (mkF m 82 #[.val (.int p0), .val (.int p1), .val (.int p2), .val (.int ((p0 &&& (2147483647 : Int32)) % (6 : Int32))), .val (.int tv), .val (.int tv), .val (.int (p1 &&& (2147483647 : Int32))), .val (.int (p1 &&& (255 : Int32))), .val (.ref b1), .val (.int ((p1 &&& (255 : Int32)).toUInt32.toUInt16.toUInt32.toInt32)), .unset] [(.int tv), (.int ((p1 &&& (255 : Int32)).toUInt32.toUInt16.toUInt32.toInt32)), (.ref sb_4)])) rfl (by rw [hml]; rfl) (argsL := [(.ref sb_4), (.int ((p1 &&& (255 : Int32)).toUInt32.toUInt16.toUInt32.toInt32)), (.int tv)]) (rest := []) (lenOf pd__Ljava_lang_String_CC_Z rfl) rfl (by show 2 * 0 + _ ≤ _; exact Nat.le_of_eq rfl) (hb hby at_82) (fun _ _ => ⟨rfl, rfl, (by decide : 6 + 0 ≤ _), (by decide : 46 + 0 ≤ _)⟩)
      dsimp only [Pt.U, Pt.locs, Pt.cells, Pt.slots] at X5 l5 y5 z5 st5 hQ5
      subst l5 y5 z5
      obtain ⟨rfl, N5q, e5⟩ := hQ5
      have N5 := Fr.app N4 N5q
      refine og (T5.setTop (mkF m 85 #[.val (.int p0), .val (.int p1), .val (.int p2), .val (.int ((p0 &&& (2147483647 : Int32)) % (6 : Int32))), .val (.int tv), .val (.int tv), .val (.int (p1 &&& (2147483647 : Int32))), .val (.int (p1 &&& (255 : Int32))), .val (.ref b1), .val (.int ((p1 &&& (255 : Int32)).toUInt32.toUInt16.toUInt32.toInt32)), .unset] [(.int 1)])) ?_ st5
      refine OGo.retW X5 hS0 (by rw [e5]; exact hk4) (v := (some (.int 1))) (fun h => by rw [Bd.returns] at h; cases h) (BodyLoose.notSynchronized Bd) (fun fs hr => retN X5 hx (t := .boolean) (z := (1 : Int32)) Bd.returns (by simp) (hb hby at_85) hr) (Q := Q0 Z p0 p1 p2 ch cs fv h0 n0) ?_ (by decide) (by decide)
      show Q0 Z p0 p1 p2 ch cs fv h0 n0 _ T5.heap _
      rw [e5]
      exact ⟨rfl, N5⟩
    ·
      refine og (T3.setTop (mkF m 75 #[.val (.int p0), .val (.int p1), .val (.int p2), .val (.int ((p0 &&& (2147483647 : Int32)) % (6 : Int32))), .val (.int tv), .val (.int tv), .val (.int (p1 &&& (2147483647 : Int32))), .val (.int (p1 &&& (255 : Int32))), .val (.ref b1), .val (.int 65533), .unset] [(.ref b1)])) ?_ (fun tX kX => XS.icmpYes X3.here hx rfl (pc0 := 60) (pc' := 69) rfl (hb hby at_60) rfl (flt hc60).2.1 (by decide) (by decide) (X3.ldcInt hx hown (mvT hZ (oW hw 169 rfl)) (g := (mkF m 69 #[.val (.int p0), .val (.int p1), .val (.int p2), .val (.int ((p0 &&& (2147483647 : Int32)) % (6 : Int32))), .val (.int tv), .val (.int tv), .val (.int (p1 &&& (2147483647 : Int32))), .val (.int (p1 &&& (255 : Int32))), .val (.ref b1), .unset, .unset] [])) rfl (hb hby at_69) _ (XS.istore X3.here hx rfl (hb hby at_71) rfl (l' := #[.val (.int p0), .val (.int p1), .val (.int p2), .val (.int ((p0 &&& (2147483647 : Int32)) % (6 : Int32))), .val (.int tv), .val (.int tv), .val (.int (p1 &&& (2147483647 : Int32))), .val (.int (p1 &&& (255 : Int32))), .val (.ref b1), .val (.int 65533), .unset]) rfl (XS.aload X3.here hx rfl (hb hby at_73) rfl rfl kX))))
      obtain ⟨xa, exa, hH⟩ : ∃ z, (((p1 &&& (255 : Int32)).toInt8.toInt32).toInt8.toInt32) = z ∧ z < 0 := ⟨_, rfl, own_m0b _ hc60⟩
      have V_b1 : Arv Z h3 b1 k1 .byte (2 : Int32) [(.int xa), (.int tv)] (.int 0) := by have q := V_b1; rw [exa] at q; rw [hT.2.2.2.2.2.2] at q; exact q
      obtain ⟨_, _, ⟨T6, L6, k6, n6⟩, -, X6, ⟨Lc6, hQ6, l6, y6, z6⟩, st6⟩ := Jvm.LawKit.callS X3 hx (y := oM41) hown (mvT hZ (oW hw 2 rfl)) (mvT hZ (oW hw 3 rfl)) (mvT hZ (oW hw 4 rfl)) (mvT hZ (oW hw 5 rfl)) (by decide) (backOf (W := 0) (rm1G l Z aV hw [] b1 ch (2 : Int32) k1 [(.int xa), (.int tv)] cs fv (1 : Int32) (4 : Int32) [(.int (own_lo (65533 : Int32))), (.int (own_hi (65533 : Int32))), (.int (own_lo tv)), (.int (own_hi tv))] h3 n0 zn3 S_INSTANCE S_COMPACT_STRINGS S_SIOOBE_FORMATTER S__assertionsDisabled S_HI_BYTE_SHIFT S_LO_BYTE_SHIFT S_UTF_8 E_ch E_b1 V_b1 (by decide) (fun a0 u1 u2 hX nX ZX q0 q1 q2 q3 q4 q5 q6 q7 q8 q9 q10 gX => rm4R l Z aV hw [] a0 ch b1 u1 u2 k1 xa tv cs fv hX nX ZX q0 q1 q2 q3 q4 q5 q6 q7 q8 q9 q10 gX hcs hfv hH hT)) hZ (oW hw 5 rfl) (oW hw 4 rfl) (by decide) (by decide)) (g := (mkF m 75 #[.val (.int p0), .val (.int p1), .val (.int p2), .val (.int ((p0 &&& (2147483647 : Int32)) % (6 : Int32))), .val (.int tv), .val (.int tv), .val (.int (p1 &&& (2147483647 : Int32))), .val (.int (p1 &&& (255 : Int32))), .val (.ref b1), .val (.int 65533), .unset] [(.ref b1)])) rfl (by rw [hml]; rfl) (argsL := [(.ref b1)]) (rest := []) (lenOf pd___B_Ljava_lang_String_ rfl) rfl (by show 2 * 0 + _ ≤ _; exact Nat.le_of_eq rfl) (hb hby at_75) (fun _ _ => ⟨rfl, e3, (by decide : 1 + 5 ≤ _), (by decide : 2 + 44 ≤ _)⟩)
      dsimp only [Pt.U, Pt.locs, Pt.cells, Pt.slots] at X6 l6 y6 z6 st6 hQ6
      subst l6 y6 z6
      obtain ⟨sb_6, nb_6, kn_6, rfl, N6q, Kq6, sz6_sb, sz6_nb, E_sb_6_p, F_value_sb_6_p, F_coder_sb_6_p, V_nb_6_p⟩ := hQ6
      have N6 := Fr.app N3 N6q
      have ne_ch_sb_6 : ch ≠ sb_6 := Nat.ne_of_lt (Nat.lt_of_lt_of_le E_ch.lt sz6_sb)
      have ne_b1_sb_6 : b1 ≠ sb_6 := Nat.ne_of_lt (Nat.lt_of_lt_of_le E_b1.lt sz6_sb)
      have ne_ch_nb_6 : ch ≠ nb_6 := Nat.ne_of_lt (Nat.lt_of_lt_of_le E_ch.lt sz6_nb)
      have ne_b1_nb_6 : b1 ≠ nb_6 := Nat.ne_of_lt (Nat.lt_of_lt_of_le E_b1.lt sz6_nb)
      have S_INSTANCE := Sta.keep0 S_INSTANCE Kq6
      have S_UTF_8 := Sta.keep0 S_UTF_8 Kq6
      have S_COMPACT_STRINGS := Sta.keep0 S_COMPACT_STRINGS Kq6
      have S_SIOOBE_FORMATTER := Sta.keep0 S_SIOOBE_FORMATTER Kq6
      have S__assertionsDisabled := Sta.keep0 S__assertionsDisabled Kq6
      have S_HI_BYTE_SHIFT := Sta.keep0 S_HI_BYTE_SHIFT Kq6
      have S_LO_BYTE_SHIFT := Sta.keep0 S_LO_BYTE_SHIFT Kq6
      have E_ch := E_ch.keep Kq6
      have E_b1 := E_b1.keep Kq6
      have V_b1 := V_b1.keep Kq6 nin0
      have g_sb_6 : n0 ≤ sb_6 := Nat.le_trans zn3 sz6_sb
      have sz_sb_6 : h0.size ≤ sb_6 := Nat.le_trans K3.1 sz6_sb
      have g_nb_6 : n0 ≤ nb_6 := Nat.le_trans zn3 sz6_nb
      have sz_nb_6 : h0.size ≤ nb_6 := Nat.le_trans K3.1 sz6_nb
      have K6 := K3.trans Kq6 all0
      have zn6 : n0 ≤ T6.heap.size := Nat.le_trans zn3 Kq6.1
      have hk6 := Nat.le_trans hk3 Kq6.1
      have E_sb_6 := E_sb_6_p
      have F_value_sb_6 := F_value_sb_6_p
      have F_coder_sb_6 := F_coder_sb_6_p
      have V_nb_6 := V_nb_6_p
      refine og (T6.setTop (mkF m 78 #[.val (.int p0), .val (.int p1), .val (.int p2), .val (.int ((p0 &&& (2147483647 : Int32)) % (6 : Int32))), .val (.int tv), .val (.int tv), .val (.int (p1 &&& (2147483647 : Int32))), .val (.int (p1 &&& (255 : Int32))), .val (.ref b1), .val (.int 65533), .unset] [(.ref sb_6)])) ?_ st6
      refine og (T6.setTop (mkF m 82 #[.val (.int p0), .val (.int p1), .val (.int p2), .val (.int ((p0 &&& (2147483647 : Int32)) % (6 : Int32))), .val (.int tv), .val (.int tv), .val (.int (p1 &&& (2147483647 : Int32))), .val (.int (p1 &&& (255 : Int32))), .val (.ref b1), .val (.int 65533), .unset] [(.int tv), (.int 65533), (.ref sb_6)])) ?_ (fun tX kX => XS.iload X6.here hx rfl (hb hby at_78) rfl (XS.iload X6.here hx rfl (hb hby at_80) rfl kX))
      obtain ⟨_, _, ⟨T7, L7, k7, n7⟩, -, X7, ⟨Lc7, hQ7, l7, y7, z7⟩, st7⟩ := Jvm.LawKit.callS X6 hx (y := oM26) hown (mvT hZ (oW hw 52 rfl)) (mvT hZ (oW hw 53 rfl)) (mvT hZ (oW hw 54 rfl)) (mvT hZ (oW hw 55 rfl)) (by decide) (backOf (W := 0) (rm8U l Z aV hw [] sb_6 (65533 : Int32) tv nb_6 kn_6 (65533 : Int32) tv cs fv T6.heap n0 zn6 E_sb_6 F_value_sb_6 F_coder_sb_6 V_nb_6 S_COMPACT_STRINGS S_SIOOBE_FORMATTER S__assertionsDisabled S_HI_BYTE_SHIFT S_LO_BYTE_SHIFT hcs hfv (own_gcv _ (by decide) (by decide)) hgt) hZ (oW hw 55 rfl) (oW hw 54 rfl) (by decide) (by decide)) (g := (mkF m 82 #[.val (.int p0), .val (.int p1), .val (.int p2), .val (.int ((p0 &&& (2147483647 : Int32)) % (6 : Int32))), .val (.int tv), .val (.int tv), .val (.int (p1 &&& (2147483647 : Int32))), .val (.int (p1 &&& (255 : Int32))), .val (.ref b1), .val (.int 65533), .unset] [(.int tv), (.int 65533), (.ref sb_6)])) rfl (by rw [hml]; rfl) (argsL := [(.ref sb_6), (.int 65533), (.int tv)]) (rest := []) (lenOf pd__Ljava_lang_String_CC_Z rfl) rfl (by show 2 * 0 + _ ≤ _; exact Nat.le_of_eq rfl) (hb hby at_82) (fun _ _ => ⟨rfl, rfl, (by decide : 6 + 0 ≤ _), (by decide : 46 + 0 ≤ _)⟩)
      dsimp only [Pt.U, Pt.locs, Pt.cells, Pt.slots] at X7 l7 y7 z7 st7 hQ7
      subst l7 y7 z7
      obtain ⟨rfl, N7q, e7⟩ := hQ7
      have N7 := Fr.app N6 N7q
      refine og (T7.setTop (mkF m 85 #[.val (.int p0), .val (.int p1), .val (.int p2), .val (.int ((p0 &&& (2147483647 : Int32)) % (6 : Int32))), .val (.int tv), .val (.int tv), .val (.int (p1 &&& (2147483647 : Int32))), .val (.int (p1 &&& (255 : Int32))), .val (.ref b1), .val (.int 65533), .unset] [(.int 1)])) ?_ st7
      refine OGo.retW X7 hS0 (by rw [e7]; exact hk6) (v := (some (.int 1))) (fun h => by rw [Bd.returns] at h; cases h) (BodyLoose.notSynchronized Bd) (fun fs hr => retN X7 hx (t := .boolean) (z := (1 : Int32)) Bd.returns (by simp) (hb hby at_85) hr) (Q := Q0 Z p0 p1 p2 ch cs fv h0 n0) ?_ (by decide) (by decide)
      show Q0 Z p0 p1 p2 ch cs fv h0 n0 _ T7.heap _
      rw [e7]
      exact ⟨rfl, N7⟩
  ·
    refine og (s₁.setTop (mkF m 88 #[.val (.int p0), .val (.int p1), .val (.int p2), .val (.int ((p0 &&& (2147483647 : Int32)) % (6 : Int32))), .val (.int tv), .val (.int tv), .val (.int (p1 &&& (2147483647 : Int32))), .unset, .unset, .unset, .unset] [(.int 1), (.int ((p0 &&& (2147483647 : Int32)) % (6 : Int32)))])) ?_ (fun tX kX => XS.ifYes X0.here hx rfl (pc0 := 29) (pc' := 86) rfl (hb hby at_29) rfl ((if0 _ _).trans (feq hc29).2) (by decide) (by decide) (XS.iloadN X0.here hx rfl (hb hby at_86) rfl (XS.iconst X0.here hx rfl (hb hby at_87) kX)))
    by_cases hc88 : ((p0 &&& (2147483647 : Int32)) % (6 : Int32)) = (1 : Int32)
    ·
      refine og (s₁.setTop (mkF m 101 #[.val (.int p0), .val (.int p1), .val (.int p2), .val (.int ((p0 &&& (2147483647 : Int32)) % (6 : Int32))), .val (.int tv), .val (.int tv), .val (.int (p1 &&& (2147483647 : Int32))), .unset, .unset, .unset, .unset] [(.int ((128 : Int32) + ((p1 &&& (2147483647 : Int32)) % (1920 : Int32))))])) ?_ (fun tX kX => XS.icmpNo X0.here hx rfl (hb hby at_88) rfl (teq hc88).2 (XS.sipush X0.here hx rfl (hb hby at_91) (XS.iload X0.here hx rfl (hb hby at_94) rfl (XS.sipush X0.here hx rfl (hb hby at_96) (iremM X0 hx rfl (hb hby at_99) rfl (by decide) (XS.iadd X0.here hx rfl (hb hby at_100) rfl kX))))))
      refine og (s₁.setTop (mkF m 103 #[.val (.int p0), .val (.int p1), .val (.int p2), .val (.int ((p0 &&& (2147483647 : Int32)) % (6 : Int32))), .val (.int tv), .val (.int tv), .val (.int (p1 &&& (2147483647 : Int32))), .val (.int ((128 : Int32) + ((p1 &&& (2147483647 : Int32)) % (1920 : Int32)))), .unset, .unset, .unset] [])) ?_ (fun tX kX => XS.istore X0.here hx rfl (hb hby at_101) rfl (l' := #[.val (.int p0), .val (.int p1), .val (.int p2), .val (.int ((p0 &&& (2147483647 : Int32)) % (6 : Int32))), .val (.int tv), .val (.int tv), .val (.int (p1 &&& (2147483647 : Int32))), .val (.int ((128 : Int32) + ((p1 &&& (2147483647 : Int32)) % (1920 : Int32)))), .unset, .unset, .unset]) rfl kX)
      obtain ⟨cq, ecq, hc0q, hc1q⟩ := own_m1 p1
      rw [ecq]
      refine og (s₁.setTop (mkF m 104 #[.val (.int p0), .val (.int p1), .val (.int p2), .val (.int ((p0 &&& (2147483647 : Int32)) % (6 : Int32))), .val (.int tv), .val (.int tv), .val (.int (p1 &&& (2147483647 : Int32))), .val (.int cq), .unset, .unset, .unset] [(.int 3)])) ?_ (fun tX kX => XS.iconst X0.here hx rfl (hb hby at_103) kX)
      obtain ⟨T8, h8, k8, X8, e8, E8, A8, EA8, st8⟩ := newPE X0 hx hZ (oW hw 1 rfl) e0 (g := (mkF m 104 #[.val (.int p0), .val (.int p1), .val (.int p2), .val (.int ((p0 &&& (2147483647 : Int32)) % (6 : Int32))), .val (.int tv), .val (.int tv), .val (.int (p1 &&& (2147483647 : Int32))), .val (.int cq), .unset, .unset, .unset] [(.int 3)])) rfl (hb hby at_104) rfl (by decide) (cap := 3) (by decide) (by decide) (by decide) (by decide) (ad := "[B") (by decide)
      obtain ⟨b8, g8⟩ : ∃ z, z = h0.size := ⟨_, rfl⟩
      rw [← g8] at A8 EA8 st8
      have ne_ch_b8 : ch ≠ b8 := Nat.ne_of_lt (Nat.lt_of_lt_of_le E_ch.lt (Nat.le_of_eq g8.symm))
      have S_INSTANCE := S_INSTANCE.ext E8
      have S_UTF_8 := S_UTF_8.ext E8
      have E_ch := E_ch.ext E8
      have S_COMPACT_STRINGS := S_COMPACT_STRINGS.ext E8
      have S_SIOOBE_FORMATTER := S_SIOOBE_FORMATTER.ext E8
      have S__assertionsDisabled := S__assertionsDisabled.ext E8
      have S_HI_BYTE_SHIFT := S_HI_BYTE_SHIFT.ext E8
      have S_LO_BYTE_SHIFT := S_LO_BYTE_SHIFT.ext E8
      have g_b8 : n0 ≤ b8 := Nat.le_trans Z0 (Nat.le_of_eq g8.symm)
      have sz_b8 : h0.size ≤ b8 := Nat.le_trans K0.1 (Nat.le_of_eq g8.symm)
      have zn8 : n0 ≤ h8.size := Nat.le_trans Z0 E8.1
      have hk8 := Nat.le_trans hk0 E8.1
      have K8 := K0.ext E8
      have E_b8 := EA8
      have V_b8 : Arv Z h8 b8 k8 .byte (3 : Int32) [(.int 0), (.int 0), (.int 0)] (.int 0) := (Arv.new A8 (by decide)).pad (pad_rep [] (.int 0) 3)
      refine og (T8.setTop (mkF m 106 #[.val (.int p0), .val (.int p1), .val (.int p2), .val (.int ((p0 &&& (2147483647 : Int32)) % (6 : Int32))), .val (.int tv), .val (.int tv), .val (.int (p1 &&& (2147483647 : Int32))), .val (.int cq), .unset, .unset, .unset] [(.ref b8)])) ?_ st8
      refine og (T8.setTop (mkF m 116 #[.val (.int p0), .val (.int p1), .val (.int p2), .val (.int ((p0 &&& (2147483647 : Int32)) % (6 : Int32))), .val (.int tv), .val (.int tv), .val (.int (p1 &&& (2147483647 : Int32))), .val (.int cq), .unset, .unset, .unset] [(.int (cq >>> ((6 : Int32) &&& 31))), (.int 192), (.int 0), (.ref b8), (.ref b8)])) ?_ (fun tX kX => XS.dup X8.here hx rfl (hb hby at_106) rfl rfl (XS.iconst X8.here hx rfl (hb hby at_107) (XS.sipush X8.here hx rfl (hb hby at_108) (XS.iload X8.here hx rfl (hb hby at_111) rfl (XS.bipush X8.here hx rfl (hb hby at_113) (XS.ishr X8.here hx rfl (hb hby at_115) rfl kX))))))
      refine og (T8.setTop (mkF m 118 #[.val (.int p0), .val (.int p1), .val (.int p2), .val (.int ((p0 &&& (2147483647 : Int32)) % (6 : Int32))), .val (.int tv), .val (.int tv), .val (.int (p1 &&& (2147483647 : Int32))), .val (.int cq), .unset, .unset, .unset] [(.int (((192 : Int32) ||| (cq >>> ((6 : Int32) &&& 31))).toInt8.toInt32)), (.int 0), (.ref b8), (.ref b8)])) ?_ (fun tX kX => XS.ior X8.here hx rfl (hb hby at_116) rfl (XS.i2b X8.here hx rfl (hb hby at_117) rfl kX))
      obtain ⟨cl9, Ar9, qa9, S9, N9', H9, G9⟩ := id V_b8
      have hin9 := inb_of (j := (0 : Int32)) S9 ⟨by decide, by decide⟩
      obtain ⟨T9, h9, X9, e9, W9, st9⟩ := stB X8 hx hZ e8 Ar9 (j := (0 : Int32)) hin9 (g := (mkF m 118 #[.val (.int p0), .val (.int p1), .val (.int p2), .val (.int ((p0 &&& (2147483647 : Int32)) % (6 : Int32))), .val (.int tv), .val (.int tv), .val (.int (p1 &&& (2147483647 : Int32))), .val (.int cq), .unset, .unset, .unset] [(.int (((192 : Int32) ||| (cq >>> ((6 : Int32) &&& 31))).toInt8.toInt32)), (.int 0), (.ref b8), (.ref b8)])) rfl rfl (hb hby at_118)
      have V_b8_9 := Arv.set Ar9 qa9 S9 N9' H9 G9 (fits_nar_byte _) W9 0 rfl (Nat.le_of_ble_eq_true rfl)
      have S_INSTANCE := S_INSTANCE.wr W9
      have S_UTF_8 := S_UTF_8.wr W9
      have E_ch := E_ch.wr W9
      have S_COMPACT_STRINGS := S_COMPACT_STRINGS.wr W9
      have S_SIOOBE_FORMATTER := S_SIOOBE_FORMATTER.wr W9
      have S__assertionsDisabled := S__assertionsDisabled.wr W9
      have S_HI_BYTE_SHIFT := S_HI_BYTE_SHIFT.wr W9
      have S_LO_BYTE_SHIFT := S_LO_BYTE_SHIFT.wr W9
      have E_b8 := E_b8.wr W9
      have K9 := K8.wr W9 (Or.inr sz_b8)
      have zn9 : n0 ≤ h9.size := Nat.le_trans zn8 (Keep.of_wr W9).1
      have hk9 := Nat.le_trans hk8 (Keep.of_wr W9).1
      have N9 := Fr.snoc X9 N0 g_b8
      have V_b8 : Arv Z h9 b8 k8 .byte (3 : Int32) [(.int ((((192 : Int32) ||| (cq >>> ((6 : Int32) &&& 31))).toInt8.toInt32).toInt8.toInt32)), (.int 0), (.int 0)] (.int 0) := V_b8_9
      refine og (T9.setTop (mkF m 119 #[.val (.int p0), .val (.int p1), .val (.int p2), .val (.int ((p0 &&& (2147483647 : Int32)) % (6 : Int32))), .val (.int tv), .val (.int tv), .val (.int (p1 &&& (2147483647 : Int32))), .val (.int cq), .unset, .unset, .unset] [(.ref b8)])) ?_ st9
      refine og (T9.setTop (mkF m 129 #[.val (.int p0), .val (.int p1), .val (.int p2), .val (.int ((p0 &&& (2147483647 : Int32)) % (6 : Int32))), .val (.int tv), .val (.int tv), .val (.int (p1 &&& (2147483647 : Int32))), .val (.int cq), .unset, .unset, .unset] [(.int (cq &&& (63 : Int32))), (.int 128), (.int 1), (.ref b8), (.ref b8)])) ?_ (fun tX kX => XS.dup X9.here hx rfl (hb hby at_119) rfl rfl (XS.iconst X9.here hx rfl (hb hby at_120) (XS.sipush X9.here hx rfl (hb hby at_121) (XS.iload X9.here hx rfl (hb hby at_124) rfl (XS.bipush X9.here hx rfl (hb hby at_126) (XS.iand X9.here hx rfl (hb hby at_128) rfl kX))))))
      refine og (T9.setTop (mkF m 131 #[.val (.int p0), .val (.int p1), .val (.int p2), .val (.int ((p0 &&& (2147483647 : Int32)) % (6 : Int32))), .val (.int tv), .val (.int tv), .val (.int (p1 &&& (2147483647 : Int32))), .val (.int cq), .unset, .unset, .unset] [(.int (((128 : Int32) ||| (cq &&& (63 : Int32))).toInt8.toInt32)), (.int 1), (.ref b8), (.ref b8)])) ?_ (fun tX kX => XS.ior X9.here hx rfl (hb hby at_129) rfl (XS.i2b X9.here hx rfl (hb hby at_130) rfl kX))
      obtain ⟨cl10, Ar10, qa10, S10, N10', H10, G10⟩ := id V_b8
      have hin10 := inb_of (j := (1 : Int32)) S10 ⟨by decide, by decide⟩
      obtain ⟨T10, h10, X10, e10, W10, st10⟩ := stB X9 hx hZ e9 Ar10 (j := (1 : Int32)) hin10 (g := (mkF m 131 #[.val (.int p0), .val (.int p1), .val (.int p2), .val (.int ((p0 &&& (2147483647 : Int32)) % (6 : Int32))), .val (.int tv), .val (.int tv), .val (.int (p1 &&& (2147483647 : Int32))), .val (.int cq), .unset, .unset, .unset] [(.int (((128 : Int32) ||| (cq &&& (63 : Int32))).toInt8.toInt32)), (.int 1), (.ref b8), (.ref b8)])) rfl rfl (hb hby at_131)
      have V_b8_10 := Arv.set Ar10 qa10 S10 N10' H10 G10 (fits_nar_byte _) W10 1 rfl (Nat.le_of_ble_eq_true rfl)
      have S_INSTANCE := S_INSTANCE.wr W10
      have S_UTF_8 := S_UTF_8.wr W10
      have E_ch := E_ch.wr W10
      have S_COMPACT_STRINGS := S_COMPACT_STRINGS.wr W10
      have S_SIOOBE_FORMATTER := S_SIOOBE_FORMATTER.wr W10
      have S__assertionsDisabled := S__assertionsDisabled.wr W10
      have S_HI_BYTE_SHIFT := S_HI_BYTE_SHIFT.wr W10
      have S_LO_BYTE_SHIFT := S_LO_BYTE_SHIFT.wr W10
      have E_b8 := E_b8.wr W10
      have K10 := K9.wr W10 (Or.inr sz_b8)
      have zn10 : n0 ≤ h10.size := Nat.le_trans zn9 (Keep.of_wr W10).1
      have hk10 := Nat.le_trans hk9 (Keep.of_wr W10).1
      have N10 := Fr.snoc X10 N9 g_b8
      have V_b8 : Arv Z h10 b8 k8 .byte (3 : Int32) [(.int ((((192 : Int32) ||| (cq >>> ((6 : Int32) &&& 31))).toInt8.toInt32).toInt8.toInt32)), (.int ((((128 : Int32) ||| (cq &&& (63 : Int32))).toInt8.toInt32).toInt8.toInt32)), (.int 0)] (.int 0) := V_b8_10
      refine og (T10.setTop (mkF m 132 #[.val (.int p0), .val (.int p1), .val (.int p2), .val (.int ((p0 &&& (2147483647 : Int32)) % (6 : Int32))), .val (.int tv), .val (.int tv), .val (.int (p1 &&& (2147483647 : Int32))), .val (.int cq), .unset, .unset, .unset] [(.ref b8)])) ?_ st10
      refine og (T10.setTop (mkF m 136 #[.val (.int p0), .val (.int p1), .val (.int p2), .val (.int ((p0 &&& (2147483647 : Int32)) % (6 : Int32))), .val (.int tv), .val (.int tv), .val (.int (p1 &&& (2147483647 : Int32))), .val (.int cq), .unset, .unset, .unset] [(.int tv), (.int 2), (.ref b8), (.ref b8)])) ?_ (fun tX kX => XS.dup X10.here hx rfl (hb hby at_132) rfl rfl (XS.iconst X10.here hx rfl (hb hby at_133) (XS.iload X10.here hx rfl (hb hby at_134) rfl kX)))
      obtain ⟨cl11, Ar11, qa11, S11, N11', H11, G11⟩ := id V_b8
      have hin11 := inb_of (j := (2 : Int32)) S11 ⟨by decide, by decide⟩
      obtain ⟨T11, h11, X11, e11, W11, st11⟩ := stB X10 hx hZ e10 Ar11 (j := (2 : Int32)) hin11 (g := (mkF m 136 #[.val (.int p0), .val (.int p1), .val (.int p2), .val (.int ((p0 &&& (2147483647 : Int32)) % (6 : Int32))), .val (.int tv), .val (.int tv), .val (.int (p1 &&& (2147483647 : Int32))), .val (.int cq), .unset, .unset, .unset] [(.int tv), (.int 2), (.ref b8), (.ref b8)])) rfl rfl (hb hby at_136)
      have V_b8_11 := Arv.set Ar11 qa11 S11 N11' H11 G11 (fits_nar_byte _) W11 2 rfl (Nat.le_of_ble_eq_true rfl)
      have S_INSTANCE := S_INSTANCE.wr W11
      have S_UTF_8 := S_UTF_8.wr W11
      have E_ch := E_ch.wr W11
      have S_COMPACT_STRINGS := S_COMPACT_STRINGS.wr W11
      have S_SIOOBE_FORMATTER := S_SIOOBE_FORMATTER.wr W11
      have S__assertionsDisabled := S__assertionsDisabled.wr W11
      have S_HI_BYTE_SHIFT := S_HI_BYTE_SHIFT.wr W11
      have S_LO_BYTE_SHIFT := S_LO_BYTE_SHIFT.wr W11
      have E_b8 := E_b8.wr W11
      have K11 := K10.wr W11 (Or.inr sz_b8)
      have zn11 : n0 ≤ h11.size := Nat.le_trans zn10 (Keep.of_wr W11).1
      have hk11 := Nat.le_trans hk10 (Keep.of_wr W11).1
      have N11 := Fr.snoc X11 N10 g_b8
      have V_b8 : Arv Z h11 b8 k8 .byte (3 : Int32) [(.int ((((192 : Int32) ||| (cq >>> ((6 : Int32) &&& 31))).toInt8.toInt32).toInt8.toInt32)), (.int ((((128 : Int32) ||| (cq &&& (63 : Int32))).toInt8.toInt32).toInt8.toInt32)), (.int (tv.toInt8.toInt32))] (.int 0) := V_b8_11
      refine og (T11.setTop (mkF m 137 #[.val (.int p0), .val (.int p1), .val (.int p2), .val (.int ((p0 &&& (2147483647 : Int32)) % (6 : Int32))), .val (.int tv), .val (.int tv), .val (.int (p1 &&& (2147483647 : Int32))), .val (.int cq), .unset, .unset, .unset] [(.ref b8)])) ?_ st11
      refine og (T11.setTop (mkF m 141 #[.val (.int p0), .val (.int p1), .val (.int p2), .val (.int ((p0 &&& (2147483647 : Int32)) % (6 : Int32))), .val (.int tv), .val (.int tv), .val (.int (p1 &&& (2147483647 : Int32))), .val (.int cq), .val (.ref b8), .unset, .unset] [(.ref b8)])) ?_ (fun tX kX => XS.astore X11.here hx rfl (hb hby at_137) rfl rfl (l' := #[.val (.int p0), .val (.int p1), .val (.int p2), .val (.int ((p0 &&& (2147483647 : Int32)) % (6 : Int32))), .val (.int tv), .val (.int tv), .val (.int (p1 &&& (2147483647 : Int32))), .val (.int cq), .val (.ref b8), .unset, .unset]) rfl (XS.aload X11.here hx rfl (hb hby at_139) rfl rfl kX))
      obtain ⟨xa, xb, exa, exb, hg, hor⟩ := own_b1 cq hc0q hc1q
      have V_b8 : Arv Z h11 b8 k8 .byte (3 : Int32) [(.int xa), (.int xb), (.int tv)] (.int 0) := by have q := V_b8; rw [exa] at q; rw [exb] at q; rw [hT.2.2.2.2.2.2] at q; exact q
      rcases hor with ⟨wa, hH, hl⟩ | hH
      ·
        obtain ⟨_, _, ⟨T12, L12, k12, n12⟩, -, X12, ⟨Lc12, hQ12, l12, y12, z12⟩, st12⟩ := Jvm.LawKit.callS X11 hx (y := oM41) hown (mvT hZ (oW hw 2 rfl)) (mvT hZ (oW hw 3 rfl)) (mvT hZ (oW hw 4 rfl)) (mvT hZ (oW hw 5 rfl)) (by decide) (backOf (W := 0) (rm1G l Z aV hw [] b8 ch (3 : Int32) k8 [(.int xa), (.int xb), (.int tv)] cs fv (0 : Int32) (2 : Int32) [(.int wa), (.int tv)] h11 n0 zn11 S_INSTANCE S_COMPACT_STRINGS S_SIOOBE_FORMATTER S__assertionsDisabled S_HI_BYTE_SHIFT S_LO_BYTE_SHIFT S_UTF_8 E_ch E_b8 V_b8 (by decide) (fun a0 u1 u2 hX nX ZX q0 q1 q2 q3 q4 q5 q6 q7 q8 q9 q10 gX => rm4L l Z aV hw [] a0 ch b8 u1 u2 k8 xa xb tv wa cs fv hX nX ZX q0 q1 q2 q3 q4 q5 q6 q7 q8 q9 q10 gX hcs hfv hH hT)) hZ (oW hw 5 rfl) (oW hw 4 rfl) (by decide) (by decide)) (g := (mkF m 141 #[.val (.int p0), .val (.int p1), .val (.int p2), .val (.int ((p0 &&& (2147483647 : Int32)) % (6 : Int32))), .val (.int tv), .val (.int tv), .val (.int (p1 &&& (2147483647 : Int32))), .val (.int cq), .val (.ref b8), .unset, .unset] [(.ref b8)])) rfl (by rw [hml]; rfl) (argsL := [(.ref b8)]) (rest := []) (lenOf pd___B_Ljava_lang_String_ rfl) rfl (by show 2 * 0 + _ ≤ _; exact Nat.le_of_eq rfl) (hb hby at_141) (fun _ _ => ⟨rfl, e11, (by decide : 1 + 5 ≤ _), (by decide : 3 + 44 ≤ _)⟩)
        dsimp only [Pt.U, Pt.locs, Pt.cells, Pt.slots] at X12 l12 y12 z12 st12 hQ12
        subst l12 y12 z12
        obtain ⟨sb_12, nb_12, kn_12, rfl, N12q, Kq12, sz12_sb, sz12_nb, E_sb_12_p, F_value_sb_12_p, F_coder_sb_12_p, V_nb_12_p⟩ := hQ12
        have N12 := Fr.app N11 N12q
        have ne_ch_sb_12 : ch ≠ sb_12 := Nat.ne_of_lt (Nat.lt_of_lt_of_le E_ch.lt sz12_sb)
        have ne_b8_sb_12 : b8 ≠ sb_12 := Nat.ne_of_lt (Nat.lt_of_lt_of_le E_b8.lt sz12_sb)
        have ne_ch_nb_12 : ch ≠ nb_12 := Nat.ne_of_lt (Nat.lt_of_lt_of_le E_ch.lt sz12_nb)
        have ne_b8_nb_12 : b8 ≠ nb_12 := Nat.ne_of_lt (Nat.lt_of_lt_of_le E_b8.lt sz12_nb)
        have S_INSTANCE := Sta.keep0 S_INSTANCE Kq12
        have S_UTF_8 := Sta.keep0 S_UTF_8 Kq12
        have S_COMPACT_STRINGS := Sta.keep0 S_COMPACT_STRINGS Kq12
        have S_SIOOBE_FORMATTER := Sta.keep0 S_SIOOBE_FORMATTER Kq12
        have S__assertionsDisabled := Sta.keep0 S__assertionsDisabled Kq12
        have S_HI_BYTE_SHIFT := Sta.keep0 S_HI_BYTE_SHIFT Kq12
        have S_LO_BYTE_SHIFT := Sta.keep0 S_LO_BYTE_SHIFT Kq12
        have E_ch := E_ch.keep Kq12
        have E_b8 := E_b8.keep Kq12
        have V_b8 := V_b8.keep Kq12 nin0
        have g_sb_12 : n0 ≤ sb_12 := Nat.le_trans zn11 sz12_sb
        have sz_sb_12 : h0.size ≤ sb_12 := Nat.le_trans K11.1 sz12_sb
        have g_nb_12 : n0 ≤ nb_12 := Nat.le_trans zn11 sz12_nb
        have sz_nb_12 : h0.size ≤ nb_12 := Nat.le_trans K11.1 sz12_nb
        have K12 := K11.trans Kq12 all0
        have zn12 : n0 ≤ T12.heap.size := Nat.le_trans zn11 Kq12.1
        have hk12 := Nat.le_trans hk11 Kq12.1
        have E_sb_12 := E_sb_12_p
        have F_value_sb_12 := F_value_sb_12_p
        have F_coder_sb_12 := F_coder_sb_12_p
        have V_nb_12 := V_nb_12_p
        refine og (T12.setTop (mkF m 144 #[.val (.int p0), .val (.int p1), .val (.int p2), .val (.int ((p0 &&& (2147483647 : Int32)) % (6 : Int32))), .val (.int tv), .val (.int tv), .val (.int (p1 &&& (2147483647 : Int32))), .val (.int cq), .val (.ref b8), .unset, .unset] [(.ref sb_12)])) ?_ st12
        refine og (T12.setTop (mkF m 149 #[.val (.int p0), .val (.int p1), .val (.int p2), .val (.int ((p0 &&& (2147483647 : Int32)) % (6 : Int32))), .val (.int tv), .val (.int tv), .val (.int (p1 &&& (2147483647 : Int32))), .val (.int cq), .val (.ref b8), .unset, .unset] [(.int tv), (.int (cq.toUInt32.toUInt16.toUInt32.toInt32)), (.ref sb_12)])) ?_ (fun tX kX => XS.iload X12.here hx rfl (hb hby at_144) rfl (XS.i2c X12.here hx rfl (hb hby at_146) rfl (XS.iload X12.here hx rfl (hb hby at_147) rfl kX)))
        obtain ⟨_, _, ⟨T13, L13, k13, n13⟩, -, X13, ⟨Lc13, hQ13, l13, y13, z13⟩, st13⟩ := Jvm.LawKit.callS X12 hx (y := oM26) hown (mvT hZ (oW hw 52 rfl)) (mvT hZ (oW hw 53 rfl)) (mvT hZ (oW hw 54 rfl)) (mvT hZ (oW hw 55 rfl)) (by decide) (backOf (W := 0) (rm8L l Z aV hw [] sb_12 (cq.toUInt32.toUInt16.toUInt32.toInt32) tv nb_12 kn_12 wa tv cs fv T12.heap n0 zn12 E_sb_12 F_value_sb_12 F_coder_sb_12 V_nb_12 S_COMPACT_STRINGS S_SIOOBE_FORMATTER hcs hfv hl hlt) hZ (oW hw 55 rfl) (oW hw 54 rfl) (by decide) (by decide)) (g := (mkF m 149 #[.val (.int p0), .val (.int p1), .val (.int p2), .val (.int ((p0 &&& (2147483647 : Int32)) % (6 : Int32))), .val (.int tv), .val (.int tv), .val (.int (p1 &&& (2147483647 : Int32))), .val (.int cq), .val (.ref b8), .unset, .unset] [(.int tv), (.int (cq.toUInt32.toUInt16.toUInt32.toInt32)), (.ref sb_12)])) rfl (by rw [hml]; rfl) (argsL := [(.ref sb_12), (.int (cq.toUInt32.toUInt16.toUInt32.toInt32)), (.int tv)]) (rest := []) (lenOf pd__Ljava_lang_String_CC_Z rfl) rfl (by show 2 * 0 + _ ≤ _; exact Nat.le_of_eq rfl) (hb hby at_149) (fun _ _ => ⟨rfl, rfl, (by decide : 6 + 0 ≤ _), (by decide : 47 + 0 ≤ _)⟩)
        dsimp only [Pt.U, Pt.locs, Pt.cells, Pt.slots] at X13 l13 y13 z13 st13 hQ13
        subst l13 y13 z13
        obtain ⟨rfl, N13q, e13⟩ := hQ13
        have N13 := Fr.app N12 N13q
        refine og (T13.setTop (mkF m 152 #[.val (.int p0), .val (.int p1), .val (.int p2), .val (.int ((p0 &&& (2147483647 : Int32)) % (6 : Int32))), .val (.int tv), .val (.int tv), .val (.int (p1 &&& (2147483647 : Int32))), .val (.int cq), .val (.ref b8), .unset, .unset] [(.int 1)])) ?_ st13
        refine OGo.retW X13 hS0 (by rw [e13]; exact hk12) (v := (some (.int 1))) (fun h => by rw [Bd.returns] at h; cases h) (BodyLoose.notSynchronized Bd) (fun fs hr => retN X13 hx (t := .boolean) (z := (1 : Int32)) Bd.returns (by simp) (hb hby at_152) hr) (Q := Q0 Z p0 p1 p2 ch cs fv h0 n0) ?_ (by decide) (by decide)
        show Q0 Z p0 p1 p2 ch cs fv h0 n0 _ T13.heap _
        rw [e13]
        exact ⟨rfl, N13⟩
      ·
        obtain ⟨_, _, ⟨T14, L14, k14, n14⟩, -, X14, ⟨Lc14, hQ14, l14, y14, z14⟩, st14⟩ := Jvm.LawKit.callS X11 hx (y := oM41) hown (mvT hZ (oW hw 2 rfl)) (mvT hZ (oW hw 3 rfl)) (mvT hZ (oW hw 4 rfl)) (mvT hZ (oW hw 5 rfl)) (by decide) (backOf (W := 0) (rm1G l Z aV hw [] b8 ch (3 : Int32) k8 [(.int xa), (.int xb), (.int tv)] cs fv (1 : Int32) (4 : Int32) [(.int (own_lo cq)), (.int (own_hi cq)), (.int (own_lo tv)), (.int (own_hi tv))] h11 n0 zn11 S_INSTANCE S_COMPACT_STRINGS S_SIOOBE_FORMATTER S__assertionsDisabled S_HI_BYTE_SHIFT S_LO_BYTE_SHIFT S_UTF_8 E_ch E_b8 V_b8 (by decide) (fun a0 u1 u2 hX nX ZX q0 q1 q2 q3 q4 q5 q6 q7 q8 q9 q10 gX => rm4B l Z aV hw [] a0 ch b8 u1 u2 k8 xa xb tv cq cs fv hX nX ZX q0 q1 q2 q3 q4 q5 q6 q7 q8 q9 q10 gX hcs hfv hH hT)) hZ (oW hw 5 rfl) (oW hw 4 rfl) (by decide) (by decide)) (g := (mkF m 141 #[.val (.int p0), .val (.int p1), .val (.int p2), .val (.int ((p0 &&& (2147483647 : Int32)) % (6 : Int32))), .val (.int tv), .val (.int tv), .val (.int (p1 &&& (2147483647 : Int32))), .val (.int cq), .val (.ref b8), .unset, .unset] [(.ref b8)])) rfl (by rw [hml]; rfl) (argsL := [(.ref b8)]) (rest := []) (lenOf pd___B_Ljava_lang_String_ rfl) rfl (by show 2 * 0 + _ ≤ _; exact Nat.le_of_eq rfl) (hb hby at_141) (fun _ _ => ⟨rfl, e11, (by decide : 1 + 5 ≤ _), (by decide : 3 + 44 ≤ _)⟩)
        dsimp only [Pt.U, Pt.locs, Pt.cells, Pt.slots] at X14 l14 y14 z14 st14 hQ14
        subst l14 y14 z14
        obtain ⟨sb_14, nb_14, kn_14, rfl, N14q, Kq14, sz14_sb, sz14_nb, E_sb_14_p, F_value_sb_14_p, F_coder_sb_14_p, V_nb_14_p⟩ := hQ14
        have N14 := Fr.app N11 N14q
        have ne_ch_sb_14 : ch ≠ sb_14 := Nat.ne_of_lt (Nat.lt_of_lt_of_le E_ch.lt sz14_sb)
        have ne_b8_sb_14 : b8 ≠ sb_14 := Nat.ne_of_lt (Nat.lt_of_lt_of_le E_b8.lt sz14_sb)
        have ne_ch_nb_14 : ch ≠ nb_14 := Nat.ne_of_lt (Nat.lt_of_lt_of_le E_ch.lt sz14_nb)
        have ne_b8_nb_14 : b8 ≠ nb_14 := Nat.ne_of_lt (Nat.lt_of_lt_of_le E_b8.lt sz14_nb)
        have S_INSTANCE := Sta.keep0 S_INSTANCE Kq14
        have S_UTF_8 := Sta.keep0 S_UTF_8 Kq14
        have S_COMPACT_STRINGS := Sta.keep0 S_COMPACT_STRINGS Kq14
        have S_SIOOBE_FORMATTER := Sta.keep0 S_SIOOBE_FORMATTER Kq14
        have S__assertionsDisabled := Sta.keep0 S__assertionsDisabled Kq14
        have S_HI_BYTE_SHIFT := Sta.keep0 S_HI_BYTE_SHIFT Kq14
        have S_LO_BYTE_SHIFT := Sta.keep0 S_LO_BYTE_SHIFT Kq14
        have E_ch := E_ch.keep Kq14
        have E_b8 := E_b8.keep Kq14
        have V_b8 := V_b8.keep Kq14 nin0
        have g_sb_14 : n0 ≤ sb_14 := Nat.le_trans zn11 sz14_sb
        have sz_sb_14 : h0.size ≤ sb_14 := Nat.le_trans K11.1 sz14_sb
        have g_nb_14 : n0 ≤ nb_14 := Nat.le_trans zn11 sz14_nb
        have sz_nb_14 : h0.size ≤ nb_14 := Nat.le_trans K11.1 sz14_nb
        have K14 := K11.trans Kq14 all0
        have zn14 : n0 ≤ T14.heap.size := Nat.le_trans zn11 Kq14.1
        have hk14 := Nat.le_trans hk11 Kq14.1
        have E_sb_14 := E_sb_14_p
        have F_value_sb_14 := F_value_sb_14_p
        have F_coder_sb_14 := F_coder_sb_14_p
        have V_nb_14 := V_nb_14_p
        refine og (T14.setTop (mkF m 144 #[.val (.int p0), .val (.int p1), .val (.int p2), .val (.int ((p0 &&& (2147483647 : Int32)) % (6 : Int32))), .val (.int tv), .val (.int tv), .val (.int (p1 &&& (2147483647 : Int32))), .val (.int cq), .val (.ref b8), .unset, .unset] [(.ref sb_14)])) ?_ st14
        refine og (T14.setTop (mkF m 149 #[.val (.int p0), .val (.int p1), .val (.int p2), .val (.int ((p0 &&& (2147483647 : Int32)) % (6 : Int32))), .val (.int tv), .val (.int tv), .val (.int (p1 &&& (2147483647 : Int32))), .val (.int cq), .val (.ref b8), .unset, .unset] [(.int tv), (.int (cq.toUInt32.toUInt16.toUInt32.toInt32)), (.ref sb_14)])) ?_ (fun tX kX => XS.iload X14.here hx rfl (hb hby at_144) rfl (XS.i2c X14.here hx rfl (hb hby at_146) rfl (XS.iload X14.here hx rfl (hb hby at_147) rfl kX)))
        obtain ⟨_, _, ⟨T15, L15, k15, n15⟩, -, X15, ⟨Lc15, hQ15, l15, y15, z15⟩, st15⟩ := Jvm.LawKit.callS X14 hx (y := oM26) hown (mvT hZ (oW hw 52 rfl)) (mvT hZ (oW hw 53 rfl)) (mvT hZ (oW hw 54 rfl)) (mvT hZ (oW hw 55 rfl)) (by decide) (backOf (W := 0) (rm8U l Z aV hw [] sb_14 (cq.toUInt32.toUInt16.toUInt32.toInt32) tv nb_14 kn_14 cq tv cs fv T14.heap n0 zn14 E_sb_14 F_value_sb_14 F_coder_sb_14 V_nb_14 S_COMPACT_STRINGS S_SIOOBE_FORMATTER S__assertionsDisabled S_HI_BYTE_SHIFT S_LO_BYTE_SHIFT hcs hfv hg hgt) hZ (oW hw 55 rfl) (oW hw 54 rfl) (by decide) (by decide)) (g := (mkF m 149 #[.val (.int p0), .val (.int p1), .val (.int p2), .val (.int ((p0 &&& (2147483647 : Int32)) % (6 : Int32))), .val (.int tv), .val (.int tv), .val (.int (p1 &&& (2147483647 : Int32))), .val (.int cq), .val (.ref b8), .unset, .unset] [(.int tv), (.int (cq.toUInt32.toUInt16.toUInt32.toInt32)), (.ref sb_14)])) rfl (by rw [hml]; rfl) (argsL := [(.ref sb_14), (.int (cq.toUInt32.toUInt16.toUInt32.toInt32)), (.int tv)]) (rest := []) (lenOf pd__Ljava_lang_String_CC_Z rfl) rfl (by show 2 * 0 + _ ≤ _; exact Nat.le_of_eq rfl) (hb hby at_149) (fun _ _ => ⟨rfl, rfl, (by decide : 6 + 0 ≤ _), (by decide : 47 + 0 ≤ _)⟩)
        dsimp only [Pt.U, Pt.locs, Pt.cells, Pt.slots] at X15 l15 y15 z15 st15 hQ15
        subst l15 y15 z15
        obtain ⟨rfl, N15q, e15⟩ := hQ15
        have N15 := Fr.app N14 N15q
        refine og (T15.setTop (mkF m 152 #[.val (.int p0), .val (.int p1), .val (.int p2), .val (.int ((p0 &&& (2147483647 : Int32)) % (6 : Int32))), .val (.int tv), .val (.int tv), .val (.int (p1 &&& (2147483647 : Int32))), .val (.int cq), .val (.ref b8), .unset, .unset] [(.int 1)])) ?_ st15
        refine OGo.retW X15 hS0 (by rw [e15]; exact hk14) (v := (some (.int 1))) (fun h => by rw [Bd.returns] at h; cases h) (BodyLoose.notSynchronized Bd) (fun fs hr => retN X15 hx (t := .boolean) (z := (1 : Int32)) Bd.returns (by simp) (hb hby at_152) hr) (Q := Q0 Z p0 p1 p2 ch cs fv h0 n0) ?_ (by decide) (by decide)
        show Q0 Z p0 p1 p2 ch cs fv h0 n0 _ T15.heap _
        rw [e15]
        exact ⟨rfl, N15⟩
    ·
      refine og (s₁.setTop (mkF m 155 #[.val (.int p0), .val (.int p1), .val (.int p2), .val (.int ((p0 &&& (2147483647 : Int32)) % (6 : Int32))), .val (.int tv), .val (.int tv), .val (.int (p1 &&& (2147483647 : Int32))), .unset, .unset, .unset, .unset] [(.int 2), (.int ((p0 &&& (2147483647 : Int32)) % (6 : Int32)))])) ?_ (fun tX kX => XS.icmpYes X0.here hx rfl (pc0 := 88) (pc' := 153) rfl (hb hby at_88) rfl (feq hc88).2 (by decide) (by decide) (XS.iloadN X0.here hx rfl (hb hby at_153) rfl (XS.iconst X0.here hx rfl (hb hby at_154) kX)))
      by_cases hc155 : ((p0 &&& (2147483647 : Int32)) % (6 : Int32)) = (2 : Int32)
      ·
        refine og (s₁.setTop (mkF m 167 #[.val (.int p0), .val (.int p1), .val (.int p2), .val (.int ((p0 &&& (2147483647 : Int32)) % (6 : Int32))), .val (.int tv), .val (.int tv), .val (.int (p1 &&& (2147483647 : Int32))), .unset, .unset, .unset, .unset] [(.int ((2048 : Int32) + ((p1 &&& (2147483647 : Int32)) % (61440 : Int32))))])) ?_ (fun tX kX => XS.icmpNo X0.here hx rfl (hb hby at_155) rfl (teq hc155).2 (XS.sipush X0.here hx rfl (hb hby at_158) (XS.iload X0.here hx rfl (hb hby at_161) rfl (X0.ldcInt hx hown (mvT hZ (oW hw 102 rfl)) (g := (mkF m 163 #[.val (.int p0), .val (.int p1), .val (.int p2), .val (.int ((p0 &&& (2147483647 : Int32)) % (6 : Int32))), .val (.int tv), .val (.int tv), .val (.int (p1 &&& (2147483647 : Int32))), .unset, .unset, .unset, .unset] [(.int (p1 &&& (2147483647 : Int32))), (.int 2048)])) rfl (hb hby at_163) _ (iremM X0 hx rfl (hb hby at_165) rfl (by decide) (XS.iadd X0.here hx rfl (hb hby at_166) rfl kX))))))
        refine og (s₁.setTop (mkF m 169 #[.val (.int p0), .val (.int p1), .val (.int p2), .val (.int ((p0 &&& (2147483647 : Int32)) % (6 : Int32))), .val (.int tv), .val (.int tv), .val (.int (p1 &&& (2147483647 : Int32))), .val (.int ((2048 : Int32) + ((p1 &&& (2147483647 : Int32)) % (61440 : Int32)))), .unset, .unset, .unset] [])) ?_ (fun tX kX => XS.istore X0.here hx rfl (hb hby at_167) rfl (l' := #[.val (.int p0), .val (.int p1), .val (.int p2), .val (.int ((p0 &&& (2147483647 : Int32)) % (6 : Int32))), .val (.int tv), .val (.int tv), .val (.int (p1 &&& (2147483647 : Int32))), .val (.int ((2048 : Int32) + ((p1 &&& (2147483647 : Int32)) % (61440 : Int32)))), .unset, .unset, .unset]) rfl kX)
        obtain ⟨cm, ecm, hm0, hm1⟩ := own_m2 p1
        rw [ecm]
        have J184 : ∀ (TJ184 : State) (LJ184 : List Loc) (hJ184 : Heap) (cq : Int32), (Stand p l e room_1 (s.setVm s.vm) m #[(.int p0), (.int p1), (.int p2)] below meth c TJ184 LJ184 0 0) → (TJ184.heap = hJ184) → (Fr n0 LJ184) → (n0 ≤ hJ184.size) → (Keep h0 hJ184 []) → (Sta Z hJ184 "sun/nio/cs/UTF_8" "INSTANCE" "Lsun/nio/cs/UTF_8;" (.ref ch)) → (Sta Z hJ184 "java/nio/charset/StandardCharsets" "UTF_8" "Ljava/nio/charset/Charset;" (.ref ch)) → (Exa Z hJ184 ch "sun/nio/cs/UTF_8") → (Sta Z hJ184 "java/lang/String" "COMPACT_STRINGS" "Z" (.int cs)) → (Sta Z hJ184 "jdk/internal/util/Preconditions" "SIOOBE_FORMATTER" "Ljava/util/function/BiFunction;" fv) → (Sta Z hJ184 "java/lang/StringUTF16" "$assertionsDisabled" "Z" (.int 1)) → (Sta Z hJ184 "java/lang/StringUTF16" "HI_BYTE_SHIFT" "I" (.int 0)) → (Sta Z hJ184 "java/lang/StringUTF16" "LO_BYTE_SHIFT" "I" (.int 8)) → (2048 ≤ cq.toInt) → (cq.toInt < 65536) → (cq.toInt < 55296 ∨ 57344 ≤ cq.toInt) → OGo p.tables e below (P0 Z p0 p1 p2 ch cs fv h0 n0 s) (TJ184.setTop (mkF m 184 #[.val (.int p0), .val (.int p1), .val (.int p2), .val (.int ((p0 &&& (2147483647 : Int32)) % (6 : Int32))), .val (.int tv), .val (.int tv), .val (.int (p1 &&& (2147483647 : Int32))), .val (.int cq), .unset, .unset, .unset] [])) := by
          intro TJ184 LJ184 hJ184 cq XJ184 eJ184 NJ184 znJ184 KJ184 S_INSTANCE S_UTF_8 E_ch S_COMPACT_STRINGS S_SIOOBE_FORMATTER S__assertionsDisabled S_HI_BYTE_SHIFT S_LO_BYTE_SHIFT hc0q hc1q hc2q
          refine og (TJ184.setTop (mkF m 185 #[.val (.int p0), .val (.int p1), .val (.int p2), .val (.int ((p0 &&& (2147483647 : Int32)) % (6 : Int32))), .val (.int tv), .val (.int tv), .val (.int (p1 &&& (2147483647 : Int32))), .val (.int cq), .unset, .unset, .unset] [(.int 4)])) ?_ (fun tX kX => XS.iconst XJ184.here hx rfl (hb hby at_184) kX)
          obtain ⟨T16, h16, k16, X16, e16, E16, A16, EA16, st16⟩ := newPE XJ184 hx hZ (oW hw 1 rfl) eJ184 (g := (mkF m 185 #[.val (.int p0), .val (.int p1), .val (.int p2), .val (.int ((p0 &&& (2147483647 : Int32)) % (6 : Int32))), .val (.int tv), .val (.int tv), .val (.int (p1 &&& (2147483647 : Int32))), .val (.int cq), .unset, .unset, .unset] [(.int 4)])) rfl (hb hby at_185) rfl (by decide) (cap := 4) (by decide) (by decide) (by decide) (by decide) (ad := "[B") (by decide)
          obtain ⟨b16, g16⟩ : ∃ z, z = hJ184.size := ⟨_, rfl⟩
          rw [← g16] at A16 EA16 st16
          have ne_ch_b16 : ch ≠ b16 := Nat.ne_of_lt (Nat.lt_of_lt_of_le E_ch.lt (Nat.le_of_eq g16.symm))
          have S_INSTANCE := S_INSTANCE.ext E16
          have S_UTF_8 := S_UTF_8.ext E16
          have E_ch := E_ch.ext E16
          have S_COMPACT_STRINGS := S_COMPACT_STRINGS.ext E16
          have S_SIOOBE_FORMATTER := S_SIOOBE_FORMATTER.ext E16
          have S__assertionsDisabled := S__assertionsDisabled.ext E16
          have S_HI_BYTE_SHIFT := S_HI_BYTE_SHIFT.ext E16
          have S_LO_BYTE_SHIFT := S_LO_BYTE_SHIFT.ext E16
          have g_b16 : n0 ≤ b16 := Nat.le_trans znJ184 (Nat.le_of_eq g16.symm)
          have sz_b16 : h0.size ≤ b16 := Nat.le_trans KJ184.1 (Nat.le_of_eq g16.symm)
          have zn16 : n0 ≤ h16.size := Nat.le_trans znJ184 E16.1
          have hk16 := Nat.le_trans (Nat.zero_le _) E16.1
          have K16 := KJ184.ext E16
          have E_b16 := EA16
          have V_b16 : Arv Z h16 b16 k16 .byte (4 : Int32) [(.int 0), (.int 0), (.int 0), (.int 0)] (.int 0) := (Arv.new A16 (by decide)).pad (pad_rep [] (.int 0) 4)
          refine og (T16.setTop (mkF m 187 #[.val (.int p0), .val (.int p1), .val (.int p2), .val (.int ((p0 &&& (2147483647 : Int32)) % (6 : Int32))), .val (.int tv), .val (.int tv), .val (.int (p1 &&& (2147483647 : Int32))), .val (.int cq), .unset, .unset, .unset] [(.ref b16)])) ?_ st16
          refine og (T16.setTop (mkF m 197 #[.val (.int p0), .val (.int p1), .val (.int p2), .val (.int ((p0 &&& (2147483647 : Int32)) % (6 : Int32))), .val (.int tv), .val (.int tv), .val (.int (p1 &&& (2147483647 : Int32))), .val (.int cq), .unset, .unset, .unset] [(.int (cq >>> ((12 : Int32) &&& 31))), (.int 224), (.int 0), (.ref b16), (.ref b16)])) ?_ (fun tX kX => XS.dup X16.here hx rfl (hb hby at_187) rfl rfl (XS.iconst X16.here hx rfl (hb hby at_188) (XS.sipush X16.here hx rfl (hb hby at_189) (XS.iload X16.here hx rfl (hb hby at_192) rfl (XS.bipush X16.here hx rfl (hb hby at_194) (XS.ishr X16.here hx rfl (hb hby at_196) rfl kX))))))
          refine og (T16.setTop (mkF m 199 #[.val (.int p0), .val (.int p1), .val (.int p2), .val (.int ((p0 &&& (2147483647 : Int32)) % (6 : Int32))), .val (.int tv), .val (.int tv), .val (.int (p1 &&& (2147483647 : Int32))), .val (.int cq), .unset, .unset, .unset] [(.int (((224 : Int32) ||| (cq >>> ((12 : Int32) &&& 31))).toInt8.toInt32)), (.int 0), (.ref b16), (.ref b16)])) ?_ (fun tX kX => XS.ior X16.here hx rfl (hb hby at_197) rfl (XS.i2b X16.here hx rfl (hb hby at_198) rfl kX))
          obtain ⟨cl17, Ar17, qa17, S17, N17', H17, G17⟩ := id V_b16
          have hin17 := inb_of (j := (0 : Int32)) S17 ⟨by decide, by decide⟩
          obtain ⟨T17, h17, X17, e17, W17, st17⟩ := stB X16 hx hZ e16 Ar17 (j := (0 : Int32)) hin17 (g := (mkF m 199 #[.val (.int p0), .val (.int p1), .val (.int p2), .val (.int ((p0 &&& (2147483647 : Int32)) % (6 : Int32))), .val (.int tv), .val (.int tv), .val (.int (p1 &&& (2147483647 : Int32))), .val (.int cq), .unset, .unset, .unset] [(.int (((224 : Int32) ||| (cq >>> ((12 : Int32) &&& 31))).toInt8.toInt32)), (.int 0), (.ref b16), (.ref b16)])) rfl rfl (hb hby at_199)
          have V_b16_17 := Arv.set Ar17 qa17 S17 N17' H17 G17 (fits_nar_byte _) W17 0 rfl (Nat.le_of_ble_eq_true rfl)
          have S_INSTANCE := S_INSTANCE.wr W17
          have S_UTF_8 := S_UTF_8.wr W17
          have E_ch := E_ch.wr W17
          have S_COMPACT_STRINGS := S_COMPACT_STRINGS.wr W17
          have S_SIOOBE_FORMATTER := S_SIOOBE_FORMATTER.wr W17
          have S__assertionsDisabled := S__assertionsDisabled.wr W17
          have S_HI_BYTE_SHIFT := S_HI_BYTE_SHIFT.wr W17
          have S_LO_BYTE_SHIFT := S_LO_BYTE_SHIFT.wr W17
          have E_b16 := E_b16.wr W17
          have K17 := K16.wr W17 (Or.inr sz_b16)
          have zn17 : n0 ≤ h17.size := Nat.le_trans zn16 (Keep.of_wr W17).1
          have hk17 := Nat.le_trans hk16 (Keep.of_wr W17).1
          have N17 := Fr.snoc X17 NJ184 g_b16
          have V_b16 : Arv Z h17 b16 k16 .byte (4 : Int32) [(.int ((((224 : Int32) ||| (cq >>> ((12 : Int32) &&& 31))).toInt8.toInt32).toInt8.toInt32)), (.int 0), (.int 0), (.int 0)] (.int 0) := V_b16_17
          refine og (T17.setTop (mkF m 200 #[.val (.int p0), .val (.int p1), .val (.int p2), .val (.int ((p0 &&& (2147483647 : Int32)) % (6 : Int32))), .val (.int tv), .val (.int tv), .val (.int (p1 &&& (2147483647 : Int32))), .val (.int cq), .unset, .unset, .unset] [(.ref b16)])) ?_ st17
          refine og (T17.setTop (mkF m 210 #[.val (.int p0), .val (.int p1), .val (.int p2), .val (.int ((p0 &&& (2147483647 : Int32)) % (6 : Int32))), .val (.int tv), .val (.int tv), .val (.int (p1 &&& (2147483647 : Int32))), .val (.int cq), .unset, .unset, .unset] [(.int (cq >>> ((6 : Int32) &&& 31))), (.int 128), (.int 1), (.ref b16), (.ref b16)])) ?_ (fun tX kX => XS.dup X17.here hx rfl (hb hby at_200) rfl rfl (XS.iconst X17.here hx rfl (hb hby at_201) (XS.sipush X17.here hx rfl (hb hby at_202) (XS.iload X17.here hx rfl (hb hby at_205) rfl (XS.bipush X17.here hx rfl (hb hby at_207) (XS.ishr X17.here hx rfl (hb hby at_209) rfl kX))))))
          refine og (T17.setTop (mkF m 215 #[.val (.int p0), .val (.int p1), .val (.int p2), .val (.int ((p0 &&& (2147483647 : Int32)) % (6 : Int32))), .val (.int tv), .val (.int tv), .val (.int (p1 &&& (2147483647 : Int32))), .val (.int cq), .unset, .unset, .unset] [(.int (((128 : Int32) ||| ((cq >>> ((6 : Int32) &&& 31)) &&& (63 : Int32))).toInt8.toInt32)), (.int 1), (.ref b16), (.ref b16)])) ?_ (fun tX kX => XS.bipush X17.here hx rfl (hb hby at_210) (XS.iand X17.here hx rfl (hb hby at_212) rfl (XS.ior X17.here hx rfl (hb hby at_213) rfl (XS.i2b X17.here hx rfl (hb hby at_214) rfl kX))))
          obtain ⟨cl18, Ar18, qa18, S18, N18', H18, G18⟩ := id V_b16
          have hin18 := inb_of (j := (1 : Int32)) S18 ⟨by decide, by decide⟩
          obtain ⟨T18, h18, X18, e18, W18, st18⟩ := stB X17 hx hZ e17 Ar18 (j := (1 : Int32)) hin18 (g := (mkF m 215 #[.val (.int p0), .val (.int p1), .val (.int p2), .val (.int ((p0 &&& (2147483647 : Int32)) % (6 : Int32))), .val (.int tv), .val (.int tv), .val (.int (p1 &&& (2147483647 : Int32))), .val (.int cq), .unset, .unset, .unset] [(.int (((128 : Int32) ||| ((cq >>> ((6 : Int32) &&& 31)) &&& (63 : Int32))).toInt8.toInt32)), (.int 1), (.ref b16), (.ref b16)])) rfl rfl (hb hby at_215)
          have V_b16_18 := Arv.set Ar18 qa18 S18 N18' H18 G18 (fits_nar_byte _) W18 1 rfl (Nat.le_of_ble_eq_true rfl)
          have S_INSTANCE := S_INSTANCE.wr W18
          have S_UTF_8 := S_UTF_8.wr W18
          have E_ch := E_ch.wr W18
          have S_COMPACT_STRINGS := S_COMPACT_STRINGS.wr W18
          have S_SIOOBE_FORMATTER := S_SIOOBE_FORMATTER.wr W18
          have S__assertionsDisabled := S__assertionsDisabled.wr W18
          have S_HI_BYTE_SHIFT := S_HI_BYTE_SHIFT.wr W18
          have S_LO_BYTE_SHIFT := S_LO_BYTE_SHIFT.wr W18
          have E_b16 := E_b16.wr W18
          have K18 := K17.wr W18 (Or.inr sz_b16)
          have zn18 : n0 ≤ h18.size := Nat.le_trans zn17 (Keep.of_wr W18).1
          have hk18 := Nat.le_trans hk17 (Keep.of_wr W18).1
          have N18 := Fr.snoc X18 N17 g_b16
          have V_b16 : Arv Z h18 b16 k16 .byte (4 : Int32) [(.int ((((224 : Int32) ||| (cq >>> ((12 : Int32) &&& 31))).toInt8.toInt32).toInt8.toInt32)), (.int ((((128 : Int32) ||| ((cq >>> ((6 : Int32) &&& 31)) &&& (63 : Int32))).toInt8.toInt32).toInt8.toInt32)), (.int 0), (.int 0)] (.int 0) := V_b16_18
          refine og (T18.setTop (mkF m 216 #[.val (.int p0), .val (.int p1), .val (.int p2), .val (.int ((p0 &&& (2147483647 : Int32)) % (6 : Int32))), .val (.int tv), .val (.int tv), .val (.int (p1 &&& (2147483647 : Int32))), .val (.int cq), .unset, .unset, .unset] [(.ref b16)])) ?_ st18
          refine og (T18.setTop (mkF m 226 #[.val (.int p0), .val (.int p1), .val (.int p2), .val (.int ((p0 &&& (2147483647 : Int32)) % (6 : Int32))), .val (.int tv), .val (.int tv), .val (.int (p1 &&& (2147483647 : Int32))), .val (.int cq), .unset, .unset, .unset] [(.int (cq &&& (63 : Int32))), (.int 128), (.int 2), (.ref b16), (.ref b16)])) ?_ (fun tX kX => XS.dup X18.here hx rfl (hb hby at_216) rfl rfl (XS.iconst X18.here hx rfl (hb hby at_217) (XS.sipush X18.here hx rfl (hb hby at_218) (XS.iload X18.here hx rfl (hb hby at_221) rfl (XS.bipush X18.here hx rfl (hb hby at_223) (XS.iand X18.here hx rfl (hb hby at_225) rfl kX))))))
          refine og (T18.setTop (mkF m 228 #[.val (.int p0), .val (.int p1), .val (.int p2), .val (.int ((p0 &&& (2147483647 : Int32)) % (6 : Int32))), .val (.int tv), .val (.int tv), .val (.int (p1 &&& (2147483647 : Int32))), .val (.int cq), .unset, .unset, .unset] [(.int (((128 : Int32) ||| (cq &&& (63 : Int32))).toInt8.toInt32)), (.int 2), (.ref b16), (.ref b16)])) ?_ (fun tX kX => XS.ior X18.here hx rfl (hb hby at_226) rfl (XS.i2b X18.here hx rfl (hb hby at_227) rfl kX))
          obtain ⟨cl19, Ar19, qa19, S19, N19', H19, G19⟩ := id V_b16
          have hin19 := inb_of (j := (2 : Int32)) S19 ⟨by decide, by decide⟩
          obtain ⟨T19, h19, X19, e19, W19, st19⟩ := stB X18 hx hZ e18 Ar19 (j := (2 : Int32)) hin19 (g := (mkF m 228 #[.val (.int p0), .val (.int p1), .val (.int p2), .val (.int ((p0 &&& (2147483647 : Int32)) % (6 : Int32))), .val (.int tv), .val (.int tv), .val (.int (p1 &&& (2147483647 : Int32))), .val (.int cq), .unset, .unset, .unset] [(.int (((128 : Int32) ||| (cq &&& (63 : Int32))).toInt8.toInt32)), (.int 2), (.ref b16), (.ref b16)])) rfl rfl (hb hby at_228)
          have V_b16_19 := Arv.set Ar19 qa19 S19 N19' H19 G19 (fits_nar_byte _) W19 2 rfl (Nat.le_of_ble_eq_true rfl)
          have S_INSTANCE := S_INSTANCE.wr W19
          have S_UTF_8 := S_UTF_8.wr W19
          have E_ch := E_ch.wr W19
          have S_COMPACT_STRINGS := S_COMPACT_STRINGS.wr W19
          have S_SIOOBE_FORMATTER := S_SIOOBE_FORMATTER.wr W19
          have S__assertionsDisabled := S__assertionsDisabled.wr W19
          have S_HI_BYTE_SHIFT := S_HI_BYTE_SHIFT.wr W19
          have S_LO_BYTE_SHIFT := S_LO_BYTE_SHIFT.wr W19
          have E_b16 := E_b16.wr W19
          have K19 := K18.wr W19 (Or.inr sz_b16)
          have zn19 : n0 ≤ h19.size := Nat.le_trans zn18 (Keep.of_wr W19).1
          have hk19 := Nat.le_trans hk18 (Keep.of_wr W19).1
          have N19 := Fr.snoc X19 N18 g_b16
          have V_b16 : Arv Z h19 b16 k16 .byte (4 : Int32) [(.int ((((224 : Int32) ||| (cq >>> ((12 : Int32) &&& 31))).toInt8.toInt32).toInt8.toInt32)), (.int ((((128 : Int32) ||| ((cq >>> ((6 : Int32) &&& 31)) &&& (63 : Int32))).toInt8.toInt32).toInt8.toInt32)), (.int ((((128 : Int32) ||| (cq &&& (63 : Int32))).toInt8.toInt32).toInt8.toInt32)), (.int 0)] (.int 0) := V_b16_19
          refine og (T19.setTop (mkF m 229 #[.val (.int p0), .val (.int p1), .val (.int p2), .val (.int ((p0 &&& (2147483647 : Int32)) % (6 : Int32))), .val (.int tv), .val (.int tv), .val (.int (p1 &&& (2147483647 : Int32))), .val (.int cq), .unset, .unset, .unset] [(.ref b16)])) ?_ st19
          refine og (T19.setTop (mkF m 233 #[.val (.int p0), .val (.int p1), .val (.int p2), .val (.int ((p0 &&& (2147483647 : Int32)) % (6 : Int32))), .val (.int tv), .val (.int tv), .val (.int (p1 &&& (2147483647 : Int32))), .val (.int cq), .unset, .unset, .unset] [(.int tv), (.int 3), (.ref b16), (.ref b16)])) ?_ (fun tX kX => XS.dup X19.here hx rfl (hb hby at_229) rfl rfl (XS.iconst X19.here hx rfl (hb hby at_230) (XS.iload X19.here hx rfl (hb hby at_231) rfl kX)))
          obtain ⟨cl20, Ar20, qa20, S20, N20', H20, G20⟩ := id V_b16
          have hin20 := inb_of (j := (3 : Int32)) S20 ⟨by decide, by decide⟩
          obtain ⟨T20, h20, X20, e20, W20, st20⟩ := stB X19 hx hZ e19 Ar20 (j := (3 : Int32)) hin20 (g := (mkF m 233 #[.val (.int p0), .val (.int p1), .val (.int p2), .val (.int ((p0 &&& (2147483647 : Int32)) % (6 : Int32))), .val (.int tv), .val (.int tv), .val (.int (p1 &&& (2147483647 : Int32))), .val (.int cq), .unset, .unset, .unset] [(.int tv), (.int 3), (.ref b16), (.ref b16)])) rfl rfl (hb hby at_233)
          have V_b16_20 := Arv.set Ar20 qa20 S20 N20' H20 G20 (fits_nar_byte _) W20 3 rfl (Nat.le_of_ble_eq_true rfl)
          have S_INSTANCE := S_INSTANCE.wr W20
          have S_UTF_8 := S_UTF_8.wr W20
          have E_ch := E_ch.wr W20
          have S_COMPACT_STRINGS := S_COMPACT_STRINGS.wr W20
          have S_SIOOBE_FORMATTER := S_SIOOBE_FORMATTER.wr W20
          have S__assertionsDisabled := S__assertionsDisabled.wr W20
          have S_HI_BYTE_SHIFT := S_HI_BYTE_SHIFT.wr W20
          have S_LO_BYTE_SHIFT := S_LO_BYTE_SHIFT.wr W20
          have E_b16 := E_b16.wr W20
          have K20 := K19.wr W20 (Or.inr sz_b16)
          have zn20 : n0 ≤ h20.size := Nat.le_trans zn19 (Keep.of_wr W20).1
          have hk20 := Nat.le_trans hk19 (Keep.of_wr W20).1
          have N20 := Fr.snoc X20 N19 g_b16
          have V_b16 : Arv Z h20 b16 k16 .byte (4 : Int32) [(.int ((((224 : Int32) ||| (cq >>> ((12 : Int32) &&& 31))).toInt8.toInt32).toInt8.toInt32)), (.int ((((128 : Int32) ||| ((cq >>> ((6 : Int32) &&& 31)) &&& (63 : Int32))).toInt8.toInt32).toInt8.toInt32)), (.int ((((128 : Int32) ||| (cq &&& (63 : Int32))).toInt8.toInt32).toInt8.toInt32)), (.int (tv.toInt8.toInt32))] (.int 0) := V_b16_20
          refine og (T20.setTop (mkF m 234 #[.val (.int p0), .val (.int p1), .val (.int p2), .val (.int ((p0 &&& (2147483647 : Int32)) % (6 : Int32))), .val (.int tv), .val (.int tv), .val (.int (p1 &&& (2147483647 : Int32))), .val (.int cq), .unset, .unset, .unset] [(.ref b16)])) ?_ st20
          refine og (T20.setTop (mkF m 238 #[.val (.int p0), .val (.int p1), .val (.int p2), .val (.int ((p0 &&& (2147483647 : Int32)) % (6 : Int32))), .val (.int tv), .val (.int tv), .val (.int (p1 &&& (2147483647 : Int32))), .val (.int cq), .val (.ref b16), .unset, .unset] [(.ref b16)])) ?_ (fun tX kX => XS.astore X20.here hx rfl (hb hby at_234) rfl rfl (l' := #[.val (.int p0), .val (.int p1), .val (.int p2), .val (.int ((p0 &&& (2147483647 : Int32)) % (6 : Int32))), .val (.int tv), .val (.int tv), .val (.int (p1 &&& (2147483647 : Int32))), .val (.int cq), .val (.ref b16), .unset, .unset]) rfl (XS.aload X20.here hx rfl (hb hby at_236) rfl rfl kX))
          obtain ⟨xa, xb, xc, exa, exb, exc, hH, hg⟩ := own_b2 cq hc0q hc1q hc2q
          have V_b16 : Arv Z h20 b16 k16 .byte (4 : Int32) [(.int xa), (.int xb), (.int xc), (.int tv)] (.int 0) := by have q := V_b16; rw [exa] at q; rw [exb] at q; rw [exc] at q; rw [hT.2.2.2.2.2.2] at q; exact q
          obtain ⟨_, _, ⟨T21, L21, k21, n21⟩, -, X21, ⟨Lc21, hQ21, l21, y21, z21⟩, st21⟩ := Jvm.LawKit.callS X20 hx (y := oM41) hown (mvT hZ (oW hw 2 rfl)) (mvT hZ (oW hw 3 rfl)) (mvT hZ (oW hw 4 rfl)) (mvT hZ (oW hw 5 rfl)) (by decide) (backOf (W := 0) (rm1G l Z aV hw [] b16 ch (4 : Int32) k16 [(.int xa), (.int xb), (.int xc), (.int tv)] cs fv (1 : Int32) (4 : Int32) [(.int (own_lo cq)), (.int (own_hi cq)), (.int (own_lo tv)), (.int (own_hi tv))] h20 n0 zn20 S_INSTANCE S_COMPACT_STRINGS S_SIOOBE_FORMATTER S__assertionsDisabled S_HI_BYTE_SHIFT S_LO_BYTE_SHIFT S_UTF_8 E_ch E_b16 V_b16 (by decide) (fun a0 u1 u2 hX nX ZX q0 q1 q2 q3 q4 q5 q6 q7 q8 q9 q10 gX => rm4C l Z aV hw [] a0 ch b16 u1 u2 k16 xa xb xc tv cq cs fv hX nX ZX q0 q1 q2 q3 q4 q5 q6 q7 q8 q9 q10 gX hcs hfv hH hT)) hZ (oW hw 5 rfl) (oW hw 4 rfl) (by decide) (by decide)) (g := (mkF m 238 #[.val (.int p0), .val (.int p1), .val (.int p2), .val (.int ((p0 &&& (2147483647 : Int32)) % (6 : Int32))), .val (.int tv), .val (.int tv), .val (.int (p1 &&& (2147483647 : Int32))), .val (.int cq), .val (.ref b16), .unset, .unset] [(.ref b16)])) rfl (by rw [hml]; rfl) (argsL := [(.ref b16)]) (rest := []) (lenOf pd___B_Ljava_lang_String_ rfl) rfl (by show 2 * 0 + _ ≤ _; exact Nat.le_of_eq rfl) (hb hby at_238) (fun _ _ => ⟨rfl, e20, (by decide : 1 + 5 ≤ _), (by decide : 4 + 44 ≤ _)⟩)
          dsimp only [Pt.U, Pt.locs, Pt.cells, Pt.slots] at X21 l21 y21 z21 st21 hQ21
          subst l21 y21 z21
          obtain ⟨sb_21, nb_21, kn_21, rfl, N21q, Kq21, sz21_sb, sz21_nb, E_sb_21_p, F_value_sb_21_p, F_coder_sb_21_p, V_nb_21_p⟩ := hQ21
          have N21 := Fr.app N20 N21q
          have ne_ch_sb_21 : ch ≠ sb_21 := Nat.ne_of_lt (Nat.lt_of_lt_of_le E_ch.lt sz21_sb)
          have ne_b16_sb_21 : b16 ≠ sb_21 := Nat.ne_of_lt (Nat.lt_of_lt_of_le E_b16.lt sz21_sb)
          have ne_ch_nb_21 : ch ≠ nb_21 := Nat.ne_of_lt (Nat.lt_of_lt_of_le E_ch.lt sz21_nb)
          have ne_b16_nb_21 : b16 ≠ nb_21 := Nat.ne_of_lt (Nat.lt_of_lt_of_le E_b16.lt sz21_nb)
          have S_INSTANCE := Sta.keep0 S_INSTANCE Kq21
          have S_UTF_8 := Sta.keep0 S_UTF_8 Kq21
          have S_COMPACT_STRINGS := Sta.keep0 S_COMPACT_STRINGS Kq21
          have S_SIOOBE_FORMATTER := Sta.keep0 S_SIOOBE_FORMATTER Kq21
          have S__assertionsDisabled := Sta.keep0 S__assertionsDisabled Kq21
          have S_HI_BYTE_SHIFT := Sta.keep0 S_HI_BYTE_SHIFT Kq21
          have S_LO_BYTE_SHIFT := Sta.keep0 S_LO_BYTE_SHIFT Kq21
          have E_ch := E_ch.keep Kq21
          have E_b16 := E_b16.keep Kq21
          have V_b16 := V_b16.keep Kq21 nin0
          have g_sb_21 : n0 ≤ sb_21 := Nat.le_trans zn20 sz21_sb
          have sz_sb_21 : h0.size ≤ sb_21 := Nat.le_trans K20.1 sz21_sb
          have g_nb_21 : n0 ≤ nb_21 := Nat.le_trans zn20 sz21_nb
          have sz_nb_21 : h0.size ≤ nb_21 := Nat.le_trans K20.1 sz21_nb
          have K21 := K20.trans Kq21 all0
          have zn21 : n0 ≤ T21.heap.size := Nat.le_trans zn20 Kq21.1
          have hk21 := Nat.le_trans hk20 Kq21.1
          have E_sb_21 := E_sb_21_p
          have F_value_sb_21 := F_value_sb_21_p
          have F_coder_sb_21 := F_coder_sb_21_p
          have V_nb_21 := V_nb_21_p
          refine og (T21.setTop (mkF m 241 #[.val (.int p0), .val (.int p1), .val (.int p2), .val (.int ((p0 &&& (2147483647 : Int32)) % (6 : Int32))), .val (.int tv), .val (.int tv), .val (.int (p1 &&& (2147483647 : Int32))), .val (.int cq), .val (.ref b16), .unset, .unset] [(.ref sb_21)])) ?_ st21
          refine og (T21.setTop (mkF m 246 #[.val (.int p0), .val (.int p1), .val (.int p2), .val (.int ((p0 &&& (2147483647 : Int32)) % (6 : Int32))), .val (.int tv), .val (.int tv), .val (.int (p1 &&& (2147483647 : Int32))), .val (.int cq), .val (.ref b16), .unset, .unset] [(.int tv), (.int (cq.toUInt32.toUInt16.toUInt32.toInt32)), (.ref sb_21)])) ?_ (fun tX kX => XS.iload X21.here hx rfl (hb hby at_241) rfl (XS.i2c X21.here hx rfl (hb hby at_243) rfl (XS.iload X21.here hx rfl (hb hby at_244) rfl kX)))
          obtain ⟨_, _, ⟨T22, L22, k22, n22⟩, -, X22, ⟨Lc22, hQ22, l22, y22, z22⟩, st22⟩ := Jvm.LawKit.callS X21 hx (y := oM26) hown (mvT hZ (oW hw 52 rfl)) (mvT hZ (oW hw 53 rfl)) (mvT hZ (oW hw 54 rfl)) (mvT hZ (oW hw 55 rfl)) (by decide) (backOf (W := 0) (rm8U l Z aV hw [] sb_21 (cq.toUInt32.toUInt16.toUInt32.toInt32) tv nb_21 kn_21 cq tv cs fv T21.heap n0 zn21 E_sb_21 F_value_sb_21 F_coder_sb_21 V_nb_21 S_COMPACT_STRINGS S_SIOOBE_FORMATTER S__assertionsDisabled S_HI_BYTE_SHIFT S_LO_BYTE_SHIFT hcs hfv hg hgt) hZ (oW hw 55 rfl) (oW hw 54 rfl) (by decide) (by decide)) (g := (mkF m 246 #[.val (.int p0), .val (.int p1), .val (.int p2), .val (.int ((p0 &&& (2147483647 : Int32)) % (6 : Int32))), .val (.int tv), .val (.int tv), .val (.int (p1 &&& (2147483647 : Int32))), .val (.int cq), .val (.ref b16), .unset, .unset] [(.int tv), (.int (cq.toUInt32.toUInt16.toUInt32.toInt32)), (.ref sb_21)])) rfl (by rw [hml]; rfl) (argsL := [(.ref sb_21), (.int (cq.toUInt32.toUInt16.toUInt32.toInt32)), (.int tv)]) (rest := []) (lenOf pd__Ljava_lang_String_CC_Z rfl) rfl (by show 2 * 0 + _ ≤ _; exact Nat.le_of_eq rfl) (hb hby at_246) (fun _ _ => ⟨rfl, rfl, (by decide : 6 + 0 ≤ _), (by decide : 48 + 0 ≤ _)⟩)
          dsimp only [Pt.U, Pt.locs, Pt.cells, Pt.slots] at X22 l22 y22 z22 st22 hQ22
          subst l22 y22 z22
          obtain ⟨rfl, N22q, e22⟩ := hQ22
          have N22 := Fr.app N21 N22q
          refine og (T22.setTop (mkF m 249 #[.val (.int p0), .val (.int p1), .val (.int p2), .val (.int ((p0 &&& (2147483647 : Int32)) % (6 : Int32))), .val (.int tv), .val (.int tv), .val (.int (p1 &&& (2147483647 : Int32))), .val (.int cq), .val (.ref b16), .unset, .unset] [(.int 1)])) ?_ st22
          refine OGo.retW X22 hS0 (by rw [e22]; exact hk21) (v := (some (.int 1))) (fun h => by rw [Bd.returns] at h; cases h) (BodyLoose.notSynchronized Bd) (fun fs hr => retN X22 hx (t := .boolean) (z := (1 : Int32)) Bd.returns (by simp) (hb hby at_249) hr) (Q := Q0 Z p0 p1 p2 ch cs fv h0 n0) ?_ (by decide) (by decide)
          show Q0 Z p0 p1 p2 ch cs fv h0 n0 _ T22.heap _
          rw [e22]
          exact ⟨rfl, N22⟩
        refine og (s₁.setTop (mkF m 173 #[.val (.int p0), .val (.int p1), .val (.int p2), .val (.int ((p0 &&& (2147483647 : Int32)) % (6 : Int32))), .val (.int tv), .val (.int tv), .val (.int (p1 &&& (2147483647 : Int32))), .val (.int cm), .unset, .unset, .unset] [(.int 55296), (.int cm)])) ?_ (fun tX kX => XS.iload X0.here hx rfl (hb hby at_169) rfl (X0.ldcInt hx hown (mvT hZ (oW hw 103 rfl)) (g := (mkF m 171 #[.val (.int p0), .val (.int p1), .val (.int p2), .val (.int ((p0 &&& (2147483647 : Int32)) % (6 : Int32))), .val (.int tv), .val (.int tv), .val (.int (p1 &&& (2147483647 : Int32))), .val (.int cm), .unset, .unset, .unset] [(.int cm)])) rfl (hb hby at_171) _ kX))
        by_cases hc173 : cm < (55296 : Int32)
        ·
          refine og (s₁.setTop (mkF m 184 #[.val (.int p0), .val (.int p1), .val (.int p2), .val (.int ((p0 &&& (2147483647 : Int32)) % (6 : Int32))), .val (.int tv), .val (.int tv), .val (.int (p1 &&& (2147483647 : Int32))), .val (.int cm), .unset, .unset, .unset] [])) ?_ (fun tX kX => XS.icmpYes X0.here hx rfl (pc0 := 173) (pc' := 184) rfl (hb hby at_173) rfl (tlt hc173).1 (by decide) (by decide) kX)
          exact J184 s₁ _ h0 cm X0 e0 N0 Z0 K0 S_INSTANCE S_UTF_8 E_ch S_COMPACT_STRINGS S_SIOOBE_FORMATTER S__assertionsDisabled S_HI_BYTE_SHIFT S_LO_BYTE_SHIFT ((own_j2 cm hm0 hm1).1 hc173).1 ((own_j2 cm hm0 hm1).1 hc173).2.1 ((own_j2 cm hm0 hm1).1 hc173).2.2
        ·
          refine og (s₁.setTop (mkF m 184 #[.val (.int p0), .val (.int p1), .val (.int p2), .val (.int ((p0 &&& (2147483647 : Int32)) % (6 : Int32))), .val (.int tv), .val (.int tv), .val (.int (p1 &&& (2147483647 : Int32))), .val (.int (cm + (2048 : Int32))), .unset, .unset, .unset] [])) ?_ (fun tX kX => XS.icmpNo X0.here hx rfl (hb hby at_173) rfl (flt hc173).1 (XS.iload X0.here hx rfl (hb hby at_176) rfl (XS.sipush X0.here hx rfl (hb hby at_178) (XS.iadd X0.here hx rfl (hb hby at_181) rfl (XS.istore X0.here hx rfl (hb hby at_182) rfl (l' := #[.val (.int p0), .val (.int p1), .val (.int p2), .val (.int ((p0 &&& (2147483647 : Int32)) % (6 : Int32))), .val (.int tv), .val (.int tv), .val (.int (p1 &&& (2147483647 : Int32))), .val (.int (cm + (2048 : Int32))), .unset, .unset, .unset]) rfl kX)))))
          exact J184 s₁ _ h0 (cm + (2048 : Int32)) X0 e0 N0 Z0 K0 S_INSTANCE S_UTF_8 E_ch S_COMPACT_STRINGS S_SIOOBE_FORMATTER S__assertionsDisabled S_HI_BYTE_SHIFT S_LO_BYTE_SHIFT ((own_j2 cm hm0 hm1).2 hc173).1 ((own_j2 cm hm0 hm1).2 hc173).2.1 ((own_j2 cm hm0 hm1).2 hc173).2.2
      ·
        refine og (s₁.setTop (mkF m 252 #[.val (.int p0), .val (.int p1), .val (.int p2), .val (.int ((p0 &&& (2147483647 : Int32)) % (6 : Int32))), .val (.int tv), .val (.int tv), .val (.int (p1 &&& (2147483647 : Int32))), .unset, .unset, .unset, .unset] [(.int 3), (.int ((p0 &&& (2147483647 : Int32)) % (6 : Int32)))])) ?_ (fun tX kX => XS.icmpYes X0.here hx rfl (pc0 := 155) (pc' := 250) rfl (hb hby at_155) rfl (feq hc155).2 (by decide) (by decide) (XS.iloadN X0.here hx rfl (hb hby at_250) rfl (XS.iconst X0.here hx rfl (hb hby at_251) kX)))
        by_cases hc252 : ((p0 &&& (2147483647 : Int32)) % (6 : Int32)) = (3 : Int32)
        ·
          refine og (s₁.setTop (mkF m 262 #[.val (.int p0), .val (.int p1), .val (.int p2), .val (.int ((p0 &&& (2147483647 : Int32)) % (6 : Int32))), .val (.int tv), .val (.int tv), .val (.int (p1 &&& (2147483647 : Int32))), .val (.int ((p1 &&& (2147483647 : Int32)) % (1048576 : Int32))), .unset, .unset, .unset] [])) ?_ (fun tX kX => XS.icmpNo X0.here hx rfl (hb hby at_252) rfl (teq hc252).2 (XS.iload X0.here hx rfl (hb hby at_255) rfl (X0.ldcInt hx hown (mvT hZ (oW hw 175 rfl)) (g := (mkF m 257 #[.val (.int p0), .val (.int p1), .val (.int p2), .val (.int ((p0 &&& (2147483647 : Int32)) % (6 : Int32))), .val (.int tv), .val (.int tv), .val (.int (p1 &&& (2147483647 : Int32))), .unset, .unset, .unset, .unset] [(.int (p1 &&& (2147483647 : Int32)))])) rfl (hb hby at_257) _ (iremM X0 hx rfl (hb hby at_259) rfl (by decide) (XS.istore X0.here hx rfl (hb hby at_260) rfl (l' := #[.val (.int p0), .val (.int p1), .val (.int p2), .val (.int ((p0 &&& (2147483647 : Int32)) % (6 : Int32))), .val (.int tv), .val (.int tv), .val (.int (p1 &&& (2147483647 : Int32))), .val (.int ((p1 &&& (2147483647 : Int32)) % (1048576 : Int32))), .unset, .unset, .unset]) rfl kX)))))
          obtain ⟨uq, euq, hu0, hu1⟩ := own_m3 p1
          rw [euq]
          refine og (s₁.setTop (mkF m 269 #[.val (.int p0), .val (.int p1), .val (.int p2), .val (.int ((p0 &&& (2147483647 : Int32)) % (6 : Int32))), .val (.int tv), .val (.int tv), .val (.int (p1 &&& (2147483647 : Int32))), .val (.int uq), .val (.int ((65536 : Int32) + uq)), .unset, .unset] [])) ?_ (fun tX kX => X0.ldcInt hx hown (mvT hZ (oW hw 176 rfl)) (g := (mkF m 262 #[.val (.int p0), .val (.int p1), .val (.int p2), .val (.int ((p0 &&& (2147483647 : Int32)) % (6 : Int32))), .val (.int tv), .val (.int tv), .val (.int (p1 &&& (2147483647 : Int32))), .val (.int uq), .unset, .unset, .unset] [])) rfl (hb hby at_262) _ (XS.iload X0.here hx rfl (hb hby at_264) rfl (XS.iadd X0.here hx rfl (hb hby at_266) rfl (XS.istore X0.here hx rfl (hb hby at_267) rfl (l' := #[.val (.int p0), .val (.int p1), .val (.int p2), .val (.int ((p0 &&& (2147483647 : Int32)) % (6 : Int32))), .val (.int tv), .val (.int tv), .val (.int (p1 &&& (2147483647 : Int32))), .val (.int uq), .val (.int ((65536 : Int32) + uq)), .unset, .unset]) rfl kX))))
          obtain ⟨cq, xa, xb, xc, xd, ca, cb, ecq, exa, exb, exc, exd, hH, hga, hgb⟩ := own_b3 uq hu0 hu1
          rw [ecq]
          refine og (s₁.setTop (mkF m 270 #[.val (.int p0), .val (.int p1), .val (.int p2), .val (.int ((p0 &&& (2147483647 : Int32)) % (6 : Int32))), .val (.int tv), .val (.int tv), .val (.int (p1 &&& (2147483647 : Int32))), .val (.int uq), .val (.int cq), .unset, .unset] [(.int 5)])) ?_ (fun tX kX => XS.iconst X0.here hx rfl (hb hby at_269) kX)
          obtain ⟨T23, h23, k23, X23, e23, E23, A23, EA23, st23⟩ := newPE X0 hx hZ (oW hw 1 rfl) e0 (g := (mkF m 270 #[.val (.int p0), .val (.int p1), .val (.int p2), .val (.int ((p0 &&& (2147483647 : Int32)) % (6 : Int32))), .val (.int tv), .val (.int tv), .val (.int (p1 &&& (2147483647 : Int32))), .val (.int uq), .val (.int cq), .unset, .unset] [(.int 5)])) rfl (hb hby at_270) rfl (by decide) (cap := 5) (by decide) (by decide) (by decide) (by decide) (ad := "[B") (by decide)
          obtain ⟨b23, g23⟩ : ∃ z, z = h0.size := ⟨_, rfl⟩
          rw [← g23] at A23 EA23 st23
          have ne_ch_b23 : ch ≠ b23 := Nat.ne_of_lt (Nat.lt_of_lt_of_le E_ch.lt (Nat.le_of_eq g23.symm))
          have S_INSTANCE := S_INSTANCE.ext E23
          have S_UTF_8 := S_UTF_8.ext E23
          have E_ch := E_ch.ext E23
          have S_COMPACT_STRINGS := S_COMPACT_STRINGS.ext E23
          have S_SIOOBE_FORMATTER := S_SIOOBE_FORMATTER.ext E23
          have S__assertionsDisabled := S__assertionsDisabled.ext E23
          have S_HI_BYTE_SHIFT := S_HI_BYTE_SHIFT.ext E23
          have S_LO_BYTE_SHIFT := S_LO_BYTE_SHIFT.ext E23
          have g_b23 : n0 ≤ b23 := Nat.le_trans Z0 (Nat.le_of_eq g23.symm)
          have sz_b23 : h0.size ≤ b23 := Nat.le_trans K0.1 (Nat.le_of_eq g23.symm)
          have zn23 : n0 ≤ h23.size := Nat.le_trans Z0 E23.1
          have hk23 := Nat.le_trans hk0 E23.1
          have K23 := K0.ext E23
          have E_b23 := EA23
          have V_b23 : Arv Z h23 b23 k23 .byte (5 : Int32) [(.int 0), (.int 0), (.int 0), (.int 0), (.int 0)] (.int 0) := (Arv.new A23 (by decide)).pad (pad_rep [] (.int 0) 5)
          refine og (T23.setTop (mkF m 272 #[.val (.int p0), .val (.int p1), .val (.int p2), .val (.int ((p0 &&& (2147483647 : Int32)) % (6 : Int32))), .val (.int tv), .val (.int tv), .val (.int (p1 &&& (2147483647 : Int32))), .val (.int uq), .val (.int cq), .unset, .unset] [(.ref b23)])) ?_ st23
          refine og (T23.setTop (mkF m 282 #[.val (.int p0), .val (.int p1), .val (.int p2), .val (.int ((p0 &&& (2147483647 : Int32)) % (6 : Int32))), .val (.int tv), .val (.int tv), .val (.int (p1 &&& (2147483647 : Int32))), .val (.int uq), .val (.int cq), .unset, .unset] [(.int (cq >>> ((18 : Int32) &&& 31))), (.int 240), (.int 0), (.ref b23), (.ref b23)])) ?_ (fun tX kX => XS.dup X23.here hx rfl (hb hby at_272) rfl rfl (XS.iconst X23.here hx rfl (hb hby at_273) (XS.sipush X23.here hx rfl (hb hby at_274) (XS.iload X23.here hx rfl (hb hby at_277) rfl (XS.bipush X23.here hx rfl (hb hby at_279) (XS.ishr X23.here hx rfl (hb hby at_281) rfl kX))))))
          refine og (T23.setTop (mkF m 284 #[.val (.int p0), .val (.int p1), .val (.int p2), .val (.int ((p0 &&& (2147483647 : Int32)) % (6 : Int32))), .val (.int tv), .val (.int tv), .val (.int (p1 &&& (2147483647 : Int32))), .val (.int uq), .val (.int cq), .unset, .unset] [(.int (((240 : Int32) ||| (cq >>> ((18 : Int32) &&& 31))).toInt8.toInt32)), (.int 0), (.ref b23), (.ref b23)])) ?_ (fun tX kX => XS.ior X23.here hx rfl (hb hby at_282) rfl (XS.i2b X23.here hx rfl (hb hby at_283) rfl kX))
          obtain ⟨cl24, Ar24, qa24, S24, N24', H24, G24⟩ := id V_b23
          have hin24 := inb_of (j := (0 : Int32)) S24 ⟨by decide, by decide⟩
          obtain ⟨T24, h24, X24, e24, W24, st24⟩ := stB X23 hx hZ e23 Ar24 (j := (0 : Int32)) hin24 (g := (mkF m 284 #[.val (.int p0), .val (.int p1), .val (.int p2), .val (.int ((p0 &&& (2147483647 : Int32)) % (6 : Int32))), .val (.int tv), .val (.int tv), .val (.int (p1 &&& (2147483647 : Int32))), .val (.int uq), .val (.int cq), .unset, .unset] [(.int (((240 : Int32) ||| (cq >>> ((18 : Int32) &&& 31))).toInt8.toInt32)), (.int 0), (.ref b23), (.ref b23)])) rfl rfl (hb hby at_284)
          have V_b23_24 := Arv.set Ar24 qa24 S24 N24' H24 G24 (fits_nar_byte _) W24 0 rfl (Nat.le_of_ble_eq_true rfl)
          have S_INSTANCE := S_INSTANCE.wr W24
          have S_UTF_8 := S_UTF_8.wr W24
          have E_ch := E_ch.wr W24
          have S_COMPACT_STRINGS := S_COMPACT_STRINGS.wr W24
          have S_SIOOBE_FORMATTER := S_SIOOBE_FORMATTER.wr W24
          have S__assertionsDisabled := S__assertionsDisabled.wr W24
          have S_HI_BYTE_SHIFT := S_HI_BYTE_SHIFT.wr W24
          have S_LO_BYTE_SHIFT := S_LO_BYTE_SHIFT.wr W24
          have E_b23 := E_b23.wr W24
          have K24 := K23.wr W24 (Or.inr sz_b23)
          have zn24 : n0 ≤ h24.size := Nat.le_trans zn23 (Keep.of_wr W24).1
          have hk24 := Nat.le_trans hk23 (Keep.of_wr W24).1
          have N24 := Fr.snoc X24 N0 g_b23
          have V_b23 : Arv Z h24 b23 k23 .byte (5 : Int32) [(.int ((((240 : Int32) ||| (cq >>> ((18 : Int32) &&& 31))).toInt8.toInt32).toInt8.toInt32)), (.int 0), (.int 0), (.int 0), (.int 0)] (.int 0) := V_b23_24
          refine og (T24.setTop (mkF m 285 #[.val (.int p0), .val (.int p1), .val (.int p2), .val (.int ((p0 &&& (2147483647 : Int32)) % (6 : Int32))), .val (.int tv), .val (.int tv), .val (.int (p1 &&& (2147483647 : Int32))), .val (.int uq), .val (.int cq), .unset, .unset] [(.ref b23)])) ?_ st24
          refine og (T24.setTop (mkF m 295 #[.val (.int p0), .val (.int p1), .val (.int p2), .val (.int ((p0 &&& (2147483647 : Int32)) % (6 : Int32))), .val (.int tv), .val (.int tv), .val (.int (p1 &&& (2147483647 : Int32))), .val (.int uq), .val (.int cq), .unset, .unset] [(.int (cq >>> ((12 : Int32) &&& 31))), (.int 128), (.int 1), (.ref b23), (.ref b23)])) ?_ (fun tX kX => XS.dup X24.here hx rfl (hb hby at_285) rfl rfl (XS.iconst X24.here hx rfl (hb hby at_286) (XS.sipush X24.here hx rfl (hb hby at_287) (XS.iload X24.here hx rfl (hb hby at_290) rfl (XS.bipush X24.here hx rfl (hb hby at_292) (XS.ishr X24.here hx rfl (hb hby at_294) rfl kX))))))
          refine og (T24.setTop (mkF m 300 #[.val (.int p0), .val (.int p1), .val (.int p2), .val (.int ((p0 &&& (2147483647 : Int32)) % (6 : Int32))), .val (.int tv), .val (.int tv), .val (.int (p1 &&& (2147483647 : Int32))), .val (.int uq), .val (.int cq), .unset, .unset] [(.int (((128 : Int32) ||| ((cq >>> ((12 : Int32) &&& 31)) &&& (63 : Int32))).toInt8.toInt32)), (.int 1), (.ref b23), (.ref b23)])) ?_ (fun tX kX => XS.bipush X24.here hx rfl (hb hby at_295) (XS.iand X24.here hx rfl (hb hby at_297) rfl (XS.ior X24.here hx rfl (hb hby at_298) rfl (XS.i2b X24.here hx rfl (hb hby at_299) rfl kX))))
          obtain ⟨cl25, Ar25, qa25, S25, N25', H25, G25⟩ := id V_b23
          have hin25 := inb_of (j := (1 : Int32)) S25 ⟨by decide, by decide⟩
          obtain ⟨T25, h25, X25, e25, W25, st25⟩ := stB X24 hx hZ e24 Ar25 (j := (1 : Int32)) hin25 (g := (mkF m 300 #[.val (.int p0), .val (.int p1), .val (.int p2), .val (.int ((p0 &&& (2147483647 : Int32)) % (6 : Int32))), .val (.int tv), .val (.int tv), .val (.int (p1 &&& (2147483647 : Int32))), .val (.int uq), .val (.int cq), .unset, .unset] [(.int (((128 : Int32) ||| ((cq >>> ((12 : Int32) &&& 31)) &&& (63 : Int32))).toInt8.toInt32)), (.int 1), (.ref b23), (.ref b23)])) rfl rfl (hb hby at_300)
          have V_b23_25 := Arv.set Ar25 qa25 S25 N25' H25 G25 (fits_nar_byte _) W25 1 rfl (Nat.le_of_ble_eq_true rfl)
          have S_INSTANCE := S_INSTANCE.wr W25
          have S_UTF_8 := S_UTF_8.wr W25
          have E_ch := E_ch.wr W25
          have S_COMPACT_STRINGS := S_COMPACT_STRINGS.wr W25
          have S_SIOOBE_FORMATTER := S_SIOOBE_FORMATTER.wr W25
          have S__assertionsDisabled := S__assertionsDisabled.wr W25
          have S_HI_BYTE_SHIFT := S_HI_BYTE_SHIFT.wr W25
          have S_LO_BYTE_SHIFT := S_LO_BYTE_SHIFT.wr W25
          have E_b23 := E_b23.wr W25
          have K25 := K24.wr W25 (Or.inr sz_b23)
          have zn25 : n0 ≤ h25.size := Nat.le_trans zn24 (Keep.of_wr W25).1
          have hk25 := Nat.le_trans hk24 (Keep.of_wr W25).1
          have N25 := Fr.snoc X25 N24 g_b23
          have V_b23 : Arv Z h25 b23 k23 .byte (5 : Int32) [(.int ((((240 : Int32) ||| (cq >>> ((18 : Int32) &&& 31))).toInt8.toInt32).toInt8.toInt32)), (.int ((((128 : Int32) ||| ((cq >>> ((12 : Int32) &&& 31)) &&& (63 : Int32))).toInt8.toInt32).toInt8.toInt32)), (.int 0), (.int 0), (.int 0)] (.int 0) := V_b23_25
          refine og (T25.setTop (mkF m 301 #[.val (.int p0), .val (.int p1), .val (.int p2), .val (.int ((p0 &&& (2147483647 : Int32)) % (6 : Int32))), .val (.int tv), .val (.int tv), .val (.int (p1 &&& (2147483647 : Int32))), .val (.int uq), .val (.int cq), .unset, .unset] [(.ref b23)])) ?_ st25
          refine og (T25.setTop (mkF m 311 #[.val (.int p0), .val (.int p1), .val (.int p2), .val (.int ((p0 &&& (2147483647 : Int32)) % (6 : Int32))), .val (.int tv), .val (.int tv), .val (.int (p1 &&& (2147483647 : Int32))), .val (.int uq), .val (.int cq), .unset, .unset] [(.int (cq >>> ((6 : Int32) &&& 31))), (.int 128), (.int 2), (.ref b23), (.ref b23)])) ?_ (fun tX kX => XS.dup X25.here hx rfl (hb hby at_301) rfl rfl (XS.iconst X25.here hx rfl (hb hby at_302) (XS.sipush X25.here hx rfl (hb hby at_303) (XS.iload X25.here hx rfl (hb hby at_306) rfl (XS.bipush X25.here hx rfl (hb hby at_308) (XS.ishr X25.here hx rfl (hb hby at_310) rfl kX))))))
          refine og (T25.setTop (mkF m 316 #[.val (.int p0), .val (.int p1), .val (.int p2), .val (.int ((p0 &&& (2147483647 : Int32)) % (6 : Int32))), .val (.int tv), .val (.int tv), .val (.int (p1 &&& (2147483647 : Int32))), .val (.int uq), .val (.int cq), .unset, .unset] [(.int (((128 : Int32) ||| ((cq >>> ((6 : Int32) &&& 31)) &&& (63 : Int32))).toInt8.toInt32)), (.int 2), (.ref b23), (.ref b23)])) ?_ (fun tX kX => XS.bipush X25.here hx rfl (hb hby at_311) (XS.iand X25.here hx rfl (hb hby at_313) rfl (XS.ior X25.here hx rfl (hb hby at_314) rfl (XS.i2b X25.here hx rfl (hb hby at_315) rfl kX))))
          obtain ⟨cl26, Ar26, qa26, S26, N26', H26, G26⟩ := id V_b23
          have hin26 := inb_of (j := (2 : Int32)) S26 ⟨by decide, by decide⟩
          obtain ⟨T26, h26, X26, e26, W26, st26⟩ := stB X25 hx hZ e25 Ar26 (j := (2 : Int32)) hin26 (g := (mkF m 316 #[.val (.int p0), .val (.int p1), .val (.int p2), .val (.int ((p0 &&& (2147483647 : Int32)) % (6 : Int32))), .val (.int tv), .val (.int tv), .val (.int (p1 &&& (2147483647 : Int32))), .val (.int uq), .val (.int cq), .unset, .unset] [(.int (((128 : Int32) ||| ((cq >>> ((6 : Int32) &&& 31)) &&& (63 : Int32))).toInt8.toInt32)), (.int 2), (.ref b23), (.ref b23)])) rfl rfl (hb hby at_316)
          have V_b23_26 := Arv.set Ar26 qa26 S26 N26' H26 G26 (fits_nar_byte _) W26 2 rfl (Nat.le_of_ble_eq_true rfl)
          have S_INSTANCE := S_INSTANCE.wr W26
          have S_UTF_8 := S_UTF_8.wr W26
          have E_ch := E_ch.wr W26
          have S_COMPACT_STRINGS := S_COMPACT_STRINGS.wr W26
          have S_SIOOBE_FORMATTER := S_SIOOBE_FORMATTER.wr W26
          have S__assertionsDisabled := S__assertionsDisabled.wr W26
          have S_HI_BYTE_SHIFT := S_HI_BYTE_SHIFT.wr W26
          have S_LO_BYTE_SHIFT := S_LO_BYTE_SHIFT.wr W26
          have E_b23 := E_b23.wr W26
          have K26 := K25.wr W26 (Or.inr sz_b23)
          have zn26 : n0 ≤ h26.size := Nat.le_trans zn25 (Keep.of_wr W26).1
          have hk26 := Nat.le_trans hk25 (Keep.of_wr W26).1
          have N26 := Fr.snoc X26 N25 g_b23
          have V_b23 : Arv Z h26 b23 k23 .byte (5 : Int32) [(.int ((((240 : Int32) ||| (cq >>> ((18 : Int32) &&& 31))).toInt8.toInt32).toInt8.toInt32)), (.int ((((128 : Int32) ||| ((cq >>> ((12 : Int32) &&& 31)) &&& (63 : Int32))).toInt8.toInt32).toInt8.toInt32)), (.int ((((128 : Int32) ||| ((cq >>> ((6 : Int32) &&& 31)) &&& (63 : Int32))).toInt8.toInt32).toInt8.toInt32)), (.int 0), (.int 0)] (.int 0) := V_b23_26
          refine og (T26.setTop (mkF m 317 #[.val (.int p0), .val (.int p1), .val (.int p2), .val (.int ((p0 &&& (2147483647 : Int32)) % (6 : Int32))), .val (.int tv), .val (.int tv), .val (.int (p1 &&& (2147483647 : Int32))), .val (.int uq), .val (.int cq), .unset, .unset] [(.ref b23)])) ?_ st26
          refine og (T26.setTop (mkF m 327 #[.val (.int p0), .val (.int p1), .val (.int p2), .val (.int ((p0 &&& (2147483647 : Int32)) % (6 : Int32))), .val (.int tv), .val (.int tv), .val (.int (p1 &&& (2147483647 : Int32))), .val (.int uq), .val (.int cq), .unset, .unset] [(.int (cq &&& (63 : Int32))), (.int 128), (.int 3), (.ref b23), (.ref b23)])) ?_ (fun tX kX => XS.dup X26.here hx rfl (hb hby at_317) rfl rfl (XS.iconst X26.here hx rfl (hb hby at_318) (XS.sipush X26.here hx rfl (hb hby at_319) (XS.iload X26.here hx rfl (hb hby at_322) rfl (XS.bipush X26.here hx rfl (hb hby at_324) (XS.iand X26.here hx rfl (hb hby at_326) rfl kX))))))
          refine og (T26.setTop (mkF m 329 #[.val (.int p0), .val (.int p1), .val (.int p2), .val (.int ((p0 &&& (2147483647 : Int32)) % (6 : Int32))), .val (.int tv), .val (.int tv), .val (.int (p1 &&& (2147483647 : Int32))), .val (.int uq), .val (.int cq), .unset, .unset] [(.int (((128 : Int32) ||| (cq &&& (63 : Int32))).toInt8.toInt32)), (.int 3), (.ref b23), (.ref b23)])) ?_ (fun tX kX => XS.ior X26.here hx rfl (hb hby at_327) rfl (XS.i2b X26.here hx rfl (hb hby at_328) rfl kX))
          obtain ⟨cl27, Ar27, qa27, S27, N27', H27, G27⟩ := id V_b23
          have hin27 := inb_of (j := (3 : Int32)) S27 ⟨by decide, by decide⟩
          obtain ⟨T27, h27, X27, e27, W27, st27⟩ := stB X26 hx hZ e26 Ar27 (j := (3 : Int32)) hin27 (g := (mkF m 329 #[.val (.int p0), .val (.int p1), .val (.int p2), .val (.int ((p0 &&& (2147483647 : Int32)) % (6 : Int32))), .val (.int tv), .val (.int tv), .val (.int (p1 &&& (2147483647 : Int32))), .val (.int uq), .val (.int cq), .unset, .unset] [(.int (((128 : Int32) ||| (cq &&& (63 : Int32))).toInt8.toInt32)), (.int 3), (.ref b23), (.ref b23)])) rfl rfl (hb hby at_329)
          have V_b23_27 := Arv.set Ar27 qa27 S27 N27' H27 G27 (fits_nar_byte _) W27 3 rfl (Nat.le_of_ble_eq_true rfl)
          have S_INSTANCE := S_INSTANCE.wr W27
          have S_UTF_8 := S_UTF_8.wr W27
          have E_ch := E_ch.wr W27
          have S_COMPACT_STRINGS := S_COMPACT_STRINGS.wr W27
          have S_SIOOBE_FORMATTER := S_SIOOBE_FORMATTER.wr W27
          have S__assertionsDisabled := S__assertionsDisabled.wr W27
          have S_HI_BYTE_SHIFT := S_HI_BYTE_SHIFT.wr W27
          have S_LO_BYTE_SHIFT := S_LO_BYTE_SHIFT.wr W27
          have E_b23 := E_b23.wr W27
          have K27 := K26.wr W27 (Or.inr sz_b23)
          have zn27 : n0 ≤ h27.size := Nat.le_trans zn26 (Keep.of_wr W27).1
          have hk27 := Nat.le_trans hk26 (Keep.of_wr W27).1
          have N27 := Fr.snoc X27 N26 g_b23
          have V_b23 : Arv Z h27 b23 k23 .byte (5 : Int32) [(.int ((((240 : Int32) ||| (cq >>> ((18 : Int32) &&& 31))).toInt8.toInt32).toInt8.toInt32)), (.int ((((128 : Int32) ||| ((cq >>> ((12 : Int32) &&& 31)) &&& (63 : Int32))).toInt8.toInt32).toInt8.toInt32)), (.int ((((128 : Int32) ||| ((cq >>> ((6 : Int32) &&& 31)) &&& (63 : Int32))).toInt8.toInt32).toInt8.toInt32)), (.int ((((128 : Int32) ||| (cq &&& (63 : Int32))).toInt8.toInt32).toInt8.toInt32)), (.int 0)] (.int 0) := V_b23_27
          refine og (T27.setTop (mkF m 330 #[.val (.int p0), .val (.int p1), .val (.int p2), .val (.int ((p0 &&& (2147483647 : Int32)) % (6 : Int32))), .val (.int tv), .val (.int tv), .val (.int (p1 &&& (2147483647 : Int32))), .val (.int uq), .val (.int cq), .unset, .unset] [(.ref b23)])) ?_ st27
          refine og (T27.setTop (mkF m 334 #[.val (.int p0), .val (.int p1), .val (.int p2), .val (.int ((p0 &&& (2147483647 : Int32)) % (6 : Int32))), .val (.int tv), .val (.int tv), .val (.int (p1 &&& (2147483647 : Int32))), .val (.int uq), .val (.int cq), .unset, .unset] [(.int tv), (.int 4), (.ref b23), (.ref b23)])) ?_ (fun tX kX => XS.dup X27.here hx rfl (hb hby at_330) rfl rfl (XS.iconst X27.here hx rfl (hb hby at_331) (XS.iload X27.here hx rfl (hb hby at_332) rfl kX)))
          obtain ⟨cl28, Ar28, qa28, S28, N28', H28, G28⟩ := id V_b23
          have hin28 := inb_of (j := (4 : Int32)) S28 ⟨by decide, by decide⟩
          obtain ⟨T28, h28, X28, e28, W28, st28⟩ := stB X27 hx hZ e27 Ar28 (j := (4 : Int32)) hin28 (g := (mkF m 334 #[.val (.int p0), .val (.int p1), .val (.int p2), .val (.int ((p0 &&& (2147483647 : Int32)) % (6 : Int32))), .val (.int tv), .val (.int tv), .val (.int (p1 &&& (2147483647 : Int32))), .val (.int uq), .val (.int cq), .unset, .unset] [(.int tv), (.int 4), (.ref b23), (.ref b23)])) rfl rfl (hb hby at_334)
          have V_b23_28 := Arv.set Ar28 qa28 S28 N28' H28 G28 (fits_nar_byte _) W28 4 rfl (Nat.le_of_ble_eq_true rfl)
          have S_INSTANCE := S_INSTANCE.wr W28
          have S_UTF_8 := S_UTF_8.wr W28
          have E_ch := E_ch.wr W28
          have S_COMPACT_STRINGS := S_COMPACT_STRINGS.wr W28
          have S_SIOOBE_FORMATTER := S_SIOOBE_FORMATTER.wr W28
          have S__assertionsDisabled := S__assertionsDisabled.wr W28
          have S_HI_BYTE_SHIFT := S_HI_BYTE_SHIFT.wr W28
          have S_LO_BYTE_SHIFT := S_LO_BYTE_SHIFT.wr W28
          have E_b23 := E_b23.wr W28
          have K28 := K27.wr W28 (Or.inr sz_b23)
          have zn28 : n0 ≤ h28.size := Nat.le_trans zn27 (Keep.of_wr W28).1
          have hk28 := Nat.le_trans hk27 (Keep.of_wr W28).1
          have N28 := Fr.snoc X28 N27 g_b23
          have V_b23 : Arv Z h28 b23 k23 .byte (5 : Int32) [(.int ((((240 : Int32) ||| (cq >>> ((18 : Int32) &&& 31))).toInt8.toInt32).toInt8.toInt32)), (.int ((((128 : Int32) ||| ((cq >>> ((12 : Int32) &&& 31)) &&& (63 : Int32))).toInt8.toInt32).toInt8.toInt32)), (.int ((((128 : Int32) ||| ((cq >>> ((6 : Int32) &&& 31)) &&& (63 : Int32))).toInt8.toInt32).toInt8.toInt32)), (.int ((((128 : Int32) ||| (cq &&& (63 : Int32))).toInt8.toInt32).toInt8.toInt32)), (.int (tv.toInt8.toInt32))] (.int 0) := V_b23_28
          refine og (T28.setTop (mkF m 335 #[.val (.int p0), .val (.int p1), .val (.int p2), .val (.int ((p0 &&& (2147483647 : Int32)) % (6 : Int32))), .val (.int tv), .val (.int tv), .val (.int (p1 &&& (2147483647 : Int32))), .val (.int uq), .val (.int cq), .unset, .unset] [(.ref b23)])) ?_ st28
          refine og (T28.setTop (mkF m 339 #[.val (.int p0), .val (.int p1), .val (.int p2), .val (.int ((p0 &&& (2147483647 : Int32)) % (6 : Int32))), .val (.int tv), .val (.int tv), .val (.int (p1 &&& (2147483647 : Int32))), .val (.int uq), .val (.int cq), .val (.ref b23), .unset] [(.ref b23)])) ?_ (fun tX kX => XS.astore X28.here hx rfl (hb hby at_335) rfl rfl (l' := #[.val (.int p0), .val (.int p1), .val (.int p2), .val (.int ((p0 &&& (2147483647 : Int32)) % (6 : Int32))), .val (.int tv), .val (.int tv), .val (.int (p1 &&& (2147483647 : Int32))), .val (.int uq), .val (.int cq), .val (.ref b23), .unset]) rfl (XS.aload X28.here hx rfl (hb hby at_337) rfl rfl kX))
          have V_b23 : Arv Z h28 b23 k23 .byte (5 : Int32) [(.int xa), (.int xb), (.int xc), (.int xd), (.int tv)] (.int 0) := by have q := V_b23; rw [exa] at q; rw [exb] at q; rw [exc] at q; rw [exd] at q; rw [hT.2.2.2.2.2.2] at q; exact q
          obtain ⟨_, _, ⟨T29, L29, k29, n29⟩, -, X29, ⟨Lc29, hQ29, l29, y29, z29⟩, st29⟩ := Jvm.LawKit.callS X28 hx (y := oM41) hown (mvT hZ (oW hw 2 rfl)) (mvT hZ (oW hw 3 rfl)) (mvT hZ (oW hw 4 rfl)) (mvT hZ (oW hw 5 rfl)) (by decide) (backOf (W := 0) (rm1G l Z aV hw [] b23 ch (5 : Int32) k23 [(.int xa), (.int xb), (.int xc), (.int xd), (.int tv)] cs fv (1 : Int32) (6 : Int32) [(.int (own_lo ca)), (.int (own_hi ca)), (.int (own_lo cb)), (.int (own_hi cb)), (.int (own_lo tv)), (.int (own_hi tv))] h28 n0 zn28 S_INSTANCE S_COMPACT_STRINGS S_SIOOBE_FORMATTER S__assertionsDisabled S_HI_BYTE_SHIFT S_LO_BYTE_SHIFT S_UTF_8 E_ch E_b23 V_b23 (by decide) (fun a0 u1 u2 hX nX ZX q0 q1 q2 q3 q4 q5 q6 q7 q8 q9 q10 gX => rm4D l Z aV hw [] a0 ch b23 u1 u2 k23 xa xb xc xd tv cq ca cb cs fv hX nX ZX q0 q1 q2 q3 q4 q5 q6 q7 q8 q9 q10 gX hcs hfv hH hT)) hZ (oW hw 5 rfl) (oW hw 4 rfl) (by decide) (by decide)) (g := (mkF m 339 #[.val (.int p0), .val (.int p1), .val (.int p2), .val (.int ((p0 &&& (2147483647 : Int32)) % (6 : Int32))), .val (.int tv), .val (.int tv), .val (.int (p1 &&& (2147483647 : Int32))), .val (.int uq), .val (.int cq), .val (.ref b23), .unset] [(.ref b23)])) rfl (by rw [hml]; rfl) (argsL := [(.ref b23)]) (rest := []) (lenOf pd___B_Ljava_lang_String_ rfl) rfl (by show 2 * 0 + _ ≤ _; exact Nat.le_of_eq rfl) (hb hby at_339) (fun _ _ => ⟨rfl, e28, (by decide : 1 + 5 ≤ _), (by decide : 5 + 44 ≤ _)⟩)
          dsimp only [Pt.U, Pt.locs, Pt.cells, Pt.slots] at X29 l29 y29 z29 st29 hQ29
          subst l29 y29 z29
          obtain ⟨sb_29, nb_29, kn_29, rfl, N29q, Kq29, sz29_sb, sz29_nb, E_sb_29_p, F_value_sb_29_p, F_coder_sb_29_p, V_nb_29_p⟩ := hQ29
          have N29 := Fr.app N28 N29q
          have ne_ch_sb_29 : ch ≠ sb_29 := Nat.ne_of_lt (Nat.lt_of_lt_of_le E_ch.lt sz29_sb)
          have ne_b23_sb_29 : b23 ≠ sb_29 := Nat.ne_of_lt (Nat.lt_of_lt_of_le E_b23.lt sz29_sb)
          have ne_ch_nb_29 : ch ≠ nb_29 := Nat.ne_of_lt (Nat.lt_of_lt_of_le E_ch.lt sz29_nb)
          have ne_b23_nb_29 : b23 ≠ nb_29 := Nat.ne_of_lt (Nat.lt_of_lt_of_le E_b23.lt sz29_nb)
          have S_INSTANCE := Sta.keep0 S_INSTANCE Kq29
          have S_UTF_8 := Sta.keep0 S_UTF_8 Kq29
          have S_COMPACT_STRINGS := Sta.keep0 S_COMPACT_STRINGS Kq29
          have S_SIOOBE_FORMATTER := Sta.keep0 S_SIOOBE_FORMATTER Kq29
          have S__assertionsDisabled := Sta.keep0 S__assertionsDisabled Kq29
          have S_HI_BYTE_SHIFT := Sta.keep0 S_HI_BYTE_SHIFT Kq29
          have S_LO_BYTE_SHIFT := Sta.keep0 S_LO_BYTE_SHIFT Kq29
          have E_ch := E_ch.keep Kq29
          have E_b23 := E_b23.keep Kq29
          have V_b23 := V_b23.keep Kq29 nin0
          have g_sb_29 : n0 ≤ sb_29 := Nat.le_trans zn28 sz29_sb
          have sz_sb_29 : h0.size ≤ sb_29 := Nat.le_trans K28.1 sz29_sb
          have g_nb_29 : n0 ≤ nb_29 := Nat.le_trans zn28 sz29_nb
          have sz_nb_29 : h0.size ≤ nb_29 := Nat.le_trans K28.1 sz29_nb
          have K29 := K28.trans Kq29 all0
          have zn29 : n0 ≤ T29.heap.size := Nat.le_trans zn28 Kq29.1
          have hk29 := Nat.le_trans hk28 Kq29.1
          have E_sb_29 := E_sb_29_p
          have F_value_sb_29 := F_value_sb_29_p
          have F_coder_sb_29 := F_coder_sb_29_p
          have V_nb_29 := V_nb_29_p
          refine og (T29.setTop (mkF m 342 #[.val (.int p0), .val (.int p1), .val (.int p2), .val (.int ((p0 &&& (2147483647 : Int32)) % (6 : Int32))), .val (.int tv), .val (.int tv), .val (.int (p1 &&& (2147483647 : Int32))), .val (.int uq), .val (.int cq), .val (.ref b23), .unset] [(.ref sb_29)])) ?_ st29
          refine og (T29.setTop (mkF m 346 #[.val (.int p0), .val (.int p1), .val (.int p2), .val (.int ((p0 &&& (2147483647 : Int32)) % (6 : Int32))), .val (.int tv), .val (.int tv), .val (.int (p1 &&& (2147483647 : Int32))), .val (.int uq), .val (.int cq), .val (.ref b23), .val (.ref sb_29)] [(.ref sb_29)])) ?_ (fun tX kX => XS.astore X29.here hx rfl (hb hby at_342) rfl rfl (l' := #[.val (.int p0), .val (.int p1), .val (.int p2), .val (.int ((p0 &&& (2147483647 : Int32)) % (6 : Int32))), .val (.int tv), .val (.int tv), .val (.int (p1 &&& (2147483647 : Int32))), .val (.int uq), .val (.int cq), .val (.ref b23), .val (.ref sb_29)]) rfl (XS.aload X29.here hx rfl (hb hby at_344) rfl rfl kX))
          obtain ⟨cq30, kq30, q30a, q30b, q30c⟩ := isOf hZ rfl E_sb_29
          obtain ⟨_, _, ⟨T30, L30, k30, n30⟩, -, X30, ⟨Lc30, hQ30, l30, y30, z30⟩, st30⟩ := X29.virtualBack hx (y := oM15) (z := oM15) hown (mvT hZ (oW hw 56 rfl)) (mvT hZ (oW hw 57 rfl)) (notFace_of_selects (args := #[]) (mvT hZ (oW hw 59 rfl))) (mvT hZ (oW hw 59 rfl)) (mvT hZ (oW hw 58 rfl)) (by decide) (backOf (W := 0) (rm9 l Z aV hw [] sb_29 nb_29 kn_29 (6 : Int32) [(.int (own_lo ca)), (.int (own_hi ca)), (.int (own_lo cb)), (.int (own_hi cb)), (.int (own_lo tv)), (.int (own_hi tv))] (1 : Int32) cs T29.heap n0 zn29 E_sb_29 F_value_sb_29 F_coder_sb_29 V_nb_29 S_COMPACT_STRINGS hcs (by decide)) hZ (oW hw 60 rfl) (oW hw 9 rfl) (by decide) (by decide)) q30a q30c (g := (mkF m 346 #[.val (.int p0), .val (.int p1), .val (.int p2), .val (.int ((p0 &&& (2147483647 : Int32)) % (6 : Int32))), .val (.int tv), .val (.int tv), .val (.int (p1 &&& (2147483647 : Int32))), .val (.int uq), .val (.int cq), .val (.ref b23), .val (.ref sb_29)] [(.ref sb_29)])) rfl (by rw [hml]; rfl) (Steps.refl _) (argsL := []) (rest := []) (lenOf pd___I rfl) rfl (by show 2 * 0 + _ ≤ _; exact Nat.le_of_eq rfl) (hb hby at_346) (fun _ _ => ⟨rfl, rfl, (by decide : 6 + 0 ≤ _), (by decide : 49 + 0 ≤ _)⟩)
          dsimp only [Pt.U, Pt.locs, Pt.cells, Pt.slots] at X30 l30 y30 z30 st30 hQ30
          subst l30 y30 z30
          obtain ⟨rfl, N30q, e30⟩ := hQ30
          have N30 := Fr.app N29 N30q
          refine og (T30.setTop (mkF m 349 #[.val (.int p0), .val (.int p1), .val (.int p2), .val (.int ((p0 &&& (2147483647 : Int32)) % (6 : Int32))), .val (.int tv), .val (.int tv), .val (.int (p1 &&& (2147483647 : Int32))), .val (.int uq), .val (.int cq), .val (.ref b23), .val (.ref sb_29)] [(.int ((6 : Int32) >>> ((1 : Int32) &&& 31)))])) ?_ (fun tX kX => st30.trans kX)
          refine og (T30.setTop (mkF m 356 #[.val (.int p0), .val (.int p1), .val (.int p2), .val (.int ((p0 &&& (2147483647 : Int32)) % (6 : Int32))), .val (.int tv), .val (.int tv), .val (.int (p1 &&& (2147483647 : Int32))), .val (.int uq), .val (.int cq), .val (.ref b23), .val (.ref sb_29)] [(.int 0), (.ref sb_29)])) ?_ (fun tX kX => XS.iconst X30.here hx rfl (hb hby at_349) (XS.icmpNo X30.here hx rfl (hb hby at_350) rfl (teq (by decide)).2 (XS.aload X30.here hx rfl (hb hby at_353) rfl rfl (XS.iconst X30.here hx rfl (hb hby at_355) kX))))
          obtain ⟨cq31, kq31, q31a, q31b, q31c⟩ := isOf hZ e30 E_sb_29
          obtain ⟨_, _, ⟨T31, L31, k31, n31⟩, -, X31, ⟨Lc31, hQ31, l31, y31, z31⟩, st31⟩ := X30.virtualBack hx (y := oM21) (z := oM21) hown (mvT hZ (oW hw 66 rfl)) (mvT hZ (oW hw 67 rfl)) (notFace_of_selects (args := #[]) (mvT hZ (oW hw 69 rfl))) (mvT hZ (oW hw 69 rfl)) (mvT hZ (oW hw 68 rfl)) (by decide) (backOf (W := 0) (rm11U l Z aV hw [] sb_29 (0 : Int32) nb_29 kn_29 (6 : Int32) [(.int (own_lo ca)), (.int (own_hi ca)), (.int (own_lo cb)), (.int (own_hi cb)), (.int (own_lo tv)), (.int (own_hi tv))] (own_lo ca) (own_hi ca) cs fv T29.heap n0 zn29 E_sb_29 F_value_sb_29 F_coder_sb_29 V_nb_29 S_COMPACT_STRINGS S_SIOOBE_FORMATTER S__assertionsDisabled S_HI_BYTE_SHIFT S_LO_BYTE_SHIFT hcs hfv (own_at6_0 _ _ _ _ _ _)) hZ (oW hw 70 rfl) (oW hw 9 rfl) (by decide) (by decide)) q31a q31c (g := (mkF m 356 #[.val (.int p0), .val (.int p1), .val (.int p2), .val (.int ((p0 &&& (2147483647 : Int32)) % (6 : Int32))), .val (.int tv), .val (.int tv), .val (.int (p1 &&& (2147483647 : Int32))), .val (.int uq), .val (.int cq), .val (.ref b23), .val (.ref sb_29)] [(.int 0), (.ref sb_29)])) rfl (by rw [hml]; rfl) (Steps.refl _) (argsL := [(.int 0)]) (rest := []) (lenOf pd__I_C rfl) rfl (by show 2 * 0 + _ ≤ _; exact Nat.le_of_eq rfl) (hb hby at_356) (fun _ _ => ⟨rfl, e30, (by decide : 6 + 0 ≤ _), (by decide : 49 + 0 ≤ _)⟩)
          dsimp only [Pt.U, Pt.locs, Pt.cells, Pt.slots] at X31 l31 y31 z31 st31 hQ31
          subst l31 y31 z31
          obtain ⟨rfl, N31q, e31⟩ := hQ31
          have N31 := Fr.app N30 N31q
          refine og (T31.setTop (mkF m 359 #[.val (.int p0), .val (.int p1), .val (.int p2), .val (.int ((p0 &&& (2147483647 : Int32)) % (6 : Int32))), .val (.int tv), .val (.int tv), .val (.int (p1 &&& (2147483647 : Int32))), .val (.int uq), .val (.int cq), .val (.ref b23), .val (.ref sb_29)] [(.int (own_gc (own_lo ca) (own_hi ca)))])) ?_ (fun tX kX => st31.trans kX)
          refine og (T31.setTop (mkF m 368 #[.val (.int p0), .val (.int p1), .val (.int p2), .val (.int ((p0 &&& (2147483647 : Int32)) % (6 : Int32))), .val (.int tv), .val (.int tv), .val (.int (p1 &&& (2147483647 : Int32))), .val (.int uq), .val (.int cq), .val (.ref b23), .val (.ref sb_29)] [(.int (((55296 : Int32) + (uq >>> ((10 : Int32) &&& 31))).toUInt32.toUInt16.toUInt32.toInt32)), (.int (own_gc (own_lo ca) (own_hi ca)))])) ?_ (fun tX kX => X31.ldcInt hx hown (mvT hZ (oW hw 103 rfl)) (g := (mkF m 359 #[.val (.int p0), .val (.int p1), .val (.int p2), .val (.int ((p0 &&& (2147483647 : Int32)) % (6 : Int32))), .val (.int tv), .val (.int tv), .val (.int (p1 &&& (2147483647 : Int32))), .val (.int uq), .val (.int cq), .val (.ref b23), .val (.ref sb_29)] [(.int (own_gc (own_lo ca) (own_hi ca)))])) rfl (hb hby at_359) _ (XS.iload X31.here hx rfl (hb hby at_361) rfl (XS.bipush X31.here hx rfl (hb hby at_363) (XS.ishr X31.here hx rfl (hb hby at_365) rfl (XS.iadd X31.here hx rfl (hb hby at_366) rfl (XS.i2c X31.here hx rfl (hb hby at_367) rfl kX))))))
          refine og (T31.setTop (mkF m 374 #[.val (.int p0), .val (.int p1), .val (.int p2), .val (.int ((p0 &&& (2147483647 : Int32)) % (6 : Int32))), .val (.int tv), .val (.int tv), .val (.int (p1 &&& (2147483647 : Int32))), .val (.int uq), .val (.int cq), .val (.ref b23), .val (.ref sb_29)] [(.int 1), (.ref sb_29)])) ?_ (fun tX kX => XS.icmpNo X31.here hx rfl (hb hby at_368) rfl (teq hga).2 (XS.aload X31.here hx rfl (hb hby at_371) rfl rfl (XS.iconst X31.here hx rfl (hb hby at_373) kX)))
          obtain ⟨cq32, kq32, q32a, q32b, q32c⟩ := isOf hZ e31 E_sb_29
          obtain ⟨_, _, ⟨T32, L32, k32, n32⟩, -, X32, ⟨Lc32, hQ32, l32, y32, z32⟩, st32⟩ := X31.virtualBack hx (y := oM21) (z := oM21) hown (mvT hZ (oW hw 66 rfl)) (mvT hZ (oW hw 67 rfl)) (notFace_of_selects (args := #[]) (mvT hZ (oW hw 69 rfl))) (mvT hZ (oW hw 69 rfl)) (mvT hZ (oW hw 68 rfl)) (by decide) (backOf (W := 0) (rm11U l Z aV hw [] sb_29 (1 : Int32) nb_29 kn_29 (6 : Int32) [(.int (own_lo ca)), (.int (own_hi ca)), (.int (own_lo cb)), (.int (own_hi cb)), (.int (own_lo tv)), (.int (own_hi tv))] (own_lo cb) (own_hi cb) cs fv T29.heap n0 zn29 E_sb_29 F_value_sb_29 F_coder_sb_29 V_nb_29 S_COMPACT_STRINGS S_SIOOBE_FORMATTER S__assertionsDisabled S_HI_BYTE_SHIFT S_LO_BYTE_SHIFT hcs hfv (own_at6_1 _ _ _ _ _ _)) hZ (oW hw 70 rfl) (oW hw 9 rfl) (by decide) (by decide)) q32a q32c (g := (mkF m 374 #[.val (.int p0), .val (.int p1), .val (.int p2), .val (.int ((p0 &&& (2147483647 : Int32)) % (6 : Int32))), .val (.int tv), .val (.int tv), .val (.int (p1 &&& (2147483647 : Int32))), .val (.int uq), .val (.int cq), .val (.ref b23), .val (.ref sb_29)] [(.int 1), (.ref sb_29)])) rfl (by rw [hml]; rfl) (Steps.refl _) (argsL := [(.int 1)]) (rest := []) (lenOf pd__I_C rfl) rfl (by show 2 * 0 + _ ≤ _; exact Nat.le_of_eq rfl) (hb hby at_374) (fun _ _ => ⟨rfl, e31, (by decide : 6 + 0 ≤ _), (by decide : 49 + 0 ≤ _)⟩)
          dsimp only [Pt.U, Pt.locs, Pt.cells, Pt.slots] at X32 l32 y32 z32 st32 hQ32
          subst l32 y32 z32
          obtain ⟨rfl, N32q, e32⟩ := hQ32
          have N32 := Fr.app N31 N32q
          refine og (T32.setTop (mkF m 377 #[.val (.int p0), .val (.int p1), .val (.int p2), .val (.int ((p0 &&& (2147483647 : Int32)) % (6 : Int32))), .val (.int tv), .val (.int tv), .val (.int (p1 &&& (2147483647 : Int32))), .val (.int uq), .val (.int cq), .val (.ref b23), .val (.ref sb_29)] [(.int (own_gc (own_lo cb) (own_hi cb)))])) ?_ (fun tX kX => st32.trans kX)
          refine og (T32.setTop (mkF m 387 #[.val (.int p0), .val (.int p1), .val (.int p2), .val (.int ((p0 &&& (2147483647 : Int32)) % (6 : Int32))), .val (.int tv), .val (.int tv), .val (.int (p1 &&& (2147483647 : Int32))), .val (.int uq), .val (.int cq), .val (.ref b23), .val (.ref sb_29)] [(.int (((56320 : Int32) + (uq &&& (1023 : Int32))).toUInt32.toUInt16.toUInt32.toInt32)), (.int (own_gc (own_lo cb) (own_hi cb)))])) ?_ (fun tX kX => X32.ldcInt hx hown (mvT hZ (oW hw 197 rfl)) (g := (mkF m 377 #[.val (.int p0), .val (.int p1), .val (.int p2), .val (.int ((p0 &&& (2147483647 : Int32)) % (6 : Int32))), .val (.int tv), .val (.int tv), .val (.int (p1 &&& (2147483647 : Int32))), .val (.int uq), .val (.int cq), .val (.ref b23), .val (.ref sb_29)] [(.int (own_gc (own_lo cb) (own_hi cb)))])) rfl (hb hby at_377) _ (XS.iload X32.here hx rfl (hb hby at_379) rfl (XS.sipush X32.here hx rfl (hb hby at_381) (XS.iand X32.here hx rfl (hb hby at_384) rfl (XS.iadd X32.here hx rfl (hb hby at_385) rfl (XS.i2c X32.here hx rfl (hb hby at_386) rfl kX))))))
          refine og (T32.setTop (mkF m 393 #[.val (.int p0), .val (.int p1), .val (.int p2), .val (.int ((p0 &&& (2147483647 : Int32)) % (6 : Int32))), .val (.int tv), .val (.int tv), .val (.int (p1 &&& (2147483647 : Int32))), .val (.int uq), .val (.int cq), .val (.ref b23), .val (.ref sb_29)] [(.int 2), (.ref sb_29)])) ?_ (fun tX kX => XS.icmpNo X32.here hx rfl (hb hby at_387) rfl (teq hgb).2 (XS.aload X32.here hx rfl (hb hby at_390) rfl rfl (XS.iconst X32.here hx rfl (hb hby at_392) kX)))
          obtain ⟨cq33, kq33, q33a, q33b, q33c⟩ := isOf hZ e32 E_sb_29
          obtain ⟨_, _, ⟨T33, L33, k33, n33⟩, -, X33, ⟨Lc33, hQ33, l33, y33, z33⟩, st33⟩ := X32.virtualBack hx (y := oM21) (z := oM21) hown (mvT hZ (oW hw 66 rfl)) (mvT hZ (oW hw 67 rfl)) (notFace_of_selects (args := #[]) (mvT hZ (oW hw 69 rfl))) (mvT hZ (oW hw 69 rfl)) (mvT hZ (oW hw 68 rfl)) (by decide) (backOf (W := 0) (rm11U l Z aV hw [] sb_29 (2 : Int32) nb_29 kn_29 (6 : Int32) [(.int (own_lo ca)), (.int (own_hi ca)), (.int (own_lo cb)), (.int (own_hi cb)), (.int (own_lo tv)), (.int (own_hi tv))] (own_lo tv) (own_hi tv) cs fv T29.heap n0 zn29 E_sb_29 F_value_sb_29 F_coder_sb_29 V_nb_29 S_COMPACT_STRINGS S_SIOOBE_FORMATTER S__assertionsDisabled S_HI_BYTE_SHIFT S_LO_BYTE_SHIFT hcs hfv (own_at6_2 _ _ _ _ _ _)) hZ (oW hw 70 rfl) (oW hw 9 rfl) (by decide) (by decide)) q33a q33c (g := (mkF m 393 #[.val (.int p0), .val (.int p1), .val (.int p2), .val (.int ((p0 &&& (2147483647 : Int32)) % (6 : Int32))), .val (.int tv), .val (.int tv), .val (.int (p1 &&& (2147483647 : Int32))), .val (.int uq), .val (.int cq), .val (.ref b23), .val (.ref sb_29)] [(.int 2), (.ref sb_29)])) rfl (by rw [hml]; rfl) (Steps.refl _) (argsL := [(.int 2)]) (rest := []) (lenOf pd__I_C rfl) rfl (by show 2 * 0 + _ ≤ _; exact Nat.le_of_eq rfl) (hb hby at_393) (fun _ _ => ⟨rfl, e32, (by decide : 6 + 0 ≤ _), (by decide : 49 + 0 ≤ _)⟩)
          dsimp only [Pt.U, Pt.locs, Pt.cells, Pt.slots] at X33 l33 y33 z33 st33 hQ33
          subst l33 y33 z33
          obtain ⟨rfl, N33q, e33⟩ := hQ33
          have N33 := Fr.app N32 N33q
          refine og (T33.setTop (mkF m 396 #[.val (.int p0), .val (.int p1), .val (.int p2), .val (.int ((p0 &&& (2147483647 : Int32)) % (6 : Int32))), .val (.int tv), .val (.int tv), .val (.int (p1 &&& (2147483647 : Int32))), .val (.int uq), .val (.int cq), .val (.ref b23), .val (.ref sb_29)] [(.int (own_gc (own_lo tv) (own_hi tv)))])) ?_ (fun tX kX => st33.trans kX)
          refine og (T33.setTop (mkF m 406 #[.val (.int p0), .val (.int p1), .val (.int p2), .val (.int ((p0 &&& (2147483647 : Int32)) % (6 : Int32))), .val (.int tv), .val (.int tv), .val (.int (p1 &&& (2147483647 : Int32))), .val (.int uq), .val (.int cq), .val (.ref b23), .val (.ref sb_29)] [(.int 1)])) ?_ (fun tX kX => XS.iload X33.here hx rfl (hb hby at_396) rfl (XS.icmpNo X33.here hx rfl (hb hby at_398) rfl (teq hgt).2 (XS.iconst X33.here hx rfl (hb hby at_401) (XS.goto X33.here hx rfl (pc0 := 402) (pc' := 406) rfl (hb hby at_402) (by decide) (by decide) kX))))
          refine OGo.retW X33 hS0 (by rw [e33]; exact hk29) (v := (some (.int 1))) (fun h => by rw [Bd.returns] at h; cases h) (BodyLoose.notSynchronized Bd) (fun fs hr => retN X33 hx (t := .boolean) (z := (1 : Int32)) Bd.returns (by simp) (hb hby at_406) hr) (Q := Q0 Z p0 p1 p2 ch cs fv h0 n0) ?_ (by decide) (by decide)
          show Q0 Z p0 p1 p2 ch cs fv h0 n0 _ T33.heap _
          rw [e33]
          exact ⟨rfl, N33⟩
        ·
          refine og (s₁.setTop (mkF m 409 #[.val (.int p0), .val (.int p1), .val (.int p2), .val (.int ((p0 &&& (2147483647 : Int32)) % (6 : Int32))), .val (.int tv), .val (.int tv), .val (.int (p1 &&& (2147483647 : Int32))), .unset, .unset, .unset, .unset] [(.int 4), (.int ((p0 &&& (2147483647 : Int32)) % (6 : Int32)))])) ?_ (fun tX kX => XS.icmpYes X0.here hx rfl (pc0 := 252) (pc' := 407) rfl (hb hby at_252) rfl (feq hc252).2 (by decide) (by decide) (XS.iloadN X0.here hx rfl (hb hby at_407) rfl (XS.iconst X0.here hx rfl (hb hby at_408) kX)))
          by_cases hc409 : ((p0 &&& (2147483647 : Int32)) % (6 : Int32)) = (4 : Int32)
          ·
            refine og (s₁.setTop (mkF m 413 #[.val (.int p0), .val (.int p1), .val (.int p2), .val (.int ((p0 &&& (2147483647 : Int32)) % (6 : Int32))), .val (.int tv), .val (.int tv), .val (.int (p1 &&& (2147483647 : Int32))), .unset, .unset, .unset, .unset] [(.int 1)])) ?_ (fun tX kX => XS.icmpNo X0.here hx rfl (hb hby at_409) rfl (teq hc409).2 (XS.iconst X0.here hx rfl (hb hby at_412) kX))
            obtain ⟨T34, h34, k34, X34, e34, E34, A34, EA34, st34⟩ := newPE X0 hx hZ (oW hw 1 rfl) e0 (g := (mkF m 413 #[.val (.int p0), .val (.int p1), .val (.int p2), .val (.int ((p0 &&& (2147483647 : Int32)) % (6 : Int32))), .val (.int tv), .val (.int tv), .val (.int (p1 &&& (2147483647 : Int32))), .unset, .unset, .unset, .unset] [(.int 1)])) rfl (hb hby at_413) rfl (by decide) (cap := 1) (by decide) (by decide) (by decide) (by decide) (ad := "[B") (by decide)
            obtain ⟨b34, g34⟩ : ∃ z, z = h0.size := ⟨_, rfl⟩
            rw [← g34] at A34 EA34 st34
            have ne_ch_b34 : ch ≠ b34 := Nat.ne_of_lt (Nat.lt_of_lt_of_le E_ch.lt (Nat.le_of_eq g34.symm))
            have S_INSTANCE := S_INSTANCE.ext E34
            have S_UTF_8 := S_UTF_8.ext E34
            have E_ch := E_ch.ext E34
            have S_COMPACT_STRINGS := S_COMPACT_STRINGS.ext E34
            have S_SIOOBE_FORMATTER := S_SIOOBE_FORMATTER.ext E34
            have S__assertionsDisabled := S__assertionsDisabled.ext E34
            have S_HI_BYTE_SHIFT := S_HI_BYTE_SHIFT.ext E34
            have S_LO_BYTE_SHIFT := S_LO_BYTE_SHIFT.ext E34
            have g_b34 : n0 ≤ b34 := Nat.le_trans Z0 (Nat.le_of_eq g34.symm)
            have sz_b34 : h0.size ≤ b34 := Nat.le_trans K0.1 (Nat.le_of_eq g34.symm)
            have zn34 : n0 ≤ h34.size := Nat.le_trans Z0 E34.1
            have hk34 := Nat.le_trans hk0 E34.1
            have K34 := K0.ext E34
            have E_b34 := EA34
            have V_b34 : Arv Z h34 b34 k34 .byte (1 : Int32) [(.int 0)] (.int 0) := (Arv.new A34 (by decide)).pad (pad_rep [] (.int 0) 1)
            refine og (T34.setTop (mkF m 415 #[.val (.int p0), .val (.int p1), .val (.int p2), .val (.int ((p0 &&& (2147483647 : Int32)) % (6 : Int32))), .val (.int tv), .val (.int tv), .val (.int (p1 &&& (2147483647 : Int32))), .unset, .unset, .unset, .unset] [(.ref b34)])) ?_ st34
            refine og (T34.setTop (mkF m 419 #[.val (.int p0), .val (.int p1), .val (.int p2), .val (.int ((p0 &&& (2147483647 : Int32)) % (6 : Int32))), .val (.int tv), .val (.int tv), .val (.int (p1 &&& (2147483647 : Int32))), .unset, .unset, .unset, .unset] [(.int tv), (.int 0), (.ref b34), (.ref b34)])) ?_ (fun tX kX => XS.dup X34.here hx rfl (hb hby at_415) rfl rfl (XS.iconst X34.here hx rfl (hb hby at_416) (XS.iload X34.here hx rfl (hb hby at_417) rfl kX)))
            obtain ⟨cl35, Ar35, qa35, S35, N35', H35, G35⟩ := id V_b34
            have hin35 := inb_of (j := (0 : Int32)) S35 ⟨by decide, by decide⟩
            obtain ⟨T35, h35, X35, e35, W35, st35⟩ := stB X34 hx hZ e34 Ar35 (j := (0 : Int32)) hin35 (g := (mkF m 419 #[.val (.int p0), .val (.int p1), .val (.int p2), .val (.int ((p0 &&& (2147483647 : Int32)) % (6 : Int32))), .val (.int tv), .val (.int tv), .val (.int (p1 &&& (2147483647 : Int32))), .unset, .unset, .unset, .unset] [(.int tv), (.int 0), (.ref b34), (.ref b34)])) rfl rfl (hb hby at_419)
            have V_b34_35 := Arv.set Ar35 qa35 S35 N35' H35 G35 (fits_nar_byte _) W35 0 rfl (Nat.le_of_ble_eq_true rfl)
            have S_INSTANCE := S_INSTANCE.wr W35
            have S_UTF_8 := S_UTF_8.wr W35
            have E_ch := E_ch.wr W35
            have S_COMPACT_STRINGS := S_COMPACT_STRINGS.wr W35
            have S_SIOOBE_FORMATTER := S_SIOOBE_FORMATTER.wr W35
            have S__assertionsDisabled := S__assertionsDisabled.wr W35
            have S_HI_BYTE_SHIFT := S_HI_BYTE_SHIFT.wr W35
            have S_LO_BYTE_SHIFT := S_LO_BYTE_SHIFT.wr W35
            have E_b34 := E_b34.wr W35
            have K35 := K34.wr W35 (Or.inr sz_b34)
            have zn35 : n0 ≤ h35.size := Nat.le_trans zn34 (Keep.of_wr W35).1
            have hk35 := Nat.le_trans hk34 (Keep.of_wr W35).1
            have N35 := Fr.snoc X35 N0 g_b34
            have V_b34 : Arv Z h35 b34 k34 .byte (1 : Int32) [(.int (tv.toInt8.toInt32))] (.int 0) := V_b34_35
            refine og (T35.setTop (mkF m 420 #[.val (.int p0), .val (.int p1), .val (.int p2), .val (.int ((p0 &&& (2147483647 : Int32)) % (6 : Int32))), .val (.int tv), .val (.int tv), .val (.int (p1 &&& (2147483647 : Int32))), .unset, .unset, .unset, .unset] [(.ref b34)])) ?_ st35
            refine og (T35.setTop (mkF m 424 #[.val (.int p0), .val (.int p1), .val (.int p2), .val (.int ((p0 &&& (2147483647 : Int32)) % (6 : Int32))), .val (.int tv), .val (.int tv), .val (.int (p1 &&& (2147483647 : Int32))), .val (.ref b34), .unset, .unset, .unset] [(.ref b34)])) ?_ (fun tX kX => XS.astore X35.here hx rfl (hb hby at_420) rfl rfl (l' := #[.val (.int p0), .val (.int p1), .val (.int p2), .val (.int ((p0 &&& (2147483647 : Int32)) % (6 : Int32))), .val (.int tv), .val (.int tv), .val (.int (p1 &&& (2147483647 : Int32))), .val (.ref b34), .unset, .unset, .unset]) rfl (XS.aload X35.here hx rfl (hb hby at_422) rfl rfl kX))
            have V_b34 : Arv Z h35 b34 k34 .byte (1 : Int32) [(.int tv)] (.int 0) := by have q := V_b34; rw [hT.2.2.2.2.2.2] at q; exact q
            obtain ⟨_, _, ⟨T36, L36, k36, n36⟩, -, X36, ⟨Lc36, hQ36, l36, y36, z36⟩, st36⟩ := Jvm.LawKit.callS X35 hx (y := oM41) hown (mvT hZ (oW hw 2 rfl)) (mvT hZ (oW hw 3 rfl)) (mvT hZ (oW hw 4 rfl)) (mvT hZ (oW hw 5 rfl)) (by decide) (backOf (W := 0) (rm1G l Z aV hw [] b34 ch (1 : Int32) k34 [(.int tv)] cs fv (0 : Int32) (1 : Int32) [(.int tv)] h35 n0 zn35 S_INSTANCE S_COMPACT_STRINGS S_SIOOBE_FORMATTER S__assertionsDisabled S_HI_BYTE_SHIFT S_LO_BYTE_SHIFT S_UTF_8 E_ch E_b34 V_b34 (by decide) (fun a0 u1 u2 hX nX ZX q0 q1 q2 q3 q4 q5 q6 q7 q8 q9 q10 gX => rm4A1 l Z aV hw [] a0 ch b34 u1 u2 k34 tv cs fv hX nX ZX q0 q1 q2 q3 q4 q5 q6 q7 q8 q9 q10 gX hcs hfv hT.1)) hZ (oW hw 5 rfl) (oW hw 4 rfl) (by decide) (by decide)) (g := (mkF m 424 #[.val (.int p0), .val (.int p1), .val (.int p2), .val (.int ((p0 &&& (2147483647 : Int32)) % (6 : Int32))), .val (.int tv), .val (.int tv), .val (.int (p1 &&& (2147483647 : Int32))), .val (.ref b34), .unset, .unset, .unset] [(.ref b34)])) rfl (by rw [hml]; rfl) (argsL := [(.ref b34)]) (rest := []) (lenOf pd___B_Ljava_lang_String_ rfl) rfl (by show 2 * 0 + _ ≤ _; exact Nat.le_of_eq rfl) (hb hby at_424) (fun _ _ => ⟨rfl, e35, (by decide : 1 + 5 ≤ _), (by decide : 1 + 44 ≤ _)⟩)
            dsimp only [Pt.U, Pt.locs, Pt.cells, Pt.slots] at X36 l36 y36 z36 st36 hQ36
            subst l36 y36 z36
            obtain ⟨sb_36, nb_36, kn_36, rfl, N36q, Kq36, sz36_sb, sz36_nb, E_sb_36_p, F_value_sb_36_p, F_coder_sb_36_p, V_nb_36_p⟩ := hQ36
            have N36 := Fr.app N35 N36q
            have ne_ch_sb_36 : ch ≠ sb_36 := Nat.ne_of_lt (Nat.lt_of_lt_of_le E_ch.lt sz36_sb)
            have ne_b34_sb_36 : b34 ≠ sb_36 := Nat.ne_of_lt (Nat.lt_of_lt_of_le E_b34.lt sz36_sb)
            have ne_ch_nb_36 : ch ≠ nb_36 := Nat.ne_of_lt (Nat.lt_of_lt_of_le E_ch.lt sz36_nb)
            have ne_b34_nb_36 : b34 ≠ nb_36 := Nat.ne_of_lt (Nat.lt_of_lt_of_le E_b34.lt sz36_nb)
            have S_INSTANCE := Sta.keep0 S_INSTANCE Kq36
            have S_UTF_8 := Sta.keep0 S_UTF_8 Kq36
            have S_COMPACT_STRINGS := Sta.keep0 S_COMPACT_STRINGS Kq36
            have S_SIOOBE_FORMATTER := Sta.keep0 S_SIOOBE_FORMATTER Kq36
            have S__assertionsDisabled := Sta.keep0 S__assertionsDisabled Kq36
            have S_HI_BYTE_SHIFT := Sta.keep0 S_HI_BYTE_SHIFT Kq36
            have S_LO_BYTE_SHIFT := Sta.keep0 S_LO_BYTE_SHIFT Kq36
            have E_ch := E_ch.keep Kq36
            have E_b34 := E_b34.keep Kq36
            have V_b34 := V_b34.keep Kq36 nin0
            have g_sb_36 : n0 ≤ sb_36 := Nat.le_trans zn35 sz36_sb
            have sz_sb_36 : h0.size ≤ sb_36 := Nat.le_trans K35.1 sz36_sb
            have g_nb_36 : n0 ≤ nb_36 := Nat.le_trans zn35 sz36_nb
            have sz_nb_36 : h0.size ≤ nb_36 := Nat.le_trans K35.1 sz36_nb
            have K36 := K35.trans Kq36 all0
            have zn36 : n0 ≤ T36.heap.size := Nat.le_trans zn35 Kq36.1
            have hk36 := Nat.le_trans hk35 Kq36.1
            have E_sb_36 := E_sb_36_p
            have F_value_sb_36 := F_value_sb_36_p
            have F_coder_sb_36 := F_coder_sb_36_p
            have V_nb_36 := V_nb_36_p
            refine og (T36.setTop (mkF m 427 #[.val (.int p0), .val (.int p1), .val (.int p2), .val (.int ((p0 &&& (2147483647 : Int32)) % (6 : Int32))), .val (.int tv), .val (.int tv), .val (.int (p1 &&& (2147483647 : Int32))), .val (.ref b34), .unset, .unset, .unset] [(.ref sb_36)])) ?_ st36
            refine og (T36.setTop (mkF m 431 #[.val (.int p0), .val (.int p1), .val (.int p2), .val (.int ((p0 &&& (2147483647 : Int32)) % (6 : Int32))), .val (.int tv), .val (.int tv), .val (.int (p1 &&& (2147483647 : Int32))), .val (.ref b34), .val (.ref sb_36), .unset, .unset] [(.ref sb_36)])) ?_ (fun tX kX => XS.astore X36.here hx rfl (hb hby at_427) rfl rfl (l' := #[.val (.int p0), .val (.int p1), .val (.int p2), .val (.int ((p0 &&& (2147483647 : Int32)) % (6 : Int32))), .val (.int tv), .val (.int tv), .val (.int (p1 &&& (2147483647 : Int32))), .val (.ref b34), .val (.ref sb_36), .unset, .unset]) rfl (XS.aload X36.here hx rfl (hb hby at_429) rfl rfl kX))
            obtain ⟨cq37, kq37, q37a, q37b, q37c⟩ := isOf hZ rfl E_sb_36
            obtain ⟨_, _, ⟨T37, L37, k37, n37⟩, -, X37, ⟨Lc37, hQ37, l37, y37, z37⟩, st37⟩ := X36.virtualBack hx (y := oM15) (z := oM15) hown (mvT hZ (oW hw 56 rfl)) (mvT hZ (oW hw 57 rfl)) (notFace_of_selects (args := #[]) (mvT hZ (oW hw 59 rfl))) (mvT hZ (oW hw 59 rfl)) (mvT hZ (oW hw 58 rfl)) (by decide) (backOf (W := 0) (rm9 l Z aV hw [] sb_36 nb_36 kn_36 (1 : Int32) [(.int tv)] (0 : Int32) cs T36.heap n0 zn36 E_sb_36 F_value_sb_36 F_coder_sb_36 V_nb_36 S_COMPACT_STRINGS hcs (by decide)) hZ (oW hw 60 rfl) (oW hw 9 rfl) (by decide) (by decide)) q37a q37c (g := (mkF m 431 #[.val (.int p0), .val (.int p1), .val (.int p2), .val (.int ((p0 &&& (2147483647 : Int32)) % (6 : Int32))), .val (.int tv), .val (.int tv), .val (.int (p1 &&& (2147483647 : Int32))), .val (.ref b34), .val (.ref sb_36), .unset, .unset] [(.ref sb_36)])) rfl (by rw [hml]; rfl) (Steps.refl _) (argsL := []) (rest := []) (lenOf pd___I rfl) rfl (by show 2 * 0 + _ ≤ _; exact Nat.le_of_eq rfl) (hb hby at_431) (fun _ _ => ⟨rfl, rfl, (by decide : 6 + 0 ≤ _), (by decide : 45 + 0 ≤ _)⟩)
            dsimp only [Pt.U, Pt.locs, Pt.cells, Pt.slots] at X37 l37 y37 z37 st37 hQ37
            subst l37 y37 z37
            obtain ⟨rfl, N37q, e37⟩ := hQ37
            have N37 := Fr.app N36 N37q
            refine og (T37.setTop (mkF m 434 #[.val (.int p0), .val (.int p1), .val (.int p2), .val (.int ((p0 &&& (2147483647 : Int32)) % (6 : Int32))), .val (.int tv), .val (.int tv), .val (.int (p1 &&& (2147483647 : Int32))), .val (.ref b34), .val (.ref sb_36), .unset, .unset] [(.int ((1 : Int32) >>> ((0 : Int32) &&& 31)))])) ?_ (fun tX kX => st37.trans kX)
            refine og (T37.setTop (mkF m 441 #[.val (.int p0), .val (.int p1), .val (.int p2), .val (.int ((p0 &&& (2147483647 : Int32)) % (6 : Int32))), .val (.int tv), .val (.int tv), .val (.int (p1 &&& (2147483647 : Int32))), .val (.ref b34), .val (.ref sb_36), .unset, .unset] [(.int 0), (.ref sb_36)])) ?_ (fun tX kX => XS.iconst X37.here hx rfl (hb hby at_434) (XS.icmpNo X37.here hx rfl (hb hby at_435) rfl (teq (by decide)).2 (XS.aload X37.here hx rfl (hb hby at_438) rfl rfl (XS.iconst X37.here hx rfl (hb hby at_440) kX))))
            obtain ⟨cq38, kq38, q38a, q38b, q38c⟩ := isOf hZ e37 E_sb_36
            obtain ⟨_, _, ⟨T38, L38, k38, n38⟩, -, X38, ⟨Lc38, hQ38, l38, y38, z38⟩, st38⟩ := X37.virtualBack hx (y := oM21) (z := oM21) hown (mvT hZ (oW hw 66 rfl)) (mvT hZ (oW hw 67 rfl)) (notFace_of_selects (args := #[]) (mvT hZ (oW hw 69 rfl))) (mvT hZ (oW hw 69 rfl)) (mvT hZ (oW hw 68 rfl)) (by decide) (backOf (W := 0) (rm11L l Z aV hw [] sb_36 (0 : Int32) nb_36 kn_36 (1 : Int32) [(.int tv)] cs fv tv T36.heap n0 zn36 E_sb_36 F_value_sb_36 F_coder_sb_36 V_nb_36 S_COMPACT_STRINGS S_SIOOBE_FORMATTER hcs hfv ⟨by decide, by decide⟩ rfl) hZ (oW hw 70 rfl) (oW hw 9 rfl) (by decide) (by decide)) q38a q38c (g := (mkF m 441 #[.val (.int p0), .val (.int p1), .val (.int p2), .val (.int ((p0 &&& (2147483647 : Int32)) % (6 : Int32))), .val (.int tv), .val (.int tv), .val (.int (p1 &&& (2147483647 : Int32))), .val (.ref b34), .val (.ref sb_36), .unset, .unset] [(.int 0), (.ref sb_36)])) rfl (by rw [hml]; rfl) (Steps.refl _) (argsL := [(.int 0)]) (rest := []) (lenOf pd__I_C rfl) rfl (by show 2 * 0 + _ ≤ _; exact Nat.le_of_eq rfl) (hb hby at_441) (fun _ _ => ⟨rfl, e37, (by decide : 6 + 0 ≤ _), (by decide : 45 + 0 ≤ _)⟩)
            dsimp only [Pt.U, Pt.locs, Pt.cells, Pt.slots] at X38 l38 y38 z38 st38 hQ38
            subst l38 y38 z38
            obtain ⟨rfl, N38q, e38⟩ := hQ38
            have N38 := Fr.app N37 N38q
            refine og (T38.setTop (mkF m 444 #[.val (.int p0), .val (.int p1), .val (.int p2), .val (.int ((p0 &&& (2147483647 : Int32)) % (6 : Int32))), .val (.int tv), .val (.int tv), .val (.int (p1 &&& (2147483647 : Int32))), .val (.ref b34), .val (.ref sb_36), .unset, .unset] [(.int (own_l1 tv))])) ?_ (fun tX kX => st38.trans kX)
            refine og (T38.setTop (mkF m 454 #[.val (.int p0), .val (.int p1), .val (.int p2), .val (.int ((p0 &&& (2147483647 : Int32)) % (6 : Int32))), .val (.int tv), .val (.int tv), .val (.int (p1 &&& (2147483647 : Int32))), .val (.ref b34), .val (.ref sb_36), .unset, .unset] [(.int 1)])) ?_ (fun tX kX => XS.iload X38.here hx rfl (hb hby at_444) rfl (XS.icmpNo X38.here hx rfl (hb hby at_446) rfl (teq hlt).2 (XS.iconst X38.here hx rfl (hb hby at_449) (XS.goto X38.here hx rfl (pc0 := 450) (pc' := 454) rfl (hb hby at_450) (by decide) (by decide) kX))))
            refine OGo.retW X38 hS0 (by rw [e38]; exact hk36) (v := (some (.int 1))) (fun h => by rw [Bd.returns] at h; cases h) (BodyLoose.notSynchronized Bd) (fun fs hr => retN X38 hx (t := .boolean) (z := (1 : Int32)) Bd.returns (by simp) (hb hby at_454) hr) (Q := Q0 Z p0 p1 p2 ch cs fv h0 n0) ?_ (by decide) (by decide)
            show Q0 Z p0 p1 p2 ch cs fv h0 n0 _ T38.heap _
            rw [e38]
            exact ⟨rfl, N38⟩
          ·
            refine og (s₁.setTop (mkF m 456 #[.val (.int p0), .val (.int p1), .val (.int p2), .val (.int ((p0 &&& (2147483647 : Int32)) % (6 : Int32))), .val (.int tv), .val (.int tv), .val (.int (p1 &&& (2147483647 : Int32))), .unset, .unset, .unset, .unset] [(.int 0)])) ?_ (fun tX kX => XS.icmpYes X0.here hx rfl (pc0 := 409) (pc' := 455) rfl (hb hby at_409) rfl (feq hc409).2 (by decide) (by decide) (XS.iconst X0.here hx rfl (hb hby at_455) kX))
            obtain ⟨T39, h39, k39, X39, e39, E39, A39, EA39, st39⟩ := newPE X0 hx hZ (oW hw 1 rfl) e0 (g := (mkF m 456 #[.val (.int p0), .val (.int p1), .val (.int p2), .val (.int ((p0 &&& (2147483647 : Int32)) % (6 : Int32))), .val (.int tv), .val (.int tv), .val (.int (p1 &&& (2147483647 : Int32))), .unset, .unset, .unset, .unset] [(.int 0)])) rfl (hb hby at_456) rfl (by decide) (cap := 0) (by decide) (by decide) (by decide) (by decide) (ad := "[B") (by decide)
            obtain ⟨b39, g39⟩ : ∃ z, z = h0.size := ⟨_, rfl⟩
            rw [← g39] at A39 EA39 st39
            have ne_ch_b39 : ch ≠ b39 := Nat.ne_of_lt (Nat.lt_of_lt_of_le E_ch.lt (Nat.le_of_eq g39.symm))
            have CHo39 := hCH
            have hCH := CHv.ext E39 CHo39
            have S_INSTANCE := S_INSTANCE.ext E39
            have S_UTF_8 := S_UTF_8.ext E39
            have E_ch := E_ch.ext E39
            have S_COMPACT_STRINGS := S_COMPACT_STRINGS.ext E39
            have S_SIOOBE_FORMATTER := S_SIOOBE_FORMATTER.ext E39
            have S__assertionsDisabled := S__assertionsDisabled.ext E39
            have S_HI_BYTE_SHIFT := S_HI_BYTE_SHIFT.ext E39
            have S_LO_BYTE_SHIFT := S_LO_BYTE_SHIFT.ext E39
            have Sf_b39 : Safe Z own_EL s.vm h39 b39 := Safe.ext E39 CHo39 (Safe.new (Nat.le_of_eq g39.symm))
            have g_b39 : n0 ≤ b39 := Nat.le_trans Z0 (Nat.le_of_eq g39.symm)
            have sz_b39 : h0.size ≤ b39 := Nat.le_trans K0.1 (Nat.le_of_eq g39.symm)
            have zn39 : n0 ≤ h39.size := Nat.le_trans Z0 E39.1
            have hk39 := Nat.le_trans hk0 E39.1
            have K39 := K0.ext E39
            have E_b39 := EA39
            have V_b39 : Arv Z h39 b39 k39 .byte (0 : Int32) [] (.int 0) := Arv.new A39 (by decide)
            refine og (T39.setTop (mkF m 458 #[.val (.int p0), .val (.int p1), .val (.int p2), .val (.int ((p0 &&& (2147483647 : Int32)) % (6 : Int32))), .val (.int tv), .val (.int tv), .val (.int (p1 &&& (2147483647 : Int32))), .unset, .unset, .unset, .unset] [(.ref b39)])) ?_ st39
            refine og (T39.setTop (mkF m 462 #[.val (.int p0), .val (.int p1), .val (.int p2), .val (.int ((p0 &&& (2147483647 : Int32)) % (6 : Int32))), .val (.int tv), .val (.int tv), .val (.int (p1 &&& (2147483647 : Int32))), .val (.ref b39), .unset, .unset, .unset] [(.ref b39)])) ?_ (fun tX kX => XS.astore X39.here hx rfl (hb hby at_458) rfl rfl (l' := #[.val (.int p0), .val (.int p1), .val (.int p2), .val (.int ((p0 &&& (2147483647 : Int32)) % (6 : Int32))), .val (.int tv), .val (.int tv), .val (.int (p1 &&& (2147483647 : Int32))), .val (.ref b39), .unset, .unset, .unset]) rfl (XS.aload X39.here hx rfl (hb hby at_460) rfl rfl kX))
            obtain ⟨_, _, ⟨T40, L40, k40, n40⟩, -, X40, hSq40, hgr40, ⟨Lc40, hQ40, l40, y40, z40, CRq40⟩, st40⟩ := callSS X39 hx (y := oM41) hown (mvT hZ (oW hw 2 rfl)) (mvT hZ (oW hw 3 rfl)) (mvT hZ (oW hw 4 rfl)) (mvT hZ (oW hw 5 rfl)) (by decide) (backOfSH (W := 0) (rm1E l Z aV hw [] b39 ch k39 h39 n0 zn39 S_UTF_8 E_ch V_b39) hZ (oW hw 5 rfl) (oW hw 4 rfl) (by decide) (by decide) own_ew hCH) (g := (mkF m 462 #[.val (.int p0), .val (.int p1), .val (.int p2), .val (.int ((p0 &&& (2147483647 : Int32)) % (6 : Int32))), .val (.int tv), .val (.int tv), .val (.int (p1 &&& (2147483647 : Int32))), .val (.ref b39), .unset, .unset, .unset] [(.ref b39)])) rfl (by rw [hml]; rfl) (argsL := [(.ref b39)]) (rest := []) (lenOf pd___B_Ljava_lang_String_ rfl) rfl (by show 2 * 0 + _ ≤ _; exact Nat.le_of_eq rfl) (hb hby at_462) (fun _ _ => ⟨rfl, e39, (by decide : 1 + 3 ≤ _), (by decide : 0 + 8 ≤ _)⟩)
            dsimp only [Pt.U, Pt.locs, Pt.cells, Pt.slots] at X40 l40 y40 z40 st40 hQ40 hSq40 hgr40 CRq40
            subst l40 y40 z40
            obtain ⟨X40, hS40, hZ40, hown40⟩ := rebS hS0 hk39 X40 hSq40 (by rw [← e39]; exact hgr40) hZ hown
            have Sf_b39 := CRq40.safe E_b39.lt Sf_b39
            have hCH := CRq40.1
            obtain ⟨sb_40, nb_40, kb_40, rfl, N40q, Kq40, sz40_sb, E_sb_40_p, F_value_sb_40_p, F_coder_sb_40_p, V_nb_40_p⟩ := hQ40
            have N40 := Fr.app N0 N40q
            have ne_ch_sb_40 : ch ≠ sb_40 := Nat.ne_of_lt (Nat.lt_of_lt_of_le E_ch.lt sz40_sb)
            have ne_b39_sb_40 : b39 ≠ sb_40 := Nat.ne_of_lt (Nat.lt_of_lt_of_le E_b39.lt sz40_sb)
            have S_INSTANCE := Sta.keep0 S_INSTANCE Kq40
            have S_UTF_8 := Sta.keep0 S_UTF_8 Kq40
            have S_COMPACT_STRINGS := Sta.keep0 S_COMPACT_STRINGS Kq40
            have S_SIOOBE_FORMATTER := Sta.keep0 S_SIOOBE_FORMATTER Kq40
            have S__assertionsDisabled := Sta.keep0 S__assertionsDisabled Kq40
            have S_HI_BYTE_SHIFT := Sta.keep0 S_HI_BYTE_SHIFT Kq40
            have S_LO_BYTE_SHIFT := Sta.keep0 S_LO_BYTE_SHIFT Kq40
            have E_ch := E_ch.keep Kq40
            have E_b39 := E_b39.keep Kq40
            have V_b39 := V_b39.keep Kq40 nin0
            have g_sb_40 : n0 ≤ sb_40 := Nat.le_trans zn39 sz40_sb
            have sz_sb_40 : h0.size ≤ sb_40 := Nat.le_trans K39.1 sz40_sb
            have K40 := K39.trans Kq40 all0
            have zn40 : n0 ≤ T40.heap.size := Nat.le_trans zn39 Kq40.1
            have hk40 := Nat.le_trans hk39 Kq40.1
            have E_sb_40 := E_sb_40_p
            have F_value_sb_40 := F_value_sb_40_p
            have F_coder_sb_40 := F_coder_sb_40_p
            have V_nb_40 := V_nb_40_p
            refine og (T40.setTop (mkF m 465 #[.val (.int p0), .val (.int p1), .val (.int p2), .val (.int ((p0 &&& (2147483647 : Int32)) % (6 : Int32))), .val (.int tv), .val (.int tv), .val (.int (p1 &&& (2147483647 : Int32))), .val (.ref b39), .unset, .unset, .unset] [(.ref sb_40)])) ?_ (fun tX kX => st40.trans kX)
            obtain ⟨cq41, kq41, q41a, q41b, q41c⟩ := isOf hZ40 rfl E_sb_40
            obtain ⟨_, _, ⟨T41, L41, k41, n41⟩, -, X41, ⟨Lc41, hQ41, l41, y41, z41⟩, st41⟩ := X40.virtualBack hx (y := oM17) (z := oM17) hown40 (mvT hZ40 (oW hw 164 rfl)) (mvT hZ40 (oW hw 165 rfl)) (notFace_of_selects (args := #[]) (mvT hZ40 (oW hw 167 rfl))) (mvT hZ40 (oW hw 167 rfl)) (mvT hZ40 (oW hw 166 rfl)) (by decide) (backOf (W := 0) (rm35 l Z aV hw [] sb_40 nb_40 kb_40 T40.heap n0 zn40 E_sb_40 F_value_sb_40 F_coder_sb_40 V_nb_40) hZ40 (oW hw 168 rfl) (oW hw 9 rfl) (by decide) (by decide)) q41a q41c (g := (mkF m 465 #[.val (.int p0), .val (.int p1), .val (.int p2), .val (.int ((p0 &&& (2147483647 : Int32)) % (6 : Int32))), .val (.int tv), .val (.int tv), .val (.int (p1 &&& (2147483647 : Int32))), .val (.ref b39), .unset, .unset, .unset] [(.ref sb_40)])) rfl (by rw [hml]; rfl) (Steps.refl _) (argsL := []) (rest := []) (lenOf pd___Z rfl) rfl (by show 2 * 0 + _ ≤ _; exact Nat.le_of_eq rfl) (hb hby at_465) (fun _ _ => ⟨rfl, rfl, (by decide : 4 + 0 ≤ _), (by decide : 8 + 0 ≤ _)⟩)
            dsimp only [Pt.U, Pt.locs, Pt.cells, Pt.slots] at X41 l41 y41 z41 st41 hQ41
            subst l41 y41 z41
            obtain ⟨rfl, N41q, e41⟩ := hQ41
            have N41 := Fr.app N40 N41q
            refine og (T41.setTop (mkF m 468 #[.val (.int p0), .val (.int p1), .val (.int p2), .val (.int ((p0 &&& (2147483647 : Int32)) % (6 : Int32))), .val (.int tv), .val (.int tv), .val (.int (p1 &&& (2147483647 : Int32))), .val (.ref b39), .unset, .unset, .unset] [(.int 1)])) ?_ (fun tX kX => st41.trans kX)
            refine OGo.retW X41 hS40 (by rw [e41]; exact (Nat.le_refl _)) (v := (some (.int 1))) (fun h => by rw [Bd.returns] at h; cases h) (BodyLoose.notSynchronized Bd) (fun fs hr => retN X41 hx (t := .boolean) (z := (1 : Int32)) Bd.returns (by simp) (hb hby at_468) hr) (Q := Q0 Z p0 p1 p2 ch cs fv h0 n0) ?_ (by decide) (by decide)
            show Q0 Z p0 p1 p2 ch cs fv h0 n0 _ T41.heap _
            rw [e41]
            exact ⟨rfl, N41⟩
set_option maxRecDepth 65536 in
set_option maxHeartbeats 40000000 in
theorem comes_1 {Post : Tables → Env → Array Value → State → Outcome → State → Prop} (hpost : ∀ tb e args s v u, (limb_1_1.after args s (.returned v) u = true ∧ limb_1_2.after args s (.returned v) u = true ∧ True) → ReturnedEndW s (.returned v) u (Jvm.fieldLocs frame_1_writes args s ++ Jvm.arrayLocs frame_1_arrays args s ++ Jvm.staticLocs frame_1_statics s) 24 1152 → Post tb e args s (.returned v) u) :
    ArmFor flags0 classFile x code maxLocals ret World_1 tables_1 room_1 Calls_1 rest_1 Pre_1 Post := by
  intro l hfl _ _ p e ha hc hk s m args below hf hA hF happ hP
  obtain ⟨hcalls, hrest, hpre⟩ := hP
  obtain ⟨-, -, -, hnamed, -, -, -, hat⟩ := (Spec.applies_iff hf).mp happ
  obtain ⟨hg, hn⟩ := and_e (Cond.before_iff.mp (show (Jvm.Cond.and given_1 narrow_1).before args s = true from hpre))
  obtain ⟨gc0, gr0⟩ := and_e hg
  obtain ⟨gc1, gr1⟩ := and_e gr0
  obtain ⟨gc2, gr2⟩ := and_e gr1
  obtain ⟨w0, w1, w2, rfl⟩ : ∃ w0 w1 w2 : Value, args = #[w0, w1, w2] := by
    have hs : args.size = 3 := by simpa [Cond.value, given_1] using gc0
    obtain ⟨L⟩ := args
    match L, hs with
    | [w0, w1, w2], _ => exact ⟨w0, w1, w2, rfl⟩
  have hw := fun d (hd : d ∈ tables_1) => atoms_spec (ws := Jvm.Cond.code x code maxLocals ret :: tables_1) hat d (List.mem_cons_of_mem _ hd)
  have hfit : Fit s := fun {y c} hc i hi => by
    obtain ⟨ha, rfl⟩ := Array.getElem?_eq_some_iff.mp hc
    have q := List.all_eq_true.mp ((Array.all_eq_true_iff_forall_mem.mp hF) _ (Array.getElem_mem ha)) i (List.mem_range.mpr hi)
    simpa [Array.getElem?_eq_getElem hi] using q
  obtain ⟨hsets, hown0⟩ := atoms_of _ (rest_1_c_eq ▸ (show rest_1_c.before _ s = true from hrest))
  have hset := fun k (hk : k ∈ jdkStatics_1) => Cond.before_iff.mp (hsets k hk)
  obtain ⟨i0, ei0⟩ := is_v gc1
  obtain rfl : w0 = (.int i0) := Option.some.inj ei0
  obtain ⟨i1, ei1⟩ := is_v gc2
  obtain rfl : w1 = (.int i1) := Option.some.inj ei1
  obtain ⟨i2, ei2⟩ := is_v gr2
  obtain rfl : w2 = (.int i2) := Option.some.inj ei2
  obtain ⟨ch, evch⟩ := exa_v (hset _ (List.mem_of_getElem? (i := 8) rfl))
  have ECH := Exa.start evch (hset _ (List.mem_of_getElem? (i := 8) rfl))
  have SIN := Sta.start evch (Or.inl (hsets _ (List.mem_of_getElem? (i := 7) rfl)))
  have SUT := Sta.start (own_eqR evch (hset _ (List.mem_of_getElem? (i := 4) rfl))) (Or.inl (hsets _ (List.mem_of_getElem? (i := 1) rfl)))
  obtain ⟨cs, evcs⟩ := is_v (hset _ (List.mem_of_getElem? (i := 10) rfl))
  have hcs : ¬ cs = 0 := fun q => by have z := not_v (hset _ (List.mem_of_getElem? (i := 11) rfl)); rw [eq_i evcs (Term.int_eval 0) (by rw [q])] at z; cases z
  have SCS := Sta.start evcs (Or.inl (hsets _ (List.mem_of_getElem? (i := 9) rfl)))
  obtain ⟨fv, evfv, hfv⟩ := isR_v (hset _ (List.mem_of_getElem? (i := 17) rfl))
  have SFM := Sta.start evfv (Or.inl (hsets _ (List.mem_of_getElem? (i := 16) rfl)))
  have SAS := Sta.start (valI (hset _ (List.mem_of_getElem? (i := 21) rfl))) (Or.inl (hsets _ (List.mem_of_getElem? (i := 20) rfl)))
  have SHB := Sta.start (valI (hset _ (List.mem_of_getElem? (i := 24) rfl))) (Or.inl (hsets _ (List.mem_of_getElem? (i := 23) rfl)))
  have SLB := Sta.start (valI (hset _ (List.mem_of_getElem? (i := 27) rfl))) (Or.inl (hsets _ (List.mem_of_getElem? (i := 26) rfl)))
  have hCHs : CHv s own_EL s.vm s.heap := CHv.start (own_ewT hw) (fun p hp => hcalls.1 p hp) (hsets _ (List.mem_of_getElem? (i := 11) rfl)) (oW hw 1 rfl) (oW hw 8 rfl)
  obtain ⟨n, o, h1, h2, h3, _, L, rfl, ⟨rfl, N⟩, hq⟩ := rm0 l s _ hw tables_1 i0 i1 i2 ch cs fv s.heap s.heap.size (Nat.le_refl _) SIN SUT ECH SCS SFM SAS SHB SLB hcs hfv p e ha hc hk s m _ below hf ((Spec.applies_iff_loose hf).mp happ).1 ⟨rfl, State.Warmed39.refl s, rfl, hCHs⟩ trivial
  refine ⟨n, _, h1, h2, h3, hpost _ _ _ _ _ _ ⟨Cond.after_iff.mpr rfl, Cond.after_iff.mpr (eq_i res_at (Term.int_eval (1)) rfl), trivial⟩ ⟨hq.1, hq.2.1, hq.2.2.1, (hq.2.2.2.sift fun y hy => Or.inr (N y hy)).mono (by decide) (by decide)⟩⟩
theorem main_1_1 : Claimed_1_1 := comes_1 fun _ _ _ _ _ _ h hF => ⟨h.1, hF⟩
theorem main_1_2 : Claimed_1_2 := comes_1 fun _ _ _ _ _ _ h hF => ⟨h.2.1, hF⟩
end Jvm.Pilot.@@N@@
