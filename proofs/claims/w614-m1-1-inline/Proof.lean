import JvmDerived
import JvmDerived.Pilot.@@N@@Statement
import JvmDerived.Pilot.@@N@@Code
set_option linter.unusedVariables false
set_option linter.unusedSimpArgs false
namespace Jvm.Pilot.@@N@@
open Jvm Jvm.ClassFile Sem Op Lib Jvm.Free Jvm.Stand Jvm.LawKit Jvm.RoadKit Bundle Jvm.Pilot.@@N@@.Jvm.D
theorem own_mvMN {Z s : State} {a0 args : Array Value} {own host : String} {index : Nat} {y : MethodName} (hZ : Z.Warmed39 s.vm) (w : (Jvm.Cond.methodLinkNest own index y host).before a0 Z = true) : (Jvm.Cond.methodLinkNest own index y host).before args s = true := (Cond.methodLinkNest_wide hZ w :)
theorem own_cat1 {v : Value} (h : v.isRef = true) : v.category = 1 := by cases v <;> simp [Value.isRef] at h <;> rfl
theorem own_fit {v : Value} {t : FieldType} (h : v.isRef = true) (ht : t.isReference = true) : fits t v = true := by
  cases t <;> first | (cases ht; done) | (cases v <;> simp [Value.isRef] at h <;> rfl)
theorem own_nar {v : Value} {t : FieldType} (h : v.isRef = true) (ht : t.isReference = true) : narrow t v = v := by
  cases t <;> first | (cases ht; done) | (cases v <;> simp [Value.isRef] at h <;> rfl)
theorem wd {a0 : Array Value} {Z : State} (hw : ∀ d ∈ tables_1, d.before a0 Z = true) (i : Nat) {d : Jvm.Cond} (h : tables_1[i]? = some d) : d.before a0 Z = true := hw d (List.mem_of_getElem? h)
abbrev si (x : Int32) : Slot := .val (.int x)
abbrev sr (x : Addr) : Slot := .val (.ref x)
abbrev Go (p : Program) (e : Env) (below : List Frame) (E0 T : State) (m : MethodId) (pc : Nat) (L : Array Slot) (S : List Value) : Prop := ∀ tgt, Steps p.tables e below (T.setTop (mkF m pc L S)) tgt → Steps p.tables e below E0 tgt
set_option maxRecDepth 65536
set_option maxHeartbeats 40000000
abbrev Tb (a0 : Array Value) (Z : State) : Prop := ∀ d ∈ tables_1, d.before a0 Z = true
abbrev Dc (b : ByteArray) (c : Code) : Prop := ∀ {pc : Nat} {r : Except DecodeError (Instr × Nat)}, decode b pc = r → decode c.code pc = r
abbrev Dl (l : List (Nat × Instr × Nat)) (c : Code) : Prop := ∀ (k : Nat) {pc : Nat} {i : Instr} {n : Nat}, l[k]? = some (pc, i, n) → decode c.code pc = .ok (i, n)
theorem dl {b : ByteArray} {c : Code} {l : List (Nat × Instr × Nat)} (hby : c.code = b) (h : ∀ q ∈ l, decode b q.1 = .ok (q.2.1, q.2.2)) : Dl l c := by
  intro k pc i n e
  have q : decode b pc = .ok (i, n) := h (pc, i, n) (List.mem_of_getElem? e)
  exact hb hby q
abbrev Met (l : Launch) (Z : State) (h0 : Heap) (y : MethodName) (code : ByteArray) (ml : Nat) (ret : Option FieldType) (rm : Room) (ws : List Jvm.Cond) (as' : Array Value) (Q : Option Value → Heap → List Loc → Prop) : Prop := MetFree l y (head1 (Jvm.Cond.code y code ml ret :: ws) rm) (fun a U => a = as' ∧ Z.Warmed39 U.vm ∧ U.heap = h0) (fun _ _ _ _ _ => True) (fun _ U o U' => ∃ v L, o = .returned v ∧ Q v U'.heap L ∧ FrameEnd U o U' L rm.cells rm.slots)
theorem wm {a0 args : Array Value} {Z s : State} (hw : Tb a0 Z) (hZ : Z.Warmed39 s.vm) (i : Nat) {d : Jvm.Cond} (h : tables_1[i]? = some d) (hd : (d.onTables && d.keepsFace) = true := by first | rfl | simp [Jvm.Cond.onTables, Jvm.Cond.keepsFace, Jvm.Cond.keeps, Jvm.Cond.steady]) : d.before args s = true := mvT hZ (hw d (List.mem_of_getElem? h)) hd
abbrev y0_ : MethodName := ⟨"com/example/portunus/portunus/core/KeySpace", "lockKey", "(Ljava/lang/String;)Ljava/lang/String;"⟩
abbrev y1_ : MethodName := ⟨"java/lang/String", "charAt", "(I)C"⟩
abbrev y2_ : MethodName := ⟨"com/example/portunus/portunus/core/KeySpace", "checkText", "(Ljava/lang/String;Ljava/lang/String;I)V"⟩
abbrev y3_ : MethodName := ⟨"java/lang/AbstractStringBuilder", "inflateIfNeededFor", "(Ljava/lang/String;)V"⟩
abbrev y4_ : MethodName := ⟨"com/example/portunus/portunus/core/KeySpace", "<init>", "(Ljava/lang/String;)V"⟩
abbrev y5_ : MethodName := ⟨"java/lang/String", "isLatin1", "()Z"⟩
abbrev y6_ : MethodName := ⟨"java/lang/AbstractStringBuilder", "isLatin1", "()Z"⟩
abbrev y7_ : MethodName := ⟨"java/lang/Character", "isHighSurrogate", "(C)Z"⟩
abbrev y8_ : MethodName := ⟨"java/lang/StringLatin1", "canEncode", "(C)Z"⟩
abbrev y9_ : MethodName := ⟨"java/lang/AbstractStringBuilder", "inflate", "()V"⟩
abbrev y10_ : MethodName := ⟨"java/lang/String", "getBytes", "([BIB)V"⟩
abbrev F0_ (Z : State) (h : Heap) (x : Addr) (v : Value) : Prop := Fld Z h x "com/example/portunus/portunus/core/KeySpace" "prefix" "Ljava/lang/String;" v
abbrev F1_ (Z : State) (h : Heap) (x : Addr) (v : Value) : Prop := Fld Z h x "java/lang/AbstractStringBuilder" "coder" "B" v
abbrev F2_ (Z : State) (h : Heap) (x : Addr) (v : Value) : Prop := Fld Z h x "java/lang/AbstractStringBuilder" "count" "I" v
abbrev F3_ (Z : State) (h : Heap) (x : Addr) (v : Value) : Prop := Fld Z h x "java/lang/AbstractStringBuilder" "maybeLatin1" "Z" v
abbrev F4_ (Z : State) (h : Heap) (x : Addr) (v : Value) : Prop := Fld Z h x "java/lang/AbstractStringBuilder" "value" "[B" v
abbrev F5_ (Z : State) (h : Heap) (x : Addr) (v : Value) : Prop := Fld Z h x "java/lang/String" "coder" "B" v
abbrev F6_ (Z : State) (h : Heap) (x : Addr) (v : Value) : Prop := Fld Z h x "java/lang/String" "value" "[B" v
abbrev E0_ (Z : State) (h : Heap) (x : Addr) : Prop := Exa Z h x "com/example/portunus/portunus/core/KeySpace"
abbrev E1_ (Z : State) (h : Heap) (x : Addr) : Prop := Exa Z h x "java/lang/String"
abbrev E2_ (Z : State) (h : Heap) (x : Addr) : Prop := Exa Z h x "java/lang/StringBuilder"
abbrev Yb (Z : State) (h : Heap) (a : Addr) (k : ClassId) (n : Int32) (vs : List Value) : Prop := Arv Z h a k .byte n vs (.int (0 : Int32))
abbrev Yc (Z : State) (h : Heap) (a : Addr) (k : ClassId) (n : Int32) (vs : List Value) : Prop := Arv Z h a k .char n vs (.int (0 : Int32))
abbrev l0_ : List (Nat × Instr × Nat) := [(0, .getstatic 44, 3), (3, .ifCond .ne 25, 3), (28, .iload_n 1, 1), (29, .iconst 1, 1), (30, .ishl, 1), (31, .istore_n 1, 1), (32, .aload_n 0, 1), (33, .iload_n 1, 1), (34, .iinc 1 1, 3), (37, .baload, 1), (38, .sipush 255, 3), (41, .iand, 1), (42, .getstatic 59, 3), (45, .ishl, 1), (46, .aload_n 0, 1), (47, .iload_n 1, 1), (48, .baload, 1), (49, .sipush 255, 3), (52, .iand, 1), (53, .getstatic 63, 3), (56, .ishl, 1), (57, .ior, 1), (58, .i2c, 1), (59, .ireturn, 1)]
theorem d0_ : ∀ q ∈ l0_, decode jdk_52_method_5_code q.1 = .ok (q.2.1, q.2.2) := by decide +kernel
abbrev l1_ : List (Nat × Instr × Nat) := [(0, .iload_n 1, 1), (1, .aload_n 0, 1), (2, .arraylength, 1), (3, .isub, 1), (4, .bipush 31, 2), (6, .iushr, 1), (7, .i2b, 1), (8, .ireturn, 1)]
theorem d1_ : ∀ q ∈ l1_, decode jdk_52_method_15_code q.1 = .ok (q.2.1, q.2.2) := by decide +kernel
abbrev l2_ : List (Nat × Instr × Nat) := [(0, .iload_n 0, 1), (1, .ifCond .ge 11, 3), (12, .iload_n 0, 1), (13, .ldc 20, 2), (15, .if_icmp .lt 40, 3), (55, .iload_n 0, 1), (56, .iconst 1, 1), (57, .ishl, 1), (58, .ireturn, 1)]
theorem d2_ : ∀ q ∈ l2_, decode jdk_52_method_3_code q.1 = .ok (q.2.1, q.2.2) := by decide +kernel
abbrev l3_ : List (Nat × Instr × Nat) := [(0, .iload_n 0, 1), (1, .invokestatic 11, 3), (4, .newarray .byte, 2), (6, .areturn, 1)]
theorem d3_ : ∀ q ∈ l3_, decode jdk_52_method_2_code q.1 = .ok (q.2.1, q.2.2) := by decide +kernel
abbrev l4_ : List (Nat × Instr × Nat) := [(0, .getstatic 44, 3), (3, .ifCond .ne 25, 3), (28, .iload_n 1, 1), (29, .iconst 1, 1), (30, .ishl, 1), (31, .istore_n 1, 1), (32, .aload_n 0, 1), (33, .iload_n 1, 1), (34, .iinc 1 1, 3), (37, .iload_n 2, 1), (38, .getstatic 59, 3), (41, .ishr, 1), (42, .i2b, 1), (43, .bastore, 1), (44, .aload_n 0, 1), (45, .iload_n 1, 1), (46, .iload_n 2, 1), (47, .getstatic 63, 3), (50, .ishr, 1), (51, .i2b, 1), (52, .bastore, 1), (53, .return_, 1)]
theorem d4_ : ∀ q ∈ l4_, decode jdk_52_method_4_code q.1 = .ok (q.2.1, q.2.2) := by decide +kernel
abbrev l5_ : List (Nat × Instr × Nat) := [(0, .iload_n 2, 1), (1, .invokestatic 107, 3), (4, .astore_n 3, 1), (5, .iconst 0, 1), (6, .istore 4, 2), (8, .iload 4, 2), (10, .iload_n 2, 1), (11, .if_icmp .ge 21, 3), (32, .aload_n 3, 1), (33, .areturn, 1), (14, .aload_n 3, 1), (15, .iload 4, 2), (17, .aload_n 0, 1), (18, .iload_n 1, 1), (19, .caload, 1), (20, .invokestatic 111, 3), (23, .iinc 1 1, 3), (26, .iinc 4 1, 3), (29, .goto (-21), 3)]
theorem d5_ : ∀ q ∈ l5_, decode jdk_52_method_14_code q.1 = .ok (q.2.1, q.2.2) := by decide +kernel
abbrev l6_ : List (Nat × Instr × Nat) := [(0, .iconst 0, 1), (1, .istore 5, 2), (3, .iload 5, 2), (5, .iload 4, 2), (7, .if_icmp .ge 37, 3), (44, .iload 4, 2), (46, .ireturn, 1), (10, .aload_n 0, 1), (11, .iload_n 1, 1), (12, .caload, 1), (13, .istore 6, 2), (15, .iload 6, 2), (17, .sipush 255, 3), (20, .if_icmp .le 6, 3), (23, .iload 5, 2), (25, .ireturn, 1), (26, .aload_n 2, 1), (27, .iload_n 3, 1), (28, .iload 6, 2), (30, .i2b, 1), (31, .bastore, 1), (32, .iinc 1 1, 3), (35, .iinc 3 1, 3), (38, .iinc 5 1, 3), (41, .goto (-38), 3)]
theorem d6_ : ∀ q ∈ l6_, decode jdk_52_method_21_code q.1 = .ok (q.2.1, q.2.2) := by decide +kernel
abbrev l7_ : List (Nat × Instr × Nat) := [(0, .iload_n 2, 1), (1, .newarray .byte, 2), (3, .astore_n 3, 1), (4, .aload_n 0, 1), (5, .iload_n 1, 1), (6, .aload_n 3, 1), (7, .iconst 0, 1), (8, .iload_n 2, 1), (9, .invokestatic 115, 3), (12, .istore 4, 2), (14, .iload 4, 2), (16, .iload_n 2, 1), (17, .if_icmp .eq 40, 3), (57, .aload_n 3, 1), (58, .areturn, 1), (20, .aload_n 0, 1), (21, .iload_n 1, 1), (22, .iload_n 2, 1), (23, .invokestatic 119, 3), (26, .astore 5, 2), (28, .aload 5, 2), (30, .iload 4, 2), (32, .invokestatic 71, 3), (35, .sipush 255, 3), (38, .if_icmp .gt 16, 3), (54, .aload 5, 2), (56, .areturn, 1)]
theorem d7_ : ∀ q ∈ l7_, decode jdk_52_method_16_code q.1 = .ok (q.2.1, q.2.2) := by decide +kernel
abbrev l8_ : List (Nat × Instr × Nat) := [(0, .aload_n 0, 1), (1, .invokespecial 1, 3), (4, .iload_n 3, 1), (5, .ifCond .ne 22, 3), (27, .getstatic 38, 3), (30, .ifCond .eq 28, 3), (33, .aload_n 1, 1), (34, .iload_n 2, 1), (35, .iload_n 3, 1), (36, .invokestatic 177, 3), (39, .astore 5, 2), (41, .aload_n 0, 1), (42, .aload 5, 2), (44, .iload_n 3, 1), (45, .invokestatic 47, 3), (48, .putfield 15, 3), (51, .aload_n 0, 1), (52, .aload 5, 2), (54, .putfield 9, 3), (57, .return_, 1)]
theorem d8_ : ∀ q ∈ l8_, decode jdk_42_method_149_code q.1 = .ok (q.2.1, q.2.2) := by decide +kernel
abbrev l9_ : List (Nat × Instr × Nat) := [(0, .aload_n 0, 1), (1, .aload_n 1, 1), (2, .iconst 0, 1), (3, .aload_n 1, 1), (4, .arraylength, 1), (5, .aconst_null, 1), (6, .invokespecial 27, 3), (9, .return_, 1)]
theorem d9_ : ∀ q ∈ l9_, decode jdk_42_method_3_code q.1 = .ok (q.2.1, q.2.2) := by decide +kernel
abbrev l10_ : List (Nat × Instr × Nat) := [(0, .iload_n 0, 1), (1, .ifCond .lt 8, 3), (4, .iload_n 0, 1), (5, .iload_n 1, 1), (6, .if_icmp .lt 10, 3), (16, .iload_n 0, 1), (17, .ireturn, 1)]
theorem d10_ : ∀ q ∈ l10_, decode jdk_41_method_11_code q.1 = .ok (q.2.1, q.2.2) := by decide +kernel
abbrev l11_ : List (Nat × Instr × Nat) := [(0, .iload_n 0, 1), (1, .iload_n 1, 1), (2, .getstatic 1053, 3), (5, .invokestatic 1059, 3), (8, .pop, 1), (9, .return_, 1)]
theorem d11_ : ∀ q ∈ l11_, decode jdk_42_method_155_code q.1 = .ok (q.2.1, q.2.2) := by decide +kernel
abbrev l12_ : List (Nat × Instr × Nat) := [(0, .iload_n 1, 1), (1, .aload_n 0, 1), (2, .arraylength, 1), (3, .invokestatic 9, 3), (6, .aload_n 0, 1), (7, .iload_n 1, 1), (8, .baload, 1), (9, .sipush 255, 3), (12, .iand, 1), (13, .i2c, 1), (14, .ireturn, 1)]
theorem d12_ : ∀ q ∈ l12_, decode jdk_43_method_2_code q.1 = .ok (q.2.1, q.2.2) := by decide +kernel
abbrev l13_ : List (Nat × Instr × Nat) := [(0, .aload_n 0, 1), (1, .arraylength, 1), (2, .iconst 1, 1), (3, .ishr, 1), (4, .ireturn, 1)]
theorem d13_ : ∀ q ∈ l13_, decode jdk_52_method_6_code q.1 = .ok (q.2.1, q.2.2) := by decide +kernel
abbrev l14_ : List (Nat × Instr × Nat) := [(0, .iload_n 0, 1), (1, .aload_n 1, 1), (2, .invokestatic 48, 3), (5, .invokestatic 414, 3), (8, .return_, 1)]
theorem d14_ : ∀ q ∈ l14_, decode jdk_52_method_91_code q.1 = .ok (q.2.1, q.2.2) := by decide +kernel
abbrev l15_ : List (Nat × Instr × Nat) := [(0, .iload_n 1, 1), (1, .aload_n 0, 1), (2, .invokestatic 67, 3), (5, .aload_n 0, 1), (6, .iload_n 1, 1), (7, .invokestatic 71, 3), (10, .ireturn, 1)]
theorem d15_ : ∀ q ∈ l15_, decode jdk_52_method_83_code q.1 = .ok (q.2.1, q.2.2) := by decide +kernel
abbrev l16_ : List (Nat × Instr × Nat) := [(0, .getstatic 38, 3), (3, .ifCond .eq 14, 3), (6, .aload_n 0, 1), (7, .getfield 15, 3), (10, .ifCond .ne 7, 3), (13, .iconst 1, 1), (14, .goto 4, 3), (18, .ireturn, 1), (17, .iconst 0, 1)]
theorem d16_ : ∀ q ∈ l16_, decode jdk_42_method_154_code q.1 = .ok (q.2.1, q.2.2) := by decide +kernel
abbrev l17_ : List (Nat × Instr × Nat) := [(0, .getstatic 18, 3), (3, .ifCond .eq 14, 3), (6, .aload_n 0, 1), (7, .getfield 22, 3), (10, .ifCond .ne 7, 3), (13, .iconst 1, 1), (14, .goto 4, 3), (18, .ireturn, 1), (17, .iconst 0, 1)]
theorem d17_ : ∀ q ∈ l17_, decode jdk_68_method_68_code q.1 = .ok (q.2.1, q.2.2) := by decide +kernel
abbrev l18_ : List (Nat × Instr × Nat) := [(0, .getstatic 38, 3), (3, .ifCond .eq 10, 3), (6, .aload_n 0, 1), (7, .getfield 15, 3), (10, .goto 4, 3), (14, .ireturn, 1)]
theorem d18_ : ∀ q ∈ l18_, decode jdk_42_method_152_code q.1 = .ok (q.2.1, q.2.2) := by decide +kernel
abbrev l19_ : List (Nat × Instr × Nat) := [(0, .aload_n 0, 1), (1, .getfield 9, 3), (4, .arraylength, 1), (5, .aload_n 0, 1), (6, .invokevirtual 335, 3), (9, .ishr, 1), (10, .ireturn, 1)]
theorem d19_ : ∀ q ∈ l19_, decode jdk_42_method_54_code q.1 = .ok (q.2.1, q.2.2) := by decide +kernel
abbrev l20_ : List (Nat × Instr × Nat) := [(0, .aload_n 0, 1), (1, .invokevirtual 492, 3), (4, .ifCond .eq 12, 3), (16, .aload_n 0, 1), (17, .getfield 9, 3), (20, .iload_n 1, 1), (21, .invokestatic 498, 3), (24, .ireturn, 1), (7, .aload_n 0, 1), (8, .getfield 9, 3), (11, .iload_n 1, 1), (12, .invokestatic 495, 3), (15, .ireturn, 1)]
theorem d20_ : ∀ q ∈ l20_, decode jdk_42_method_56_code q.1 = .ok (q.2.1, q.2.2) := by decide +kernel
abbrev l21_ : List (Nat × Instr × Nat) := [(0, .iload_n 0, 1), (1, .ldc 7, 2), (3, .iand, 1), (4, .istore_n 1, 1), (5, .iload_n 1, 1), (6, .ldc 8, 2), (8, .if_icmp .lt 15, 3), (23, .iload_n 1, 1), (24, .bipush 123, 2), (26, .if_icmp .eq 9, 3), (35, .bipush 112, 2), (37, .istore_n 1, 1), (38, .iload_n 1, 1), (39, .i2c, 1), (40, .ireturn, 1), (29, .iload_n 1, 1), (30, .bipush 125, 2), (32, .if_icmp .ne 6, 3), (11, .iload_n 1, 1), (12, .ldc 9, 2), (14, .if_icmp .gt 9, 3), (17, .iload_n 1, 1), (18, .sipush 255, 3), (21, .iand, 1), (22, .istore_n 1, 1)]
theorem d21_ : ∀ q ∈ l21_, decode method_2_code q.1 = .ok (q.2.1, q.2.2) := by decide +kernel
abbrev l22_ : List (Nat × Instr × Nat) := [(0, .iload_n 0, 1), (1, .ldc 7, 2), (3, .iand, 1), (4, .istore_n 1, 1), (5, .iload_n 1, 1), (6, .ldc 8, 2), (8, .if_icmp .lt 15, 3), (23, .iload_n 1, 1), (24, .i2c, 1), (25, .ireturn, 1), (11, .iload_n 1, 1), (12, .ldc 9, 2), (14, .if_icmp .gt 9, 3), (17, .iload_n 1, 1), (18, .sipush 255, 3), (21, .iand, 1), (22, .istore_n 1, 1)]
theorem d22_ : ∀ q ∈ l22_, decode method_3_code q.1 = .ok (q.2.1, q.2.2) := by decide +kernel
abbrev l23_ : List (Nat × Instr × Nat) := [(0, .iload_n 0, 1), (1, .ldc 75, 2), (3, .if_icmp .lt 13, 3), (6, .iload_n 0, 1), (7, .ldc 76, 2), (9, .if_icmp .ge 7, 3), (12, .iconst 1, 1), (13, .goto 4, 3), (17, .ireturn, 1), (16, .iconst 0, 1)]
theorem d23_ : ∀ q ∈ l23_, decode jdk_89_method_14_code q.1 = .ok (q.2.1, q.2.2) := by decide +kernel
abbrev l24_ : List (Nat × Instr × Nat) := [(0, .iload_n 0, 1), (1, .ldc 76, 2), (3, .if_icmp .lt 13, 3), (6, .iload_n 0, 1), (7, .ldc 77, 2), (9, .if_icmp .ge 7, 3), (12, .iconst 1, 1), (13, .goto 4, 3), (17, .ireturn, 1)]
theorem d24_ : ∀ q ∈ l24_, decode jdk_89_method_15_code q.1 = .ok (q.2.1, q.2.2) := by decide +kernel
abbrev l25_ : List (Nat × Instr × Nat) := [(0, .iload_n 0, 1), (1, .ldc 75, 2), (3, .if_icmp .lt 13, 3), (16, .iconst 0, 1), (17, .ireturn, 1), (6, .iload_n 0, 1), (7, .ldc 77, 2), (9, .if_icmp .ge 7, 3)]
theorem d25_ : ∀ q ∈ l25_, decode jdk_89_method_16_code q.1 = .ok (q.2.1, q.2.2) := by decide +kernel
abbrev l26_ : List (Nat × Instr × Nat) := [(0, .aload_n 1, 1), (1, .ifnonnull 30, 3), (31, .iconst 0, 1), (32, .istore_n 3, 1), (33, .iconst 0, 1), (34, .istore 4, 2), (36, .iload 4, 2), (38, .aload_n 1, 1), (39, .invokevirtual 58, 3), (42, .if_icmp .ge 104, 3), (45, .iload_n 3, 1), (46, .iload_n 2, 1), (47, .if_icmp .gt 99, 3), (50, .aload_n 1, 1), (51, .iload 4, 2), (53, .invokevirtual 62, 3), (56, .istore 5, 2), (58, .iload 5, 2), (60, .invokestatic 66, 3), (63, .ifCond .eq 34, 3), (66, .iload 4, 2), (68, .iconst 1, 1), (69, .iadd, 1), (70, .aload_n 1, 1), (71, .invokevirtual 58, 3), (74, .if_icmp .ge 23, 3), (77, .aload_n 1, 1), (78, .iload 4, 2), (80, .iconst 1, 1), (81, .iadd, 1), (82, .invokevirtual 62, 3), (85, .invokestatic 72, 3), (88, .ifCond .eq 9, 3), (91, .iinc 4 1, 3), (94, .goto 43, 3), (137, .iinc 4 1, 3), (140, .iinc 3 1, 3), (143, .goto (-107), 3), (146, .iload_n 3, 1), (147, .ifCond .ne 30, 3), (177, .iload_n 3, 1), (178, .iload_n 2, 1), (179, .if_icmp .le 39, 3), (218, .return_, 1), (97, .iload 5, 2), (99, .invokestatic 75, 3), (102, .ifCond .eq 35, 3)]
theorem d26_ : ∀ q ∈ l26_, decode prog_7_method_6_code q.1 = .ok (q.2.1, q.2.2) := by decide +kernel
abbrev l27_ : List (Nat × Instr × Nat) := [(0, .iload_n 0, 1), (1, .iload_n 1, 1), (2, .if_icmp .lt 7, 3), (9, .iload_n 1, 1), (10, .ireturn, 1), (5, .iload_n 0, 1), (6, .goto 4, 3)]
theorem d27_ : ∀ q ∈ l27_, decode jdk_29_method_65_code q.1 = .ok (q.2.1, q.2.2) := by decide +kernel
abbrev l28_ : List (Nat × Instr × Nat) := [(0, .iload_n 0, 1), (1, .iload_n 1, 1), (2, .if_icmp .gt 7, 3), (9, .iload_n 1, 1), (10, .ireturn, 1), (5, .iload_n 0, 1), (6, .goto 4, 3)]
theorem d28_ : ∀ q ∈ l28_, decode jdk_29_method_69_code q.1 = .ok (q.2.1, q.2.2) := by decide +kernel
abbrev l29_ : List (Nat × Instr × Nat) := [(0, .iload_n 0, 1), (1, .ifCond .lt 13, 3), (4, .iload_n 0, 1), (5, .iload_n 1, 1), (6, .if_icmp .gt 8, 3), (9, .iload_n 1, 1), (10, .iload_n 2, 1), (11, .if_icmp .le 11, 3), (22, .iload_n 0, 1), (23, .ireturn, 1)]
theorem d29_ : ∀ q ∈ l29_, decode jdk_41_method_12_code q.1 = .ok (q.2.1, q.2.2) := by decide +kernel
abbrev l30_ : List (Nat × Instr × Nat) := [(0, .iload_n 0, 1), (1, .iload_n 1, 1), (2, .iload_n 2, 1), (3, .getstatic 1053, 3), (6, .invokestatic 1062, 3), (9, .pop, 1), (10, .return_, 1)]
theorem d30_ : ∀ q ∈ l30_, decode jdk_42_method_158_code q.1 = .ok (q.2.1, q.2.2) := by decide +kernel
abbrev l31_ : List (Nat × Instr × Nat) := [(0, .iload_n 0, 1), (1, .iload_n 1, 1), (2, .aload_n 2, 1), (3, .invokestatic 48, 3), (6, .invokestatic 241, 3), (9, .return_, 1)]
theorem d31_ : ∀ q ∈ l31_, decode jdk_52_method_93_code q.1 = .ok (q.2.1, q.2.2) := by decide +kernel
abbrev l32_ : List (Nat × Instr × Nat) := [(0, .iload_n 1, 1), (1, .i2b, 1), (2, .istore 4, 2), (4, .iload_n 2, 1), (5, .istore 5, 2), (7, .iload 5, 2), (9, .iload_n 3, 1), (10, .if_icmp .ge 21, 3), (13, .aload_n 0, 1), (14, .iload 5, 2), (16, .baload, 1), (17, .iload 4, 2), (19, .if_icmp .ne 6, 3), (25, .iinc 5 1, 3), (28, .goto (-21), 3), (31, .iconst (-1), 1), (32, .ireturn, 1)]
theorem d32_ : ∀ q ∈ l32_, decode jdk_43_method_23_code q.1 = .ok (q.2.1, q.2.2) := by decide +kernel
abbrev l33_ : List (Nat × Instr × Nat) := [(0, .iload_n 0, 1), (1, .ifCond .lt 14, 3), (4, .iload_n 0, 1), (5, .sipush 255, 3), (8, .if_icmp .gt 7, 3), (11, .iconst 1, 1), (12, .goto 4, 3), (16, .ireturn, 1)]
theorem d33_ : ∀ q ∈ l33_, decode jdk_43_method_4_code q.1 = .ok (q.2.1, q.2.2) := by decide +kernel
abbrev l34_ : List (Nat × Instr × Nat) := [(0, .iload_n 1, 1), (1, .invokestatic 88, 3), (4, .ifCond .ne 5, 3), (9, .iload_n 2, 1), (10, .iconst 0, 1), (11, .invokestatic 92, 3), (14, .istore_n 2, 1), (15, .iload_n 3, 1), (16, .aload_n 0, 1), (17, .arraylength, 1), (18, .invokestatic 38, 3), (21, .istore_n 3, 1), (22, .iload_n 2, 1), (23, .iload_n 3, 1), (24, .if_icmp .lt 5, 3), (29, .aload_n 0, 1), (30, .iload_n 1, 1), (31, .iload_n 2, 1), (32, .iload_n 3, 1), (33, .invokestatic 95, 3), (36, .ireturn, 1)]
theorem d34_ : ∀ q ∈ l34_, decode jdk_43_method_22_code q.1 = .ok (q.2.1, q.2.2) := by decide +kernel
abbrev l35_ : List (Nat × Instr × Nat) := [(0, .iload_n 2, 1), (1, .istore 4, 2), (3, .iload 4, 2), (5, .iload_n 3, 1), (6, .if_icmp .ge 22, 3), (9, .aload_n 0, 1), (10, .iload 4, 2), (12, .invokestatic 71, 3), (15, .iload_n 1, 1), (16, .if_icmp .ne 6, 3), (22, .iinc 4 1, 3), (25, .goto (-22), 3), (28, .iconst (-1), 1), (29, .ireturn, 1)]
theorem d35_ : ∀ q ∈ l35_, decode jdk_52_method_48_code q.1 = .ok (q.2.1, q.2.2) := by decide +kernel
abbrev l36_ : List (Nat × Instr × Nat) := [(0, .iload_n 2, 1), (1, .iload_n 3, 1), (2, .aload_n 0, 1), (3, .invokestatic 96, 3), (6, .aload_n 0, 1), (7, .iload_n 1, 1), (8, .iload_n 2, 1), (9, .iload_n 3, 1), (10, .invokestatic 244, 3), (13, .ireturn, 1)]
theorem d36_ : ∀ q ∈ l36_, decode jdk_52_method_47_code q.1 = .ok (q.2.1, q.2.2) := by decide +kernel
abbrev l37_ : List (Nat × Instr × Nat) := [(0, .iload_n 2, 1), (1, .iconst 0, 1), (2, .invokestatic 224, 3), (5, .istore_n 2, 1), (6, .iload_n 3, 1), (7, .aload_n 0, 1), (8, .arraylength, 1), (9, .iconst 1, 1), (10, .ishr, 1), (11, .invokestatic 183, 3), (14, .istore_n 3, 1), (15, .iload_n 2, 1), (16, .iload_n 3, 1), (17, .if_icmp .lt 5, 3), (22, .iload_n 1, 1), (23, .ldc 227, 2), (25, .if_icmp .ge 11, 3), (28, .aload_n 0, 1), (29, .iload_n 1, 1), (30, .iload_n 2, 1), (31, .iload_n 3, 1), (32, .invokestatic 228, 3), (35, .ireturn, 1)]
theorem d37_ : ∀ q ∈ l37_, decode jdk_52_method_40_code q.1 = .ok (q.2.1, q.2.2) := by decide +kernel
abbrev l38_ : List (Nat × Instr × Nat) := [(0, .aload_n 0, 1), (1, .invokevirtual 492, 3), (4, .ifCond .eq 19, 3), (7, .aload_n 0, 1), (8, .getfield 9, 3), (11, .iload_n 1, 1), (12, .iload_n 2, 1), (13, .aload_n 0, 1), (14, .invokevirtual 505, 3), (17, .invokestatic 637, 3), (20, .goto 16, 3), (36, .ireturn, 1), (23, .aload_n 0, 1), (24, .getfield 9, 3), (27, .iload_n 1, 1), (28, .iload_n 2, 1), (29, .aload_n 0, 1), (30, .invokevirtual 505, 3), (33, .invokestatic 640, 3)]
theorem d38_ : ∀ q ∈ l38_, decode jdk_42_method_80_code q.1 = .ok (q.2.1, q.2.2) := by decide +kernel
abbrev l39_ : List (Nat × Instr × Nat) := [(0, .aload_n 0, 1), (1, .iload_n 1, 1), (2, .iconst 0, 1), (3, .invokevirtual 633, 3), (6, .ireturn, 1)]
theorem d39_ : ∀ q ∈ l39_, decode jdk_42_method_79_code q.1 = .ok (q.2.1, q.2.2) := by decide +kernel
abbrev l40_ : List (Nat × Instr × Nat) := [(0, .iload_n 0, 1), (1, .sipush 255, 3), (4, .if_icmp .gt 7, 3), (7, .iconst 1, 1), (8, .goto 4, 3), (12, .ireturn, 1), (11, .iconst 0, 1)]
theorem d40_ : ∀ q ∈ l40_, decode jdk_43_method_3_code q.1 = .ok (q.2.1, q.2.2) := by decide +kernel
abbrev l41_ : List (Nat × Instr × Nat) := [(0, .iconst 1, 1), (1, .newarray .byte, 2), (3, .dup, 1), (4, .iconst 0, 1), (5, .iload_n 0, 1), (6, .i2b, 1), (7, .bastore, 1), (8, .areturn, 1)]
theorem d41_ : ∀ q ∈ l41_, decode jdk_43_method_46_code q.1 = .ok (q.2.1, q.2.2) := by decide +kernel
abbrev l42_ : List (Nat × Instr × Nat) := [(0, .iconst 2, 1), (1, .newarray .byte, 2), (3, .astore_n 1, 1), (4, .aload_n 1, 1), (5, .iconst 0, 1), (6, .iload_n 0, 1), (7, .invokestatic 111, 3), (10, .aload_n 1, 1), (11, .areturn, 1)]
theorem d42_ : ∀ q ∈ l42_, decode jdk_52_method_24_code q.1 = .ok (q.2.1, q.2.2) := by decide +kernel
abbrev l43_ : List (Nat × Instr × Nat) := [(0, .aload_n 0, 1), (1, .invokespecial 1, 3), (4, .aload_n 0, 1), (5, .aload_n 1, 1), (6, .putfield 9, 3), (9, .aload_n 0, 1), (10, .iload_n 2, 1), (11, .putfield 15, 3), (14, .return_, 1)]
theorem d43_ : ∀ q ∈ l43_, decode jdk_42_method_151_code q.1 = .ok (q.2.1, q.2.2) := by decide +kernel
abbrev l44_ : List (Nat × Instr × Nat) := [(0, .getstatic 38, 3), (3, .ifCond .eq 23, 3), (6, .iload_n 0, 1), (7, .invokestatic 1015, 3), (10, .ifCond .eq 16, 3), (26, .new 10, 3), (29, .dup, 1), (30, .iload_n 0, 1), (31, .invokestatic 1021, 3), (34, .iconst 1, 1), (35, .invokespecial 209, 3), (38, .areturn, 1), (13, .new 10, 3), (16, .dup, 1), (17, .iload_n 0, 1), (18, .invokestatic 1018, 3), (21, .iconst 0, 1), (22, .invokespecial 209, 3), (25, .areturn, 1)]
theorem d44_ : ∀ q ∈ l44_, decode jdk_42_method_139_code q.1 = .ok (q.2.1, q.2.2) := by decide +kernel
abbrev l45_ : List (Nat × Instr × Nat) := [(0, .aload_n 0, 1), (1, .arraylength, 1), (2, .aload_n 1, 1), (3, .arraylength, 1), (4, .if_icmp .ne 30, 3), (7, .iconst 0, 1), (8, .istore_n 2, 1), (9, .iload_n 2, 1), (10, .aload_n 0, 1), (11, .arraylength, 1), (12, .if_icmp .ge 20, 3), (32, .iconst 1, 1), (33, .ireturn, 1), (15, .aload_n 0, 1), (16, .iload_n 2, 1), (17, .baload, 1), (18, .aload_n 1, 1), (19, .iload_n 2, 1), (20, .baload, 1), (21, .if_icmp .eq 5, 3), (26, .iinc 2 1, 3), (29, .goto (-20), 3)]
theorem d45_ : ∀ q ∈ l45_, decode jdk_43_method_13_code q.1 = .ok (q.2.1, q.2.2) := by decide +kernel
abbrev l46_ : List (Nat × Instr × Nat) := [(0, .aload_n 0, 1), (1, .aload_n 1, 1), (2, .if_acmp .ne 5, 3), (7, .aload_n 1, 1), (8, .instanceof 10, 3), (11, .ifCond .eq 43, 3), (14, .aload_n 1, 1), (15, .checkcast 10, 3), (18, .astore_n 2, 1), (19, .getstatic 38, 3), (22, .ifCond .eq 14, 3), (25, .aload_n 0, 1), (26, .getfield 15, 3), (29, .aload_n 2, 1), (30, .getfield 15, 3), (33, .if_icmp .ne 21, 3), (36, .aload_n 0, 1), (37, .getfield 9, 3), (40, .aload_n 2, 1), (41, .getfield 9, 3), (44, .invokestatic 541, 3), (47, .ifCond .eq 7, 3), (50, .iconst 1, 1), (51, .goto 4, 3), (55, .ireturn, 1)]
theorem d46_ : ∀ q ∈ l46_, decode jdk_42_method_66_code q.1 = .ok (q.2.1, q.2.2) := by decide +kernel
abbrev l47_ : List (Nat × Instr × Nat) := [(0, .iload_n 0, 1), (1, .iload_n 1, 1), (2, .iload_n 2, 1), (3, .invokestatic 194, 3), (6, .iadd, 1), (7, .istore_n 3, 1), (8, .iconst 0, 1), (9, .iload_n 3, 1), (10, .if_icmp .ge 11, 3), (13, .iload_n 3, 1), (14, .ldc 200, 2), (16, .if_icmp .gt 5, 3), (19, .iload_n 3, 1), (20, .ireturn, 1)]
theorem d47_ : ∀ q ∈ l47_, decode jdk_48_method_27_code q.1 = .ok (q.2.1, q.2.2) := by decide +kernel
abbrev l48_ : List (Nat × Instr × Nat) := [(0, .aload_n 0, 1), (1, .getfield 15, 3), (4, .arraylength, 1), (5, .istore_n 2, 1), (6, .iload_n 1, 1), (7, .aload_n 0, 1), (8, .getfield 22, 3), (11, .ishl, 1), (12, .istore_n 3, 1), (13, .iload_n 3, 1), (14, .iload_n 2, 1), (15, .isub, 1), (16, .istore 4, 2), (18, .iload_n 2, 1), (19, .iload 4, 2), (21, .iload_n 2, 1), (22, .iconst 2, 1), (23, .aload_n 0, 1), (24, .getfield 22, 3), (27, .ishl, 1), (28, .iadd, 1), (29, .invokestatic 114, 3), (32, .istore 5, 2), (34, .iload 5, 2), (36, .ldc 39, 2), (38, .if_icmp .ne 13, 3), (51, .iload 5, 2), (53, .aload_n 0, 1), (54, .getfield 22, 3), (57, .ishr, 1), (58, .ireturn, 1)]
theorem d48_ : ∀ q ∈ l48_, decode jdk_68_method_10_code q.1 = .ok (q.2.1, q.2.2) := by decide +kernel
abbrev l49_ : List (Nat × Instr × Nat) := [(0, .iload_n 1, 1), (1, .aload_n 0, 1), (2, .arraylength, 1), (3, .if_icmp .ne 11, 3), (14, .iload_n 1, 1), (15, .newarray .byte, 2), (17, .astore_n 2, 1), (18, .aload_n 0, 1), (19, .iconst 0, 1), (20, .aload_n 2, 1), (21, .iconst 0, 1), (22, .aload_n 0, 1), (23, .arraylength, 1), (24, .iload_n 1, 1), (25, .invokestatic 304, 3), (28, .invokestatic 150, 3), (31, .aload_n 2, 1), (32, .areturn, 1)]
theorem d49_ : ∀ q ∈ l49_, decode jdk_65_method_121_code q.1 = .ok (q.2.1, q.2.2) := by decide +kernel
abbrev l50_ : List (Nat × Instr × Nat) := [(0, .iload_n 1, 1), (1, .iload_n 0, 1), (2, .if_icmp .ge 35, 3), (37, .return_, 1)]
theorem d50_ : ∀ q ∈ l50_, decode jdk_65_method_131_code q.1 = .ok (q.2.1, q.2.2) := by decide +kernel
abbrev l51_ : List (Nat × Instr × Nat) := [(0, .iload_n 1, 1), (1, .iload_n 2, 1), (2, .invokestatic 343, 3), (5, .iload_n 2, 1), (6, .iload_n 1, 1), (7, .isub, 1), (8, .istore_n 3, 1), (9, .iload_n 3, 1), (10, .newarray .byte, 2), (12, .astore 4, 2), (14, .aload_n 0, 1), (15, .iload_n 1, 1), (16, .aload 4, 2), (18, .iconst 0, 1), (19, .aload_n 0, 1), (20, .arraylength, 1), (21, .iload_n 1, 1), (22, .isub, 1), (23, .iload_n 3, 1), (24, .invokestatic 304, 3), (27, .invokestatic 150, 3), (30, .aload 4, 2), (32, .areturn, 1)]
theorem d51_ : ∀ q ∈ l51_, decode jdk_65_method_133_code q.1 = .ok (q.2.1, q.2.2) := by decide +kernel
abbrev l52_ : List (Nat × Instr × Nat) := [(0, .iload_n 1, 1), (1, .ifCond .ne 9, 3), (4, .iload_n 2, 1), (5, .aload_n 0, 1), (6, .arraylength, 1), (7, .if_icmp .eq 10, 3), (10, .aload_n 0, 1), (11, .iload_n 1, 1), (12, .iload_n 2, 1), (13, .invokestatic 339, 3), (16, .areturn, 1)]
theorem d52_ : ∀ q ∈ l52_, decode jdk_65_method_132_code q.1 = .ok (q.2.1, q.2.2) := by decide +kernel
abbrev l53_ : List (Nat × Instr × Nat) := [(0, .aload_n 0, 1), (1, .getfield 15, 3), (4, .arraylength, 1), (5, .aload_n 0, 1), (6, .getfield 22, 3), (9, .ishr, 1), (10, .istore_n 2, 1), (11, .iload_n 1, 1), (12, .iload_n 2, 1), (13, .isub, 1), (14, .ifCond .le 24, 3), (38, .return_, 1), (17, .aload_n 0, 1), (18, .aload_n 0, 1), (19, .getfield 15, 3), (22, .aload_n 0, 1), (23, .iload_n 1, 1), (24, .invokevirtual 104, 3), (27, .aload_n 0, 1), (28, .getfield 22, 3), (31, .ishl, 1), (32, .invokestatic 108, 3), (35, .putfield 15, 3)]
theorem d53_ : ∀ q ∈ l53_, decode jdk_68_method_9_code q.1 = .ok (q.2.1, q.2.2) := by decide +kernel
abbrev l54_ : List (Nat × Instr × Nat) := [(0, .iload_n 2, 1), (1, .iload_n 0, 1), (2, .ior, 1), (3, .iload_n 1, 1), (4, .ior, 1), (5, .ifCond .lt 10, 3), (8, .iload_n 1, 1), (9, .iload_n 2, 1), (10, .iload_n 0, 1), (11, .isub, 1), (12, .if_icmp .le 11, 3), (23, .iload_n 0, 1), (24, .ireturn, 1)]
theorem d54_ : ∀ q ∈ l54_, decode jdk_41_method_13_code q.1 = .ok (q.2.1, q.2.2) := by decide +kernel
abbrev l55_ : List (Nat × Instr × Nat) := [(0, .iload_n 0, 1), (1, .iload_n 1, 1), (2, .iload_n 2, 1), (3, .getstatic 1053, 3), (6, .invokestatic 1065, 3), (9, .ireturn, 1)]
theorem d55_ : ∀ q ∈ l55_, decode jdk_42_method_157_code q.1 = .ok (q.2.1, q.2.2) := by decide +kernel
abbrev l56_ : List (Nat × Instr × Nat) := [(0, .iload_n 0, 1), (1, .iload_n 1, 1), (2, .aload_n 2, 1), (3, .invokestatic 48, 3), (6, .invokestatic 419, 3), (9, .pop, 1), (10, .return_, 1)]
theorem d56_ : ∀ q ∈ l56_, decode jdk_52_method_94_code q.1 = .ok (q.2.1, q.2.2) := by decide +kernel
abbrev l57_ : List (Nat × Instr × Nat) := [(0, .iload_n 3, 1), (1, .iload 4, 2), (3, .aload_n 2, 1), (4, .invokestatic 173, 3), (7, .iconst 0, 1), (8, .istore 5, 2), (10, .iload 5, 2), (12, .iload 4, 2), (14, .if_icmp .ge 27, 3), (41, .return_, 1), (17, .aload_n 2, 1), (18, .iload_n 3, 1), (19, .iinc 3 1, 3), (22, .aload_n 0, 1), (23, .iload_n 1, 1), (24, .iinc 1 1, 3), (27, .baload, 1), (28, .sipush 255, 3), (31, .iand, 1), (32, .invokestatic 111, 3), (35, .iinc 5 1, 3), (38, .goto (-28), 3)]
theorem d57_ : ∀ q ∈ l57_, decode jdk_52_method_86_code q.1 = .ok (q.2.1, q.2.2) := by decide +kernel
abbrev l58_ : List (Nat × Instr × Nat) := [(0, .aload_n 0, 1), (1, .iload_n 1, 1), (2, .aload_n 2, 1), (3, .iload_n 3, 1), (4, .iload 4, 2), (6, .invokestatic 240, 3), (9, .return_, 1)]
theorem d58_ : ∀ q ∈ l58_, decode jdk_43_method_50_code q.1 = .ok (q.2.1, q.2.2) := by decide +kernel
abbrev l59_ : List (Nat × Instr × Nat) := [(0, .aload_n 0, 1), (1, .invokevirtual 83, 3), (4, .ifCond .ne 4, 3), (8, .aload_n 0, 1), (9, .getfield 15, 3), (12, .arraylength, 1), (13, .invokestatic 26, 3), (16, .astore_n 1, 1), (17, .aload_n 0, 1), (18, .getfield 15, 3), (21, .iconst 0, 1), (22, .aload_n 1, 1), (23, .iconst 0, 1), (24, .aload_n 0, 1), (25, .getfield 79, 3), (28, .invokestatic 125, 3), (31, .aload_n 0, 1), (32, .aload_n 1, 1), (33, .putfield 15, 3), (36, .aload_n 0, 1), (37, .iconst 1, 1), (38, .putfield 22, 3), (41, .return_, 1), (7, .return_, 1)]
theorem d59_ : ∀ q ∈ l59_, decode jdk_68_method_11_code q.1 = .ok (q.2.1, q.2.2) := by decide +kernel
abbrev l60_ : List (Nat × Instr × Nat) := [(0, .getstatic 18, 3), (3, .ifCond .eq 18, 3), (6, .aload_n 0, 1), (7, .getfield 22, 3), (10, .aload_n 1, 1), (11, .invokevirtual 40, 3), (14, .if_icmp .eq 7, 3), (21, .return_, 1), (17, .aload_n 0, 1), (18, .invokevirtual 195, 3)]
theorem d60_ : ∀ q ∈ l60_, decode jdk_68_method_71_code q.1 = .ok (q.2.1, q.2.2) := by decide +kernel
abbrev l61_ : List (Nat × Instr × Nat) := [(0, .aload_n 0, 1), (1, .invokevirtual 335, 3), (4, .iload_n 3, 1), (5, .if_icmp .ne 23, 3), (8, .aload_n 0, 1), (9, .getfield 9, 3), (12, .iconst 0, 1), (13, .aload_n 1, 1), (14, .iload_n 2, 1), (15, .iload_n 3, 1), (16, .ishl, 1), (17, .aload_n 0, 1), (18, .getfield 9, 3), (21, .arraylength, 1), (22, .invokestatic 212, 3), (25, .goto 18, 3), (43, .return_, 1), (28, .aload_n 0, 1), (29, .getfield 9, 3), (32, .iconst 0, 1), (33, .aload_n 1, 1), (34, .iload_n 2, 1), (35, .aload_n 0, 1), (36, .getfield 9, 3), (39, .arraylength, 1), (40, .invokestatic 106, 3)]
theorem d61_ : ∀ q ∈ l61_, decode jdk_42_method_147_code q.1 = .ok (q.2.1, q.2.2) := by decide +kernel
abbrev l62_ : List (Nat × Instr × Nat) := [(0, .aload_n 0, 1), (1, .aload_n 2, 1), (2, .invokevirtual 397, 3), (5, .aload_n 2, 1), (6, .aload_n 0, 1), (7, .getfield 15, 3), (10, .iload_n 1, 1), (11, .aload_n 0, 1), (12, .getfield 22, 3), (15, .invokevirtual 399, 3), (18, .return_, 1)]
theorem d62_ : ∀ q ∈ l62_, decode jdk_68_method_73_code q.1 = .ok (q.2.1, q.2.2) := by decide +kernel
abbrev l63_ : List (Nat × Instr × Nat) := [(0, .aload_n 1, 1), (1, .ifnonnull 8, 3), (9, .aload_n 1, 1), (10, .invokevirtual 32, 3), (13, .istore_n 2, 1), (14, .aload_n 0, 1), (15, .aload_n 0, 1), (16, .getfield 79, 3), (19, .iload_n 2, 1), (20, .iadd, 1), (21, .invokevirtual 100, 3), (24, .aload_n 0, 1), (25, .aload_n 0, 1), (26, .getfield 79, 3), (29, .aload_n 1, 1), (30, .invokevirtual 208, 3), (33, .aload_n 0, 1), (34, .dup, 1), (35, .getfield 79, 3), (38, .iload_n 2, 1), (39, .iadd, 1), (40, .putfield 79, 3), (43, .aload_n 0, 1), (44, .areturn, 1)]
theorem d63_ : ∀ q ∈ l63_, decode jdk_68_method_22_code q.1 = .ok (q.2.1, q.2.2) := by decide +kernel
abbrev l64_ : List (Nat × Instr × Nat) := [(0, .aload_n 0, 1), (1, .aload_n 1, 1), (2, .invokespecial 29, 3), (5, .pop, 1), (6, .aload_n 0, 1), (7, .areturn, 1)]
theorem d64_ : ∀ q ∈ l64_, decode jdk_67_method_7_code q.1 = .ok (q.2.1, q.2.2) := by decide +kernel
abbrev l65_ : List (Nat × Instr × Nat) := [(0, .iload_n 1, 1), (1, .aload_n 0, 1), (2, .invokestatic 67, 3), (5, .aload_n 0, 1), (6, .iload_n 1, 1), (7, .iload_n 2, 1), (8, .invokestatic 111, 3), (11, .return_, 1)]
theorem d65_ : ∀ q ∈ l65_, decode jdk_52_method_71_code q.1 = .ok (q.2.1, q.2.2) := by decide +kernel
abbrev l66_ : List (Nat × Instr × Nat) := [(0, .aload_n 0, 1), (1, .aload_n 0, 1), (2, .getfield 79, 3), (5, .iconst 1, 1), (6, .iadd, 1), (7, .invokevirtual 100, 3), (10, .aload_n 0, 1), (11, .invokevirtual 83, 3), (14, .ifCond .eq 31, 3), (17, .iload_n 1, 1), (18, .invokestatic 191, 3), (21, .ifCond .eq 24, 3), (24, .aload_n 0, 1), (25, .getfield 15, 3), (28, .aload_n 0, 1), (29, .dup, 1), (30, .getfield 79, 3), (33, .dup_x1, 1), (34, .iconst 1, 1), (35, .iadd, 1), (36, .putfield 79, 3), (39, .iload_n 1, 1), (40, .i2b, 1), (41, .bastore, 1), (42, .goto 33, 3), (75, .aload_n 0, 1), (76, .areturn, 1), (45, .aload_n 0, 1), (46, .invokevirtual 83, 3), (49, .ifCond .eq 7, 3), (56, .aload_n 0, 1), (57, .getfield 15, 3), (60, .aload_n 0, 1), (61, .dup, 1), (62, .getfield 79, 3), (65, .dup_x1, 1), (66, .iconst 1, 1), (67, .iadd, 1), (68, .putfield 79, 3), (71, .iload_n 1, 1), (72, .invokestatic 197, 3)]
theorem d66_ : ∀ q ∈ l66_, decode jdk_68_method_31_code q.1 = .ok (q.2.1, q.2.2) := by decide +kernel
abbrev l67_ : List (Nat × Instr × Nat) := [(0, .aload_n 0, 1), (1, .iload_n 1, 1), (2, .invokespecial 50, 3), (5, .pop, 1), (6, .aload_n 0, 1), (7, .areturn, 1)]
theorem d67_ : ∀ q ∈ l67_, decode jdk_67_method_14_code q.1 = .ok (q.2.1, q.2.2) := by decide +kernel
abbrev l68_ : List (Nat × Instr × Nat) := [(0, .aload_n 0, 1), (1, .getfield 15, 3), (4, .areturn, 1)]
theorem d68_ : ∀ q ∈ l68_, decode jdk_68_method_64_code q.1 = .ok (q.2.1, q.2.2) := by decide +kernel
abbrev l69_ : List (Nat × Instr × Nat) := [(0, .aload_n 0, 1), (1, .getfield 79, 3), (4, .ireturn, 1)]
theorem d69_ : ∀ q ∈ l69_, decode jdk_68_method_6_code q.1 = .ok (q.2.1, q.2.2) := by decide +kernel
abbrev l70_ : List (Nat × Instr × Nat) := [(0, .aload_n 0, 1), (1, .invokespecial 343, 3), (4, .ireturn, 1)]
theorem d70_ : ∀ q ∈ l70_, decode jdk_67_method_93_code q.1 = .ok (q.2.1, q.2.2) := by decide +kernel
abbrev l71_ : List (Nat × Instr × Nat) := [(0, .aload_n 0, 1), (1, .invokespecial 1, 3), (4, .aload_n 1, 1), (5, .invokevirtual 552, 3), (8, .astore_n 3, 1), (9, .aload_n 1, 1), (10, .invokevirtual 549, 3), (13, .istore 4, 2), (15, .aload_n 1, 1), (16, .invokevirtual 1047, 3), (19, .ifCond .eq 22, 3), (22, .aload_n 0, 1), (23, .iconst 0, 1), (24, .putfield 15, 3), (27, .aload_n 0, 1), (28, .aload_n 3, 1), (29, .iconst 0, 1), (30, .iload 4, 2), (32, .invokestatic 54, 3), (35, .putfield 9, 3), (38, .goto 59, 3), (97, .return_, 1), (41, .getstatic 38, 3), (44, .ifCond .eq 35, 3), (47, .aload_n 1, 1), (48, .getfield 1048, 3), (51, .ifCond .eq 28, 3), (79, .aload_n 0, 1), (80, .iconst 1, 1), (81, .putfield 15, 3), (84, .aload_n 0, 1), (85, .aload_n 3, 1), (86, .iconst 0, 1), (87, .iload 4, 2), (89, .iconst 1, 1), (90, .ishl, 1), (91, .invokestatic 54, 3), (94, .putfield 9, 3)]
theorem d71_ : ∀ q ∈ l71_, decode jdk_42_method_150_code q.1 = .ok (q.2.1, q.2.2) := by decide +kernel
abbrev l72_ : List (Nat × Instr × Nat) := [(0, .aload_n 0, 1), (1, .aload_n 1, 1), (2, .aconst_null, 1), (3, .invokespecial 489, 3), (6, .return_, 1)]
theorem d72_ : ∀ q ∈ l72_, decode jdk_42_method_53_code q.1 = .ok (q.2.1, q.2.2) := by decide +kernel
abbrev l73_ : List (Nat × Instr × Nat) := [(0, .new 18, 3), (3, .dup, 1), (4, .aload_n 0, 1), (5, .invokespecial 137, 3), (8, .areturn, 1)]
theorem d73_ : ∀ q ∈ l73_, decode jdk_67_method_42_code q.1 = .ok (q.2.1, q.2.2) := by decide +kernel
abbrev l74_ : List (Nat × Instr × Nat) := [(0, .aload_n 0, 1), (1, .invokespecial 3, 3), (4, .getstatic 18, 3), (7, .ifCond .eq 18, 3), (10, .aload_n 0, 1), (11, .iload_n 1, 1), (12, .newarray .byte, 2), (14, .putfield 15, 3), (17, .aload_n 0, 1), (18, .iconst 0, 1), (19, .putfield 22, 3), (22, .goto 16, 3), (38, .return_, 1)]
theorem d74_ : ∀ q ∈ l74_, decode jdk_68_method_2_code q.1 = .ok (q.2.1, q.2.2) := by decide +kernel
abbrev l75_ : List (Nat × Instr × Nat) := [(0, .aload_n 0, 1), (1, .bipush 16, 2), (3, .invokespecial 1, 3), (6, .return_, 1)]
theorem d75_ : ∀ q ∈ l75_, decode jdk_67_method_1_code q.1 = .ok (q.2.1, q.2.2) := by decide +kernel
abbrev l76_ : List (Nat × Instr × Nat) := [(0, .aload_n 0, 1), (1, .invokespecial 1, 3), (4, .return_, 1)]
theorem d76_ : ∀ q ∈ l76_, decode jdk_30_method_1_code q.1 = .ok (q.2.1, q.2.2) := by decide +kernel
abbrev l77_ : List (Nat × Instr × Nat) := [(0, .aload_n 0, 1), (1, .invokespecial 1, 3), (4, .ldc 7, 2), (6, .aload_n 1, 1), (7, .bipush 64, 2), (9, .invokestatic 11, 3), (12, .aload_n 1, 1), (13, .bipush 123, 2), (15, .invokevirtual 15, 3), (18, .ifCond .ge 12, 3), (21, .aload_n 1, 1), (22, .bipush 125, 2), (24, .invokevirtual 15, 3), (27, .ifCond .lt 30, 3), (57, .aload_n 0, 1), (58, .aload_n 1, 1), (59, .putfield 39, 3), (62, .return_, 1)]
theorem d77_ : ∀ q ∈ l77_, decode prog_7_method_1_code q.1 = .ok (q.2.1, q.2.2) := by decide +kernel
abbrev l78_ : List (Nat × Instr × Nat) := [(0, .ldc 43, 2), (2, .aload_n 1, 1), (3, .sipush 512, 3), (6, .invokestatic 11, 3), (9, .new 23, 3), (12, .dup, 1), (13, .invokespecial 25, 3), (16, .aload_n 0, 1), (17, .getfield 39, 3), (20, .invokevirtual 28, 3), (23, .ldc 45, 2), (25, .invokevirtual 28, 3), (28, .aload_n 1, 1), (29, .invokevirtual 28, 3), (32, .bipush 125, 2), (34, .invokevirtual 47, 3), (37, .invokevirtual 32, 3), (40, .areturn, 1)]
theorem d78_ : ∀ q ∈ l78_, decode prog_7_method_2_code q.1 = .ok (q.2.1, q.2.2) := by decide +kernel
theorem own_oi {k : Nat} (h : k < 2147483648) : (Int32.ofNat k).toInt = k := Int32.toInt_ofNat_small h
theorem own_cl {k : Nat} (h : k < 2147483648) : (Int32.ofNat k).toNatClampNeg = k := by
  simp only [Int32.toNatClampNeg, own_oi h]; rfl
theorem own_add (a b : Nat) : Int32.ofNat a + Int32.ofNat b = Int32.ofNat (a + b) := (Int32.ofNat_add a b).symm
theorem own_succ (k : Nat) : Int32.ofNat k + (1 : Int32) = Int32.ofNat (k + 1) := own_add k 1
theorem own_lt {a b : Nat} (hb : b < 2147483648) (h : a < b) : Int32.ofNat a < Int32.ofNat b := by
  rw [Int32.lt_iff_toInt_lt, own_oi hb, own_oi (by omega)]; omega
theorem own_nlt {a b : Nat} (ha : a < 2147483648) (h : b ≤ a) : ¬ Int32.ofNat a < Int32.ofNat b := by
  rw [Int32.lt_iff_toInt_lt, own_oi ha, own_oi (by omega)]; omega
theorem own_nn {a : Nat} (ha : a < 2147483648) : ¬ Int32.ofNat a < 0 := own_nlt (b := 0) ha (Nat.zero_le _)
theorem own_shl {k : Nat} (h : k < 2200) : Int32.ofNat k <<< ((1 : Int32) &&& 31) = Int32.ofNat (2 * k) := by
  have t : ∀ i : Fin 2200, Int32.ofNat i.val <<< ((1 : Int32) &&& 31) = Int32.ofNat (2 * i.val) := by decide +kernel
  exact t ⟨k, h⟩
theorem own_shr {k : Nat} (h : k < 2200) : Int32.ofNat (2 * k) >>> ((1 : Int32) &&& 31) = Int32.ofNat k := by
  have t : ∀ i : Fin 2200, Int32.ofNat (2 * i.val) >>> ((1 : Int32) &&& 31) = Int32.ofNat i.val := by decide +kernel
  exact t ⟨k, h⟩
theorem own_shl0 (z : Int32) : z <<< ((0 : Int32) &&& 31) = z := by
  have s0 : ((0 : Int32) &&& 31) = 0 := by decide
  rw [s0]; apply Int32.toBitVec_inj.mp; show z.toBitVec <<< _ = _; exact BitVec.shiftLeft_zero _
theorem own_shr0 (z : Int32) : z >>> ((0 : Int32) &&& 31) = z := by
  have s0 : ((0 : Int32) &&& 31) = 0 := by decide
  rw [s0]; apply Int32.toBitVec_inj.mp; show z.toBitVec.sshiftRight _ = _; exact BitVec.sshiftRight_zero
def own_lo (c : Int32) : Int32 := nar .byte (c.toInt8.toInt32)
def own_b0 (c : Int32) : Int32 := nar .byte ((c >>> ((0 : Int32) &&& 31)).toInt8.toInt32)
def own_b1 (c : Int32) : Int32 := nar .byte ((c >>> ((8 : Int32) &&& 31)).toInt8.toInt32)
/-- every char in one byte -/
def own_l1 (cs : List Int32) : Bool := cs.all fun c => decide (¬ (255 : Int32) < c)
def own_co (cs : List Int32) : Int32 := if own_l1 cs then 0 else 1
def own_lats (cs : List Int32) : List Value := cs.map fun c => .int (own_lo c)
def own_flat : List Int32 → List Value
  | [] => []
  | c :: r => .int (own_b0 c) :: .int (own_b1 c) :: own_flat r
def own_by (cs : List Int32) : List Value := if own_l1 cs then own_lats cs else own_flat cs
def own_k (cs : List Int32) : Nat := if own_l1 cs then 1 else 2
theorem own_l1_iff {cs : List Int32} : own_l1 cs = true ↔ ∀ c ∈ cs, ¬ (255 : Int32) < c := by simp [own_l1]
theorem own_l1_app (a b : List Int32) : own_l1 (a ++ b) = (own_l1 a && own_l1 b) := by simp [own_l1]
theorem own_flat_len (cs : List Int32) : (own_flat cs).length = 2 * cs.length := by
  induction cs with
  | nil => rfl
  | cons c r ih => simp [own_flat, ih]; omega
theorem own_lats_len (cs : List Int32) : (own_lats cs).length = cs.length := by simp [own_lats]
theorem own_by_len (cs : List Int32) : (own_by cs).length = own_k cs * cs.length := by
  unfold own_by own_k; split
  · rw [own_lats_len]; omega
  · rw [own_flat_len]
theorem own_flat_app (a b : List Int32) : own_flat (a ++ b) = own_flat a ++ own_flat b := by
  induction a with
  | nil => rfl
  | cons c r ih => simp [own_flat, ih]
theorem own_lats_app (a b : List Int32) : own_lats (a ++ b) = own_lats a ++ own_lats b := by simp [own_lats]
theorem own_flat_at {cs : List Int32} {k : Nat} {c : Int32} {d : Value} (h : cs[k]? = some c) : (own_flat cs).getD (2 * k) d = .int (own_b0 c) ∧ (own_flat cs).getD (2 * k + 1) d = .int (own_b1 c) := by
  induction cs generalizing k with
  | nil => simp at h
  | cons a r ih =>
    cases k with
    | zero => simp at h; subst h; exact ⟨rfl, rfl⟩
    | succ k =>
      have := ih (k := k) (by simpa using h)
      have e1 : 2 * (k + 1) = 2 * k + 1 + 1 := by omega
      have e2 : 2 * (k + 1) + 1 = 2 * k + 1 + 1 + 1 := by omega
      rw [e2, e1]
      simpa [own_flat] using this
theorem own_lats_at {cs : List Int32} {k : Nat} {c : Int32} {d : Value} (h : cs[k]? = some c) : (own_lats cs).getD k d = .int (own_lo c) := by
  simp [own_lats, h]
theorem own_take_snoc {cs : List Int32} {k : Nat} {c : Int32} (h : cs[k]? = some c) : cs.take (k + 1) = cs.take k ++ [c] := by
  rw [List.take_add_one, h]; rfl
theorem own_push (vs : List Value) (d v : Value) : (vs ++ [d]).set vs.length v = vs ++ [v] := by
  induction vs with
  | nil => rfl
  | cons a r ih => simp
theorem own_l1_one {c : Int32} (h : ¬ (255 : Int32) < c) : own_l1 [c] = true := own_l1_iff.mpr fun q hq => by cases List.mem_singleton.mp hq; exact h
theorem own_ne {a b : Nat} (ha : a < 2147483648) (hb : b < 2147483648) (h : a ≠ b) : ¬ Int32.ofNat a = Int32.ofNat b := fun q => h (by
  have := congrArg Int32.toInt q
  rw [own_oi ha, own_oi hb] at this
  omega)
theorem own_co_nar (cs : List Int32) : nar .byte (own_co cs) = own_co cs := by unfold own_co; split <;> rfl
theorem own_co_fit (cs : List Int32) : fits .byte (.int (own_co cs)) = true := by unfold own_co; split <;> rfl
theorem own_cf {cs : List Int32} (h1 : 1 ≤ cs.length) (h2 : cs.length < 600) : nar .byte ((((Int32.ofNat cs.length - Int32.ofNat (own_k cs * cs.length)).toUInt32 >>> ((31 : Int32) &&& 31).toUInt32).toInt32).toInt8.toInt32) = own_co cs := by
  have t1 : ∀ i : Fin 600, nar .byte ((((Int32.ofNat i.val - Int32.ofNat (1 * i.val)).toUInt32 >>> ((31 : Int32) &&& 31).toUInt32).toInt32).toInt8.toInt32) = 0 := by decide +kernel
  have t2 : ∀ i : Fin 600, 1 ≤ i.val → nar .byte ((((Int32.ofNat i.val - Int32.ofNat (2 * i.val)).toUInt32 >>> ((31 : Int32) &&& 31).toUInt32).toInt32).toInt8.toInt32) = 1 := by decide +kernel
  unfold own_co own_k
  split
  · exact t1 ⟨cs.length, h2⟩
  · exact t2 ⟨cs.length, h2⟩ h1
theorem own_co_narrow (cs : List Int32) : narrow .byte (.int (own_co cs)) = .int (own_co cs) := by unfold own_co; split <;> rfl
theorem own_decl {s : State} {args : Array Value} {y : MethodName} {bytes : ByteArray} {maxL : Nat} {ret : Option FieldType} (h1 : (Jvm.Cond.instanceMethod y).before args s = true) (h2 : (Jvm.Cond.code y bytes maxL ret).before args s = true) : (Jvm.Cond.declares y).before args s = true := by
  obtain ⟨m, meth, hn, hm, hst, hab⟩ := Cond.instanceMethod_spec h1
  obtain ⟨meth', cM, q1, -, -, -, -, -, -, hsig⟩ := Cond.code_spec hn h2
  cases hm.symm.trans q1
  simp [Jvm.Cond.before, Jvm.Cond.holds, Jvm.Cond.value, hn, hm, hst, hsig]
theorem own_same {s : State} {args : Array Value} {C K name desc n2 d2 : String} (hK : K ≠ "java/lang/invoke/MethodHandle" ∧ K ≠ "java/lang/invoke/VarHandle") (h1 : (Jvm.Cond.declares ⟨K, name, desc⟩).before args s = true) (h2 : (Jvm.Cond.selects C ⟨K, n2, d2⟩ ⟨K, n2, d2⟩).before args s = true) : (Jvm.Cond.sameMethod K K name desc).before args s = true := by
  obtain ⟨m, meth, hn, hm, hst, hsig⟩ := Cond.declares_spec h1
  obtain ⟨c, r, m2, -, -, q3, -, k, hk, hki⟩ := Cond.selects_spec h2
  have e1 := findClass_of_methodNamed hn
  have e2 := findClass_of_methodNamed q3
  have ec : m.cls = m2.cls := Option.some.inj (e1.symm.trans e2)
  have hk' : s.vm.classes[m.cls]? = some k := by rw [ec]; exact hk
  have hf : s.methodFound? K name desc = some m := State.methodFound?_of_named hn hK
  have e1' : s.vm.findClass K = some m.cls := e1
  simp [Jvm.Cond.before, Jvm.Cond.holds, Jvm.Cond.value, hn, hf, e1', hk', hki]

theorem own_255 (i : Nat) : (255#32).getLsbD i = decide (i < 8) := by
  rw [BitVec.getLsbD_ofNat]
  have : (255 : Nat) = 2 ^ 8 - 1 := by decide
  rw [this, Nat.testBit_two_pow_sub_one]
  by_cases h : i < 8
  · simp [h]; omega
  · simp [h]
theorem own_hi0 {x : BitVec 32} (h : x.toNat < 65536) (i : Nat) (hi : 16 ≤ i) : x.getLsbD i = false := by
  rw [← BitVec.testBit_toNat]
  exact Nat.testBit_lt_two_pow (Nat.lt_of_lt_of_le h (by have := Nat.pow_le_pow_right (n := 2) (by decide) hi; simpa using this))
theorem own_se {x : BitVec 32} {i : Nat} (h : i < 8) : (BitVec.signExtend 32 (BitVec.signExtend 8 x)).getLsbD i = x.getLsbD i := by
  rw [BitVec.getLsbD_signExtend, BitVec.getLsbD_signExtend]
  have h1 : i < 32 := by omega
  simp only [h, h1, decide_true, Bool.true_and, if_true]
theorem own_bv {x : BitVec 32} (h : x.toNat < 65536) : ((BitVec.signExtend 32 (BitVec.signExtend 8 x)) &&& 255#32) ||| (((BitVec.signExtend 32 (BitVec.signExtend 8 (x.sshiftRight 8))) &&& 255#32) <<< 8) = x := by
  apply BitVec.eq_of_getLsbD_eq
  intro i hi
  rw [BitVec.getLsbD_or, BitVec.getLsbD_and, own_255, BitVec.getLsbD_shiftLeft, BitVec.getLsbD_and, own_255]
  by_cases h8 : i < 8
  · rw [own_se h8]; simp [h8]
  · by_cases h16 : i < 16
    · have h7 : i - 8 < 8 := by omega
      rw [own_se h7, BitVec.getLsbD_sshiftRight]
      have e : 8 + (i - 8) = i := by omega
      simp only [h8, h7, hi, e, decide_true, decide_false, Bool.and_false, Bool.false_or, Bool.true_and, Bool.not_false, Bool.and_true, if_true]
      simp; omega
    · have h7 : ¬ i - 8 < 8 := by omega
      rw [own_hi0 h i (by omega)]
      simp [h8, h7]
theorem own_utf {c : Int32} (h1 : ¬ c < 0) (h2 : ¬ (65535 : Int32) < c) : (((nar .byte ((c >>> ((0 : Int32) &&& 31)).toInt8.toInt32) &&& (255 : Int32)) <<< ((0 : Int32) &&& 31)) ||| ((nar .byte ((c >>> ((8 : Int32) &&& 31)).toInt8.toInt32) &&& (255 : Int32)) <<< ((8 : Int32) &&& 31))) = c := by
  have hn : c.toBitVec.toNat < 65536 := by
    rw [Int32.lt_iff_toInt_lt] at h1 h2
    have e1 : (0 : Int32).toInt = 0 := by decide
    have e2 : (65535 : Int32).toInt = 65535 := by decide
    have h : c.toInt = c.toBitVec.toInt := rfl
    rw [e1] at h1; rw [e2] at h2
    rw [h, BitVec.toInt_eq_toNat_cond] at h1 h2
    have h5 := c.toBitVec.isLt
    split at h1 <;> split at h2 <;> omega
  apply Int32.toBitVec_inj.mp
  have e := own_bv hn
  have s0 : ((0 : Int32) &&& 31) = 0 := by decide
  have s8 : ((8 : Int32) &&& 31) = 8 := by decide
  rw [s0, s8]
  have z0 : ∀ d : Int32, d >>> (0 : Int32) = d := fun d => by apply Int32.toBitVec_inj.mp; show d.toBitVec.sshiftRight _ = _; exact BitVec.sshiftRight_zero
  have z1 : ∀ d : Int32, d <<< (0 : Int32) = d := fun d => by apply Int32.toBitVec_inj.mp; show d.toBitVec <<< _ = _; exact BitVec.shiftLeft_zero _
  rw [z0, z1]
  have nb : ∀ d : Int32, nar .byte (d.toInt8.toInt32) = d.toInt8.toInt32 := fun d => by show (d.toInt8.toInt32).toInt8.toInt32 = _; rw [Int8.toInt8_toInt32]
  rw [nb, nb]
  exact e
theorem own_i2c {c : Int32} (h : nar .char c = c) : nar .char (c.toUInt32.toUInt16.toUInt32.toInt32) = c := by
  have e : c.toUInt32.toUInt16.toUInt32.toInt32 = c := h
  rw [e, h]
theorem own_lat {c : Int32} (h1 : ¬ c < 0) (h2 : ¬ (255 : Int32) < c) : nar .char ((((nar .byte (c.toInt8.toInt32)) &&& (255 : Int32))).toUInt32.toUInt16.toUInt32.toInt32) = c := by
  have t : ∀ k : Fin 256, nar .char ((((nar .byte ((Int32.ofNat k.val).toInt8.toInt32)) &&& (255 : Int32))).toUInt32.toUInt16.toUInt32.toInt32) = Int32.ofNat k.val := by decide +kernel
  rw [Int32.lt_iff_toInt_lt] at h1 h2
  have e1 : (0 : Int32).toInt = 0 := by decide
  have e2 : (255 : Int32).toInt = 255 := by decide
  have e : c = Int32.ofNat c.toInt.toNat := by
    apply Int32.toInt_inj.mp
    rw [Int32.toInt_ofNat_small (by omega)]
    omega
  rw [e]
  exact t ⟨c.toInt.toNat, by omega⟩
def own_ch (c : Int32) : Prop := ¬ c < 0 ∧ ¬ (65535 : Int32) < c ∧ nar .char c = c
theorem own_utfc {c : Int32} (h : own_ch c) : nar .char ((((nar .byte ((c >>> ((0 : Int32) &&& 31)).toInt8.toInt32) &&& (255 : Int32)) <<< ((0 : Int32) &&& 31)) ||| ((nar .byte ((c >>> ((8 : Int32) &&& 31)).toInt8.toInt32) &&& (255 : Int32)) <<< ((8 : Int32) &&& 31))).toUInt32.toUInt16.toUInt32.toInt32) = c := by
  rw [own_utf h.1 h.2.1]; exact own_i2c h.2.2
theorem own_c16 (x : Int32) : own_ch (nar .char ((x &&& (65535 : Int32)).toUInt32.toUInt16.toUInt32.toInt32)) := by
  have h := c_i2c ((x &&& (65535 : Int32)).toUInt32.toUInt16.toUInt32.toInt32)
  have e : nar .char ((x &&& (65535 : Int32)).toUInt32.toUInt16.toUInt32.toInt32) = ((x &&& (65535 : Int32)).toUInt32.toUInt16.toUInt32.toInt32).toUInt32.toUInt16.toUInt32.toInt32 := rfl
  rw [e]
  refine ⟨?_, ?_, ?_⟩
  · rw [Int32.lt_iff_toInt_lt]; have e1 : (0 : Int32).toInt = 0 := by decide
    omega
  · rw [Int32.lt_iff_toInt_lt]; have e1 : (65535 : Int32).toInt = 65535 := by decide
    omega
  · simp only [nar, UInt32.toUInt32_toInt32, UInt16.toUInt16_toUInt32]
theorem own_c16n (x : Int32) : nar .char ((x &&& (65535 : Int32)).toUInt32.toUInt16.toUInt32.toInt32) = (x &&& (65535 : Int32)).toUInt32.toUInt16.toUInt32.toInt32 := by
  simp only [nar, UInt32.toUInt32_toInt32, UInt16.toUInt16_toUInt32]

theorem own_sub {a b : Nat} (h : b ≤ a) : Int32.ofNat a - Int32.ofNat b = Int32.ofNat (a - b) := by
  have e := own_add (a - b) b
  rw [Nat.sub_add_cancel h] at e
  rw [← e, Int32.add_sub_cancel]
theorem own_le0 {a b : Nat} (hb : b < 2147483648) (h : a ≤ b) : ¬ (0 : Int32) < Int32.ofNat a - Int32.ofNat b := by
  have e0 : (0 : Int32).toInt = 0 := rfl
  rw [Int32.lt_iff_toInt_lt, Int32.toInt_sub, own_oi (by omega), own_oi hb, e0]
  simp only [Int.bmod]
  split <;> omega
theorem own_gt0 {a b : Nat} (ha : a < 2147483648) (h : b < a) : (0 : Int32) < Int32.ofNat a - Int32.ofNat b := by
  rw [own_sub (Nat.le_of_lt h)]; exact own_lt (a := 0) (by omega) (by omega)
theorem own_or {a b : Int32} (ha : ¬ a < 0) (hb : ¬ b < 0) : ¬ (a ||| b) < 0 := by
  have e0 : (0 : Int32).toInt = 0 := rfl
  rw [Int32.lt_iff_toInt_lt, e0] at ha hb ⊢
  have f : ∀ z : Int32, ¬ z.toInt < 0 ↔ z.toBitVec.msb = false := fun z => by
    rw [BitVec.msb_eq_toInt]; show ¬ z.toBitVec.toInt < 0 ↔ _; simp
  refine (f _).mpr ?_
  show (a.toBitVec ||| b.toBitVec).msb = false
  rw [BitVec.msb_or, (f a).mp ha, (f b).mp hb]; rfl
theorem own_ofn {y : Int32} (h : ¬ y < 0) : y = Int32.ofNat y.toInt.toNat := by
  have e0 : (0 : Int32).toInt = 0 := rfl
  rw [Int32.lt_iff_toInt_lt, e0] at h
  apply Int32.toInt_inj.mp
  have := y.toInt_lt
  rw [Int32.toInt_ofNat_small (by omega)]; omega
theorem own_hi10 : ∀ i : Fin 1024, (55296 : Int32) ||| Int32.ofNat i.val = Int32.ofNat (55296 + i.val) := by decide +kernel
theorem own_lo10 : ∀ i : Fin 1024, (56320 : Int32) ||| Int32.ofNat i.val = Int32.ofNat (56320 + i.val) := by decide +kernel
def own_cap (cap mm : Nat) : Nat := if mm ≤ cap then cap else cap + max (mm - cap) (cap + 2)
theorem own_cap_le {cap mm : Nat} (h : mm ≤ cap) : own_cap cap mm = cap := if_pos h
theorem own_cap_gt {cap mm : Nat} (h : ¬ mm ≤ cap) : own_cap cap mm = cap + max (mm - cap) (cap + 2) := if_neg h
theorem own_cap_b {cap mm : Nat} (h1 : cap ≤ 517) (h2 : mm ≤ 518) : own_cap cap mm ≤ 1036 ∧ mm ≤ own_cap cap mm ∧ cap ≤ own_cap cap mm := by
  unfold own_cap; split <;> omega
theorem own_range_getD {α} (vs : List α) (d : α) (n : Nat) (i : Nat) (h : vs.length ≤ n) : ((List.range n).map fun i => vs.getD (0 + i) d).getD i d = vs.getD i d := by
  simp only [List.getD_eq_getElem?_getD, List.getElem?_map, Nat.zero_add]
  by_cases q : i < n
  · rw [List.getElem?_range q]; rfl
  · rw [List.getElem?_eq_none (by omega : vs.length ≤ i), List.getElem?_eq_none (by simp; omega)]; rfl
theorem own_range_eq {α} (vs : List α) (d : α) (n : Nat) (h : vs.length = n) : ((List.range n).map fun i => vs.getD (0 + i) d) = vs := by
  apply List.ext_getElem?
  intro i
  rw [List.getElem?_map]
  by_cases q : i < n
  · rw [List.getElem?_range q]
    simp [List.getD_eq_getElem?_getD, List.getElem?_eq_getElem (by omega : i < vs.length)]
  · rw [List.getElem?_eq_none (by omega : vs.length ≤ i), List.getElem?_eq_none (by simp; omega)]; rfl
theorem own_pads {α} (vd : List α) (d : α) (us : List α) (n : Nat) : (vd ++ List.replicate n d).take vd.length ++ us ++ (vd ++ List.replicate n d).drop (vd.length + n) = vd ++ us := by
  rw [List.take_left' rfl, List.drop_eq_nil_of_le (by simp), List.append_nil]

theorem own_c0 {cs : List Int32} (h : own_l1 cs = true) : own_co cs = 0 := if_pos h
theorem own_c1 {cs : List Int32} (h : ¬ own_l1 cs = true) : own_co cs = 1 := if_neg h
theorem own_k0 {cs : List Int32} (h : own_l1 cs = true) : own_k cs = 1 := if_pos h
theorem own_k1 {cs : List Int32} (h : ¬ own_l1 cs = true) : own_k cs = 2 := if_neg h
theorem own_by0 {cs : List Int32} (h : own_l1 cs = true) : own_by cs = own_lats cs := if_pos h
theorem own_by1 {cs : List Int32} (h : ¬ own_l1 cs = true) : own_by cs = own_flat cs := if_neg h
theorem own_lenk {cs : List Int32} {n : Nat} (h : n < 2200) : Int32.ofNat (own_k cs * n) >>> (own_co cs &&& 31) = Int32.ofNat n := by
  by_cases q : own_l1 cs = true
  · rw [own_c0 q, own_k0 q, Nat.one_mul]; exact own_shr0 _
  · rw [own_c1 q, own_k1 q]; exact own_shr h
theorem own_by_at {cs : List Int32} {k : Nat} {d : Value} (h : k < own_k cs * cs.length) : ∃ q, (own_by cs).getD k d = .int q := by
  by_cases q : own_l1 cs = true
  · rw [own_k0 q, Nat.one_mul] at h
    rw [own_by0 q]; exact ⟨_, own_lats_at (List.getElem?_eq_getElem h)⟩
  · rw [own_k1 q] at h
    have hk : k / 2 < cs.length := by omega
    have e := own_flat_at (d := d) (List.getElem?_eq_getElem hk)
    rw [own_by1 q]
    rcases (by omega : k = 2 * (k / 2) ∨ k = 2 * (k / 2) + 1) with r | r
    · exact ⟨_, by rw [r]; exact e.1⟩
    · exact ⟨_, by rw [r]; exact e.2⟩
theorem own_nl {cs ds : List Int32} (h : ¬ own_l1 ds = true) : ¬ own_l1 (cs ++ ds) = true := by
  rw [own_l1_app]; simp only [Bool.and_eq_true]; exact fun q => h q.2
theorem own_nr {cs ds : List Int32} (h : ¬ own_l1 cs = true) : ¬ own_l1 (cs ++ ds) = true := by
  rw [own_l1_app]; simp only [Bool.and_eq_true]; exact fun q => h q.1
theorem own_la {cs ds : List Int32} (h1 : own_l1 cs = true) (h2 : own_l1 ds = true) : own_l1 (cs ++ ds) = true := by rw [own_l1_app, h1, h2]; rfl
theorem own_lo255 {c : Int32} (h1 : ¬ c < 0) (h2 : ¬ (255 : Int32) < c) : (own_lo c &&& (255 : Int32)) = c := by
  have t : ∀ k : Fin 256, (own_lo (Int32.ofNat k.val) &&& (255 : Int32)) = Int32.ofNat k.val := by decide +kernel
  have e := own_ofn h1
  rw [Int32.lt_iff_toInt_lt] at h1 h2
  have e1 : (0 : Int32).toInt = 0 := by decide
  have e2 : (255 : Int32).toInt = 255 := by decide
  rw [e]; exact t ⟨c.toInt.toNat, by omega⟩
theorem own_ne8 {c : Int32} (h1 : ¬ c < 0) (h2 : ¬ (255 : Int32) < c) : (¬ c = 123 → ¬ own_lo c = (123 : Int32).toInt8.toInt32) ∧ (¬ c = 125 → ¬ own_lo c = (125 : Int32).toInt8.toInt32) := by
  have t : ∀ k : Fin 256, (¬ Int32.ofNat k.val = 123 → ¬ own_lo (Int32.ofNat k.val) = (123 : Int32).toInt8.toInt32) ∧ (¬ Int32.ofNat k.val = 125 → ¬ own_lo (Int32.ofNat k.val) = (125 : Int32).toInt8.toInt32) := by decide +kernel
  have e := own_ofn h1
  rw [Int32.lt_iff_toInt_lt] at h1 h2
  have e1 : (0 : Int32).toInt = 0 := by decide
  have e2 : (255 : Int32).toInt = 255 := by decide
  rw [e]; exact t ⟨c.toInt.toNat, by omega⟩
theorem own_nc1 {cap mm : Nat} (h : ¬ mm ≤ cap) : 2 * cap + max (2 * mm - 2 * cap) (2 * cap + 4) = 2 * own_cap cap mm := by
  rw [own_cap_gt h]; omega
def own_ns (c : Int32) : Prop := ¬ (¬ c < (55296 : Int32) ∧ ¬ (57343 : Int32) < c)
def own_hs (c : Int32) : Prop := ¬ c < (55296 : Int32) ∧ c < (56320 : Int32)
def own_ls (c : Int32) : Prop := ¬ c < (56320 : Int32) ∧ c < (57344 : Int32)
def own_nch (c : Int32) : Prop := own_ch c ∧ own_ns c
def own_pch (c : Int32) : Prop := own_ch c ∧ own_ns c ∧ ¬ c = 123 ∧ ¬ c = 125
theorem own_m16 (x : Int32) : 0 ≤ (x &&& (65535 : Int32)).toInt ∧ (x &&& (65535 : Int32)).toInt ≤ 65535 := by
  have h := c_mask x (65535 : Int32) 16 (by decide) (by decide)
  have e3 : ((2 ^ 16 : Nat) : Int) = 65536 := by decide
  rw [e3] at h; omega
theorem own_m8 (x : Int32) : 0 ≤ (x &&& (255 : Int32)).toInt ∧ (x &&& (255 : Int32)).toInt ≤ 255 := by
  have h := c_mask x (255 : Int32) 8 (by decide) (by decide)
  have e3 : ((2 ^ 8 : Nat) : Int) = 256 := by decide
  rw [e3] at h; omega
theorem own_m10 (x : Int32) : 0 ≤ (x &&& (1023 : Int32)).toInt ∧ (x &&& (1023 : Int32)).toInt ≤ 1023 := by
  have h := c_mask x (1023 : Int32) 10 (by decide) (by decide)
  have e3 : ((2 ^ 10 : Nat) : Int) = 1024 := by decide
  rw [e3] at h; omega
theorem own_ch_of {v : Int32} (h1 : ¬ v < 0) (h2 : ¬ (65535 : Int32) < v) : own_ch v := by
  refine ⟨h1, h2, ?_⟩
  have q := c_i2c v
  rw [Int32.lt_iff_toInt_lt] at h1 h2
  have e1 : (0 : Int32).toInt = 0 := by decide
  have e2 : (65535 : Int32).toInt = 65535 := by decide
  show v.toUInt32.toUInt16.toUInt32.toInt32 = v
  apply Int32.toInt_inj.mp
  omega
theorem own_sur (b : Nat) (hb : b = 55296 ∨ b = 56320) (d : Int32) : ∃ k : Nat, k < 1024 ∧ (Int32.ofNat b ||| (d &&& (1023 : Int32))).toUInt32.toUInt16.toUInt32.toInt32 = Int32.ofNat (b + k) ∧ own_ch (Int32.ofNat (b + k)) := by
  have hm := own_m10 d
  have e := own_ofn (y := d &&& (1023 : Int32)) (by rw [Int32.lt_iff_toInt_lt]; have e1 : (0 : Int32).toInt = 0 := by decide
                                                    omega)
  have hc : own_ch (Int32.ofNat (b + (d &&& (1023 : Int32)).toInt.toNat)) := own_ch_of (own_nn (by omega)) (own_nlt (a := 65535) (by omega) (by omega))
  refine ⟨(d &&& (1023 : Int32)).toInt.toNat, by omega, ?_, hc⟩
  have t : Int32.ofNat b ||| (d &&& (1023 : Int32)) = Int32.ofNat (b + (d &&& (1023 : Int32)).toInt.toNat) := by
    rw [e]
    rcases hb with rfl | rfl
    · have q := own_hi10 ⟨(d &&& (1023 : Int32)).toInt.toNat, by omega⟩
      rw [← e] at q ⊢; exact q
    · have q := own_lo10 ⟨(d &&& (1023 : Int32)).toInt.toNat, by omega⟩
      rw [← e] at q ⊢; exact q
  rw [t]; exact hc.2.2
theorem own_hip (d : Int32) : own_ch ((55296 : Int32) ||| (d &&& (1023 : Int32))).toUInt32.toUInt16.toUInt32.toInt32 ∧ own_hs ((55296 : Int32) ||| (d &&& (1023 : Int32))).toUInt32.toUInt16.toUInt32.toInt32 := by
  obtain ⟨k, hk, e, hc⟩ := own_sur 55296 (Or.inl rfl) d
  have e' : ((55296 : Int32) ||| (d &&& (1023 : Int32))).toUInt32.toUInt16.toUInt32.toInt32 = Int32.ofNat (55296 + k) := e
  rw [e']
  exact ⟨hc, own_nlt (b := 55296) (by omega) (by omega), own_lt (b := 56320) (by omega) (by omega)⟩
theorem own_lop (d : Int32) : own_ch ((56320 : Int32) ||| (d &&& (1023 : Int32))).toUInt32.toUInt16.toUInt32.toInt32 ∧ own_ls ((56320 : Int32) ||| (d &&& (1023 : Int32))).toUInt32.toUInt16.toUInt32.toInt32 := by
  obtain ⟨k, hk, e, hc⟩ := own_sur 56320 (Or.inr rfl) d
  have e' : ((56320 : Int32) ||| (d &&& (1023 : Int32))).toUInt32.toUInt16.toUInt32.toInt32 = Int32.ofNat (56320 + k) := e
  rw [e']
  exact ⟨hc, own_nlt (b := 56320) (by omega) (by omega), own_lt (b := 57344) (by omega) (by omega)⟩
theorem own_far (xs : List Value) (d v : Value) (n : Nat) : (xs ++ List.replicate (n + 1) d).set (xs.length + n) v = xs ++ List.replicate n d ++ [v] := by
  rw [List.replicate_succ', ← List.append_assoc]
  have e := own_push (xs ++ List.replicate n d) d v
  rw [List.length_append, List.length_replicate] at e
  exact e
/-- the name of 513 chars -/
def own_n3 (a b c : Int32) : List Int32 := [a, b] ++ List.replicate 510 0 ++ [c]
theorem own_n3_len (a b c : Int32) : (own_n3 a b c).length = 513 := by simp only [own_n3, List.length_append, List.length_replicate, List.length_cons, List.length_nil]
theorem own_n3_ns {a b c : Int32} (hc : own_ns c) (i : Nat) (q : Int32) (hi : 2 ≤ i) (h : (own_n3 a b c)[i]? = some q) : own_ns q := by
  obtain ⟨j, rfl⟩ : ∃ j, i = j + 2 := ⟨i - 2, by omega⟩
  have h' : (List.replicate 510 (0 : Int32) ++ [c])[j]? = some q := h
  have hm := List.mem_of_getElem? h'
  rcases List.mem_append.mp hm with m | m
  · rw [(List.mem_replicate.mp m).2]; unfold own_ns; decide
  · rw [List.mem_singleton.mp m]; exact hc
theorem own_n3_ch {a b c : Int32} (ha : own_ch a) (hb : own_ch b) (hc : own_ch c) : ∀ q ∈ own_n3 a b c, own_ch q := by
  intro q hq
  rcases List.mem_append.mp hq with m | m
  · rcases List.mem_append.mp m with m | m
    · rcases List.mem_cons.mp m with r | m
      · rw [r]; exact ha
      · rw [List.mem_singleton.mp m]; exact hb
    · rw [(List.mem_replicate.mp m).2]; unfold own_ch; decide +kernel
  · rw [List.mem_singleton.mp m]; exact hc
theorem own_n3_map (a b c : Int32) : (own_n3 a b c).map Value.int = [.int a, .int b] ++ List.replicate 510 (.int 0) ++ [.int c] := by
  simp only [own_n3, List.map_append, List.map_replicate, List.map_cons, List.map_nil]
theorem own_pair {P : Int32 → Prop} {a b : Int32} (ha : P a) (hb : P b) : ∀ q ∈ [a, b], P q := by
  intro q hq
  rcases List.mem_cons.mp hq with r | m
  · rw [r]; exact ha
  · rw [List.mem_singleton.mp m]; exact hb
theorem own_allcons {P : Int32 → Prop} {a : Int32} {r : List Int32} (ha : P a) (hr : ∀ q ∈ r, P q) : ∀ q ∈ a :: r, P q := fun q hq => (List.mem_cons.mp hq).elim (fun e => e ▸ ha) (hr q)
theorem own_allapp {P : Int32 → Prop} {a r : List Int32} (ha : ∀ q ∈ a, P q) (hr : ∀ q ∈ r, P q) : ∀ q ∈ a ++ r, P q := fun q hq => (List.mem_append.mp hq).elim (ha q) (hr q)
theorem own_allnil {P : Int32 → Prop} : ∀ q ∈ ([] : List Int32), P q := fun q hq => nomatch hq
theorem own_wf58 : own_ch 58 := by unfold own_ch; decide +kernel
theorem own_wf123 : own_ch 123 := by unfold own_ch; decide +kernel
theorem own_wf125 : own_ch 125 := by unfold own_ch; decide +kernel
theorem own_z0 : (0 : Int32).toNatClampNeg = 0 := by decide
theorem own_copy0 {α} (d : α) (us : List α) (n : Nat) : (([] : List α) ++ List.replicate n d).take 0 ++ us ++ (([] : List α) ++ List.replicate n d).drop (0 + n) = us := own_pads ([] : List α) d us n
theorem own_kb {cs : List Int32} (h : cs.length ≤ 520) : own_k cs * cs.length ≤ 1040 := by unfold own_k; split <;> omega
theorem own_kb2 (cs : List Int32) {n : Nat} (h : n ≤ 517) : own_k cs * n ≤ 1034 := by unfold own_k; split <;> omega
theorem own_lit1 : own_l1 [58, 123] = true := by decide +kernel
theorem own_litb : own_by [58, 123] = [Value.int 58, Value.int 123] := by
  rw [own_by0 own_lit1]
  show [Value.int (own_lo 58), Value.int (own_lo 123)] = _
  rw [show own_lo 58 = 58 from by decide +kernel, show own_lo 123 = 123 from by decide +kernel]
theorem own_kne (cs : List Int32) : (2 : Int32) ≠ Int32.ofNat (own_k cs * 16) := by unfold own_k; split <;> decide
theorem own_three {P : Int32 → Prop} {a b c : Int32} (ha : P a) (hb : P b) (hc : P c) : ∀ q ∈ [a, b, c], P q := own_allcons ha (own_pair hb hc)
theorem own_at3 {P : Int32 → Prop} {cs : List Int32} (h : ∀ q ∈ cs, P q) (k : Nat) (i : Nat) (q : Int32) (_ : k ≤ i) (e : cs[i]? = some q) : P q := h q (List.mem_of_getElem? e)
theorem own_pair3 {a b c : Int32} (hc : own_ns c) (i : Nat) (q : Int32) (hi : 2 ≤ i) (e : [a, b, c][i]? = some q) : own_ns q := by
  obtain ⟨j, rfl⟩ : ∃ j, i = j + 2 := ⟨i - 2, by omega⟩
  have h' : [c][j]? = some q := e
  rw [List.mem_singleton.mp (List.mem_of_getElem? h')]; exact hc
/-- a brace -/
def own_br (sc : Int32) : Prop := ¬ sc < 0 ∧ ¬ (255 : Int32) < sc ∧ sc < (65536 : Int32) ∧ ∀ c : Int32, ¬ c < 0 → ¬ (255 : Int32) < c → ¬ c = sc → ¬ own_lo c = sc.toInt8.toInt32
theorem own_br123 : own_br 123 := ⟨by decide, by decide, by decide, fun c h1 h2 h3 => (own_ne8 h1 h2).1 h3⟩
theorem own_br125 : own_br 125 := ⟨by decide, by decide, by decide, fun c h1 h2 h3 => (own_ne8 h1 h2).2 h3⟩
theorem own_shlk {cs : List Int32} {n : Nat} (h : n < 2200) : Int32.ofNat n <<< (own_co cs &&& 31) = Int32.ofNat (own_k cs * n) := by
  by_cases q : own_l1 cs = true
  · rw [own_c0 q, own_k0 q, Nat.one_mul]; exact own_shl0 _
  · rw [own_c1 q, own_k1 q]; exact own_shl h
theorem own_two {cs : List Int32} : (2 : Int32) <<< (own_co cs &&& 31) = Int32.ofNat (own_k cs * 2) := by
  by_cases q : own_l1 cs = true
  · rw [own_c0 q, own_k0 q]; decide
  · rw [own_c1 q, own_k1 q]; decide
theorem own_nck {cs : List Int32} {cap mm : Nat} (h : ¬ mm ≤ cap) : own_k cs * cap + max (own_k cs * mm - own_k cs * cap) (own_k cs * cap + own_k cs * 2) = own_k cs * own_cap cap mm := by
  rw [own_cap_gt h]
  by_cases q : own_l1 cs = true
  · rw [own_k0 q]; omega
  · rw [own_k1 q]; omega
theorem own_kle (cs : List Int32) (n : Nat) : own_k cs * n ≤ 2 * n ∧ n ≤ own_k cs * n := by unfold own_k; split <;> omega
theorem own_klt (cs : List Int32) {a b : Nat} (h : a < b) : own_k cs * a < own_k cs * b := by unfold own_k; split <;> omega
theorem own_kle2 (cs : List Int32) {a b : Nat} (h : a ≤ b) : own_k cs * a ≤ own_k cs * b := by unfold own_k; split <;> omega
/-- what checkText lets pass: no surrogates, or one pair at the head -/
def own_tx (cs : List Int32) (mx : Nat) : Prop := (1 ≤ cs.length ∧ cs.length ≤ mx ∧ ∀ i q, 0 ≤ i → cs[i]? = some q → own_ns q) ∨ (2 ≤ cs.length ∧ cs.length ≤ mx + 1 ∧ (∀ i q, 2 ≤ i → cs[i]? = some q → own_ns q) ∧ ∃ q0 q1, cs[0]? = some q0 ∧ cs[1]? = some q1 ∧ own_hs q0 ∧ own_ls q1)
theorem own_tx0 {cs : List Int32} {mx : Nat} (h1 : 1 ≤ cs.length) (h2 : cs.length ≤ mx) (h3 : ∀ q ∈ cs, own_ns q) : own_tx cs mx := Or.inl ⟨h1, h2, own_at3 h3 0⟩
theorem own_tx1 {cs : List Int32} {mx : Nat} {q0 q1 : Int32} (h1 : 2 ≤ cs.length) (h2 : cs.length ≤ mx + 1) (h3 : ∀ i q, 2 ≤ i → cs[i]? = some q → own_ns q) (h4 : cs[0]? = some q0) (h5 : cs[1]? = some q1) (h6 : own_hs q0) (h7 : own_ls q1) : own_tx cs mx := Or.inr ⟨h1, h2, h3, q0, q1, h4, h5, h6, h7⟩
theorem own_x3_len (a b c d e : Int32) : ([a, b] ++ [58, 123] ++ own_n3 c d e ++ [125]).length = 518 := by
  rw [List.length_append, List.length_append, own_n3_len]; rfl
theorem own_x3_map (a b c d e : Int32) : ([a, b] ++ [58, 123] ++ own_n3 c d e ++ [125]).map Value.int = [.int a, .int b, .int 58, .int 123, .int c, .int d] ++ List.replicate 510 (.int 0) ++ [.int e] ++ [.int 125] := by
  rw [List.map_append, List.map_append, own_n3_map]
  show [Value.int a, .int b, .int 58, .int 123] ++ ([.int c, .int d] ++ List.replicate 510 (.int 0) ++ [.int e]) ++ [.int 125] = _
  rw [List.append_assoc [Value.int c, .int d], ← List.append_assoc, ← List.append_assoc]; rfl

/-- the heap still holds all of Z's, which lies below n0 -/
def own_O (Z : State) (n0 : Nat) (h : Heap) : Prop := Z.heap.size ≤ n0 ∧ Ext Z.heap h
theorem own_O.ext {Z : State} {n0 : Nat} {h h' : Heap} (X : own_O Z n0 h) (E : Ext h h') : own_O Z n0 h' := ⟨X.1, Nat.le_trans X.2.1 E.1, fun x c q => E.2 x c (X.2.2 x c q)⟩
theorem own_O.keep {Z : State} {n0 : Nat} {h h' : Heap} {ws : List Addr} (X : own_O Z n0 h) (K : Keep h h' ws) (q : ∀ x ∈ ws, n0 ≤ x) : own_O Z n0 h' := ⟨X.1, Nat.le_trans X.2.1 K.1, fun x c r => K.2.1 x c (X.2.2 x c r) fun z => absurd (Nat.lt_of_lt_of_le (Array.getElem?_eq_some_iff.mp r).1 X.1) (Nat.not_lt.mpr (q x z))⟩
theorem own_O.wr {Z : State} {n0 : Nat} {h h' : Heap} {a : Addr} {sl : Nat} {v : Value} (X : own_O Z n0 h) (W : Wr h h' a sl v) (q : n0 ≤ a) : own_O Z n0 h' := X.keep (Keep.of_wr W) (allS q all0)
theorem own_O.up {Z : State} {n0 k : Nat} {h : Heap} (X : own_O Z n0 h) (q : n0 ≤ k) : own_O Z k h := ⟨Nat.le_trans X.1 q, X.2⟩
theorem own_frm {n0 k : Nat} {L : List Loc} (q : n0 ≤ k) (N : Fr k L) : Fr n0 L := fun y hy => Nat.le_trans q (N y hy)
theorem own_arv_ne {Z : State} {h : Heap} {a b : Addr} {k k' : ClassId} {ty ty' : FieldType} {z z' : Int32} {vs vs' : List Value} {d d' : Value} (A : Arv Z h a k ty z vs d) (B : Arv Z h b k' ty' z' vs' d') (hn : z ≠ z') : a ≠ b := fun e => by
  subst e
  obtain ⟨c1, A1, -, S1, M1, -⟩ := A
  obtain ⟨c2, A2, -, S2, M2, -⟩ := B
  cases A1.1.symm.trans A2.1
  apply hn; apply Int32.toInt_inj.mp
  have e := S1.symm.trans S2
  simp only [Int32.toNatClampNeg] at e
  rw [Int32.lt_iff_toInt_lt] at M1 M2
  have e0 : (0 : Int32).toInt = 0 := rfl
  omega
theorem own_IBwarm {Z s : State} {vm' : Vm} {Ts : List String} (J : IB Z s.vm Ts) (hW : s.WarmedH vm') : IB Z vm' Ts := by
  obtain ⟨more, e, q⟩ := J
  exact ⟨more, hW.interned_eq.trans e, q⟩
/-- a String of the chars cs -/
def own_T (Z : State) (h : Heap) (x t : Addr) (kb : ClassId) (cs : List Int32) : Prop := E1_ Z h x ∧ F6_ Z h x (.ref t) ∧ F5_ Z h x (.int (own_co cs)) ∧ Yb Z h t kb (Int32.ofNat (own_k cs * cs.length)) (own_by cs)
/-- a StringBuilder: its array (of ln bytes) holds bs, its count is n -/
def own_B (Z : State) (h : Heap) (b t : Addr) (kb : ClassId) (ln : Nat) (co : Int32) (bs : List Value) (n : Nat) : Prop := E2_ Z h b ∧ F4_ Z h b (.ref t) ∧ F1_ Z h b (.int co) ∧ F2_ Z h b (.int (Int32.ofNat n)) ∧ F3_ Z h b (.int (0 : Int32)) ∧ Yb Z h t kb (Int32.ofNat ln) bs
def own_I (Z : State) (vm : Vm) : Prop := IB Z vm []
def own_I1 (Z : State) (vm : Vm) : Prop := IB Z vm ["key prefix"]

theorem own_w0 {a W : Nat} (h : a = W) : 2 * 0 + a ≤ W := Nat.le_of_eq ((Nat.zero_add _).trans h)
theorem own_cS {p : Program} {l : Launch} {e : Env} {R : Room} {s : State} {m : MethodId} {args : Array Value} {below : List Frame} {meth : Method} {c : Code} {T : State} {locs : List Loc} {cells slots : Nat} {Z : State} {a0 : Array Value} {h : Heap} (X : Stand p l e R s m args below meth c T locs cells slots) (hx : p.tables.exec = Jvm.exec) (hZ : Z.Warmed39 s.vm) {own : String} {index : Nat} {y : MethodName} {bytes : ByteArray} {maxL : Nat} {ret : Option FieldType} (hown : s.vm.findClass own = some m.cls) (w1 : (Jvm.Cond.methodLink own index y).before a0 Z = true) (w2 : (Jvm.Cond.static y).before a0 Z = true) (w3 : (Jvm.Cond.initialized y.cls).before a0 Z = true) (w4 : (Jvm.Cond.code y bytes maxL ret).before a0 Z = true) (hy : y.cls ≠ "java/lang/invoke/MethodHandle" ∧ y.cls ≠ "java/lang/invoke/VarHandle") {rm : Room} {as' : Array Value} {Q : Option Value → Heap → List Loc → Prop} {W : Nat} (hM : Met l Z h y bytes maxL ret rm [] as' Q) (hf : rm.frames + 1 ≤ R.frames) (hl : W + (maxL + 11) + rm.locals ≤ R.locals) (eT : T.heap = h) (hc : cells + rm.cells ≤ R.cells) (hs : slots + rm.slots ≤ R.slots) {E0 : State} {pc : Nat} {Ls : Array Slot} {Sk : List Value} (go : Go p e below E0 T m pc Ls Sk) (hsize : Ls.size = c.maxLocals) {argsL rest : List Value} (hlen : ∀ sig, parseMethodDescriptor y.desc = some sig → argsL.length = sig.parameters.length) (hstack : Sk = argsL.reverse ++ rest) (has : (argsL).toArray = as') (hW : (rest.map fun v => v.category).sum = W) (hdg : decode c.code pc = .ok (.invokestatic index, 3)) :
    ∃ (v : Option Value) (T' : State) (L' : List Loc), Stand p l e R s m args below meth c T' (locs ++ L') (cells + rm.cells) (slots + rm.slots) ∧ Q v T'.heap L' ∧ Go p e below E0 T' m (pc + 3) Ls (v.toList ++ rest) := by
  obtain ⟨v, vm₁, ⟨T', L, k, n⟩, -, X', ⟨Lc, hQ, l1, l2, l3⟩, st⟩ := Jvm.LawKit.callS X hx hown (mvT hZ w1) (mvT hZ w2) (mvT hZ w3) (mvT hZ w4) hy (backOf (W := W) hM hZ w4 w3 hf hl) (g := mkF m pc Ls Sk) rfl hsize hlen hstack (own_w0 hW) hdg (fun _ _ => ⟨has, eT, hc, hs⟩)
  dsimp only [Pt.U, Pt.locs, Pt.cells, Pt.slots] at X' l1 l2 l3 st hQ
  subst l1 l2 l3
  exact ⟨v, T', Lc, X', hQ, fun a b => go a (st a b)⟩
theorem own_cI {p : Program} {l : Launch} {e : Env} {R : Room} {s : State} {m : MethodId} {args : Array Value} {below : List Frame} {meth : Method} {c : Code} {T : State} {locs : List Loc} {cells slots : Nat} {Z : State} {a0 : Array Value} {h : Heap} (X : Stand p l e R s m args below meth c T locs cells slots) (hx : p.tables.exec = Jvm.exec) (hZ : Z.Warmed39 s.vm) {own : String} {index : Nat} {y : MethodName} {bytes : ByteArray} {maxL : Nat} (hown : s.vm.findClass own = some m.cls) (w1 : (Jvm.Cond.methodLink own index y).before a0 Z = true) (w2 : (Jvm.Cond.instanceMethod y).before a0 Z = true) (w3 : (Jvm.Cond.initialized y.cls).before a0 Z = true) (w4 : (Jvm.Cond.code y bytes maxL none).before a0 Z = true) (hn : y.name = "<init>") (hy : y.cls ≠ "java/lang/invoke/MethodHandle" ∧ y.cls ≠ "java/lang/invoke/VarHandle") {rm : Room} {as' : Array Value} {Q : Option Value → Heap → List Loc → Prop} {W : Nat} (hM : Met l Z h y bytes maxL none rm [] as' Q) (hf : rm.frames + 1 ≤ R.frames) (hl : W + (maxL + 11) + rm.locals ≤ R.locals) (eT : T.heap = h) (hc : cells + rm.cells ≤ R.cells) (hs : slots + rm.slots ≤ R.slots) {a : Addr} {E0 : State} {pc : Nat} {Ls : Array Slot} {Sk : List Value} (go : Go p e below E0 T m pc Ls Sk) (hsize : Ls.size = c.maxLocals) {argsL rest : List Value} (hlen : ∀ sig, parseMethodDescriptor y.desc = some sig → argsL.length = sig.parameters.length) (hstack : Sk = argsL.reverse ++ .ref a :: rest) (has : (.ref a :: argsL).toArray = as') (hW : (rest.map fun v => v.category).sum = W) (hdg : decode c.code pc = .ok (.invokespecial index, 3)) :
    ∃ (v : Option Value) (T' : State) (L' : List Loc), Stand p l e R s m args below meth c T' (locs ++ L') (cells + rm.cells) (slots + rm.slots) ∧ Q v T'.heap L' ∧ Go p e below E0 T' m (pc + 3) Ls (v.toList ++ rest) := by
  obtain ⟨v, vm₁, ⟨T', L, k, n⟩, -, X', ⟨Lc, hQ, l1, l2, l3⟩, st⟩ := X.specialBack hx hn hown (mvT hZ w1) (mvT hZ w2) (mvT hZ w4) hy (backOf (W := W) hM hZ w4 w3 hf hl) (g := mkF m pc Ls Sk) rfl hsize (Steps.refl _) hlen hstack (own_w0 hW) hdg (fun _ _ => ⟨has, eT, hc, hs⟩)
  dsimp only [Pt.U, Pt.locs, Pt.cells, Pt.slots] at X' l1 l2 l3 st hQ
  subst l1 l2 l3
  exact ⟨v, T', Lc, X', hQ, fun a b => go a (st.trans b)⟩
theorem own_cW {p : Program} {l : Launch} {e : Env} {R : Room} {s : State} {m : MethodId} {args : Array Value} {below : List Frame} {meth : Method} {c : Code} {T : State} {locs : List Loc} {cells slots : Nat} {Z : State} {a0 : Array Value} {h : Heap} (X : Stand p l e R s m args below meth c T locs cells slots) (hx : p.tables.exec = Jvm.exec) (hZ : Z.Warmed39 s.vm) {own : String} {index : Nat} {y z : MethodName} {bytes : ByteArray} {maxL : Nat} {ret : Option FieldType} (hown : s.vm.findClass own = some m.cls) {C : String} (w1 : (Jvm.Cond.methodLink own index y).before a0 Z = true) (w2 : (Jvm.Cond.declares y).before a0 Z = true) (nf : NotFace s y) (w3 : (Jvm.Cond.selects C y z).before a0 Z = true) (w4 : (Jvm.Cond.instanceMethod z).before a0 Z = true) (w5 : (Jvm.Cond.initialized z.cls).before a0 Z = true) (w6 : (Jvm.Cond.code z bytes maxL ret).before a0 Z = true) (hy : y.cls ≠ "java/lang/invoke/MethodHandle" ∧ y.cls ≠ "java/lang/invoke/VarHandle") {rm : Room} {as' : Array Value} {Q : Option Value → Heap → List Loc → Prop} {W : Nat} (hM : Met l Z h z bytes maxL ret rm [] as' Q) (hf : rm.frames + 1 ≤ R.frames) (hl : W + (maxL + 11) + rm.locals ≤ R.locals) (eT : T.heap = h) (hc : cells + rm.cells ≤ R.cells) (hs : slots + rm.slots ≤ R.slots) {a : Addr} (E : Exa Z h a C) {E0 : State} {pc : Nat} {Ls : Array Slot} {Sk : List Value} (go : Go p e below E0 T m pc Ls Sk) (hsize : Ls.size = c.maxLocals) {argsL rest : List Value} (hlen : ∀ sig, parseMethodDescriptor y.desc = some sig → argsL.length = sig.parameters.length) (hstack : Sk = argsL.reverse ++ .ref a :: rest) (has : (.ref a :: argsL).toArray = as') (hW : (rest.map fun v => v.category).sum = W) (hdg : decode c.code pc = .ok (.invokevirtual index, 3)) :
    ∃ (v : Option Value) (T' : State) (L' : List Loc), Stand p l e R s m args below meth c T' (locs ++ L') (cells + rm.cells) (slots + rm.slots) ∧ Q v T'.heap L' ∧ Go p e below E0 T' m (pc + 3) Ls (v.toList ++ rest) := by
  obtain ⟨cq, kq, qa, qb, qc⟩ := isOf hZ eT E
  obtain ⟨v, vm₁, ⟨T', L, k, n⟩, -, X', ⟨Lc, hQ, l1, l2, l3⟩, st⟩ := X.virtualBack hx (y := y) (z := z) hown (mvT hZ w1) (mvT hZ w2) nf (mvT hZ w3) (mvT hZ w4) hy (backOf (W := W) hM hZ w6 w5 hf hl) qa qc (g := mkF m pc Ls Sk) rfl hsize (Steps.refl _) hlen hstack (own_w0 hW) hdg (fun _ _ => ⟨has, eT, hc, hs⟩)
  dsimp only [Pt.U, Pt.locs, Pt.cells, Pt.slots] at X' l1 l2 l3 st hQ
  subst l1 l2 l3
  exact ⟨v, T', Lc, X', hQ, fun a b => go a (st.trans b)⟩
theorem own_cV {p : Program} {l : Launch} {e : Env} {R : Room} {s : State} {m : MethodId} {args : Array Value} {below : List Frame} {meth : Method} {c : Code} {T : State} {locs : List Loc} {cells slots : Nat} {Z : State} {a0 : Array Value} {h : Heap} (X : Stand p l e R s m args below meth c T locs cells slots) (hx : p.tables.exec = Jvm.exec) (hZ : Z.Warmed39 s.vm) {own : String} {index : Nat} {y : MethodName} {bytes : ByteArray} {maxL : Nat} {ret : Option FieldType} (hown : s.vm.findClass own = some m.cls) {C : String} (w1 : (Jvm.Cond.methodLink own index y).before a0 Z = true) (w2 : (Jvm.Cond.declares y).before a0 Z = true) (w3 : (Jvm.Cond.selects C y y).before a0 Z = true) (w4 : (Jvm.Cond.instanceMethod y).before a0 Z = true) (w5 : (Jvm.Cond.initialized y.cls).before a0 Z = true) (w6 : (Jvm.Cond.code y bytes maxL ret).before a0 Z = true) (hy : y.cls ≠ "java/lang/invoke/MethodHandle" ∧ y.cls ≠ "java/lang/invoke/VarHandle") {rm : Room} {as' : Array Value} {Q : Option Value → Heap → List Loc → Prop} {W : Nat} (hM : Met l Z h y bytes maxL ret rm [] as' Q) (hf : rm.frames + 1 ≤ R.frames) (hl : W + (maxL + 11) + rm.locals ≤ R.locals) (eT : T.heap = h) (hc : cells + rm.cells ≤ R.cells) (hs : slots + rm.slots ≤ R.slots) {a : Addr} (E : Exa Z h a C) {E0 : State} {pc : Nat} {Ls : Array Slot} {Sk : List Value} (go : Go p e below E0 T m pc Ls Sk) (hsize : Ls.size = c.maxLocals) {argsL rest : List Value} (hlen : ∀ sig, parseMethodDescriptor y.desc = some sig → argsL.length = sig.parameters.length) (hstack : Sk = argsL.reverse ++ .ref a :: rest) (has : (.ref a :: argsL).toArray = as') (hW : (rest.map fun v => v.category).sum = W) (hdg : decode c.code pc = .ok (.invokevirtual index, 3)) :
    ∃ (v : Option Value) (T' : State) (L' : List Loc), Stand p l e R s m args below meth c T' (locs ++ L') (cells + rm.cells) (slots + rm.slots) ∧ Q v T'.heap L' ∧ Go p e below E0 T' m (pc + 3) Ls (v.toList ++ rest) :=
  own_cW X hx hZ hown w1 w2 (notFace_of_selects (args := #[]) (mvT hZ w3)) w3 w4 w5 w6 hy hM hf hl eT hc hs E go hsize hlen hstack has hW hdg
theorem own_cU {p : Program} {l : Launch} {e : Env} {R : Room} {s : State} {m : MethodId} {args : Array Value} {below : List Frame} {meth : Method} {c : Code} {T : State} {locs : List Loc} {cells slots : Nat} {Z : State} {a0 : Array Value} {h : Heap} (X : Stand p l e R s m args below meth c T locs cells slots) (hx : p.tables.exec = Jvm.exec) (hZ : Z.Warmed39 s.vm) {own : String} {index : Nat} {y : MethodName} {bytes : ByteArray} {maxL : Nat} {ret : Option FieldType} (hown : s.vm.findClass own = some m.cls) {C : String} (w1 : (Jvm.Cond.methodLink own index y).before a0 Z = true) (w2 : (Jvm.Cond.sameMethod y.cls y.cls y.name y.desc).before a0 Z = true) (w3 : (Jvm.Cond.instanceMethod y).before a0 Z = true) (w4 : (Jvm.Cond.superclass own y.cls).before a0 Z = true) (w5 : (Jvm.Cond.initialized y.cls).before a0 Z = true) (w6 : (Jvm.Cond.code y bytes maxL ret).before a0 Z = true) (hn : y.name ≠ "<init>") {rm : Room} {as' : Array Value} {Q : Option Value → Heap → List Loc → Prop} {W : Nat} (hM : Met l Z h y bytes maxL ret rm [] as' Q) (hf : rm.frames + 1 ≤ R.frames) (hl : W + (maxL + 11) + rm.locals ≤ R.locals) (eT : T.heap = h) (hc : cells + rm.cells ≤ R.cells) (hs : slots + rm.slots ≤ R.slots) {a : Addr} (E : Exa Z h a C) {E0 : State} {pc : Nat} {Ls : Array Slot} {Sk : List Value} (go : Go p e below E0 T m pc Ls Sk) (hsize : Ls.size = c.maxLocals) {argsL rest : List Value} (hlen : ∀ sig, parseMethodDescriptor y.desc = some sig → argsL.length = sig.parameters.length) (hstack : Sk = argsL.reverse ++ .ref a :: rest) (has : (.ref a :: argsL).toArray = as') (hW : (rest.map fun v => v.category).sum = W) (hdg : decode c.code pc = .ok (.invokespecial index, 3)) :
    ∃ (v : Option Value) (T' : State) (L' : List Loc), Stand p l e R s m args below meth c T' (locs ++ L') (cells + rm.cells) (slots + rm.slots) ∧ Q v T'.heap L' ∧ Go p e below E0 T' m (pc + 3) Ls (v.toList ++ rest) := by
  obtain ⟨v, vm₁, ⟨T', L, k, n⟩, -, X', ⟨Lc, hQ, l1, l2, l3⟩, st⟩ := superBack X hx hZ (y := y) hown w1 w2 w3 w4 hn (backOf (W := W) hM hZ w6 w5 hf hl) eT (Ins.self E) (g := mkF m pc Ls Sk) rfl hsize w6 hlen hstack (own_w0 hW) hdg (fun _ _ => ⟨has, eT, hc, hs⟩)
  dsimp only [Pt.U, Pt.locs, Pt.cells, Pt.slots] at X' l1 l2 l3 st hQ
  subst l1 l2 l3
  exact ⟨v, T', Lc, X', hQ, fun a b => go a (st.trans b)⟩
theorem own_nf {s : State} {args : Array Value} {C : String} {y y' : MethodName} (hsel : (Jvm.Cond.selects C y' y').before args s = true) (hc : y.cls = y'.cls) : NotFace s y := fun r0 h0 => by
  obtain ⟨c2, r2, m2, q1, q2, q3, q4, kP, hkP, hkPi⟩ := Cond.selects_spec hsel
  have e1 := findClass_of_methodNamed h0
  have e2 := findClass_of_methodNamed q3
  rw [hc] at e1
  have ec : r0.cls = m2.cls := Option.some.inj (e1.symm.trans e2)
  exact ⟨kP, by rw [ec]; exact hkP, hkPi⟩
theorem own_gF {p : Program} {l : Launch} {e : Env} {R : Room} {s : State} {m : MethodId} {args : Array Value} {below : List Frame} {meth : Method} {c : Code} {T : State} {locs : List Loc} {cells slots : Nat} {Z : State} {a0 : Array Value} {h : Heap} (X : Stand p l e R s m args below meth c T locs cells slots) (hx : p.tables.exec = Jvm.exec) (hZ : Z.Warmed39 s.vm) {own R0 n d : String} {index : Nat} (hown : s.vm.findClass own = some m.cls) (w : (Jvm.Cond.fieldLink own index R0 n d).before a0 Z = true) (eT : T.heap = h) {a : Addr} {v : Value} (F : Fld Z h a R0 n d v) {E0 : State} {pc : Nat} {Ls : Array Slot} {rest : List Value} (go : Go p e below E0 T m pc Ls (.ref a :: rest)) (hd : decode c.code pc = .ok (.getfield index, 3)) : ∃ T', Stand p l e R s m args below meth c T' locs cells slots ∧ T'.heap = h ∧ Go p e below E0 T' m (pc + 3) Ls (v :: rest) := by
  obtain ⟨T', X', e', st⟩ := getF X hx hZ hown (host := "") (Or.inl w) Via.refl eT F (g := mkF m pc Ls (.ref a :: rest)) rfl rfl hd
  exact ⟨T', X', e', fun a b => go a (st a b)⟩
theorem own_sC {p : Program} {l : Launch} {e : Env} {R : Room} {s : State} {m : MethodId} {args : Array Value} {below : List Frame} {meth : Method} {c : Code} {T : State} {locs : List Loc} {cells slots : Nat} {Z : State} {h : Heap} (X : Stand p l e R s m args below meth c T locs cells slots) (hx : p.tables.exec = Jvm.exec) (hZ : Z.Warmed39 s.vm) (eT : T.heap = h) {a : Addr} {k : ClassId} {z : Int32} {vs : List Value} {d : Value} (A : Arv Z h a k .char z vs d) {j x : Int32} (hj : j.toNatClampNeg = vs.length) (q : ¬ j < 0 ∧ j < z) {E0 : State} {pc : Nat} {Ls : Array Slot} {rest : List Value} (go : Go p e below E0 T m pc Ls (.int x :: .int j :: .ref a :: rest)) (hd : decode c.code pc = .ok (.castore, 1)) : ∃ T' h', Stand p l e R s m args below meth c T' (locs ++ [⟨a, j.toNatClampNeg⟩]) cells slots ∧ T'.heap = h' ∧ Wr h h' a j.toNatClampNeg (.int (nar .char x)) ∧ Arv Z h' a k .char z (vs ++ [.int (nar .char x)]) d ∧ Go p e below E0 T' m (pc + 1) Ls rest := by
  have B : Arv Z h a k .char z (vs ++ [d]) d := A.pad (pad_rep vs d 1)
  obtain ⟨cl, Ar, q1, S, M, Hh, G⟩ := id B
  obtain ⟨T', h', X', e', W, st⟩ := stC X hx hZ eT Ar (j := j) (x := x) (inb_of S q) (g := mkF m pc Ls (.int x :: .int j :: .ref a :: rest)) rfl rfl hd
  have N := Arv.set Ar q1 S M Hh G (fits_nar_char _) W vs.length hj (by simp)
  rw [own_push] at N
  exact ⟨T', h', X', e', W, N, fun a b => go a (st a b)⟩

theorem own_backJ {p : Program} {l : Launch} {e : Env} {R : Room} {s : State} {args : Array Value} {below : List Frame} {Z : State} {a0 : Array Value} {h : Heap} {y : MethodName} {bytes : ByteArray} {maxL : Nat} {ret : Option FieldType} {rm : Room} {len W : Nat} {as' : Array Value} {J : Vm → Prop} {Q : Option Value → Heap → List Loc → Vm → Prop}
    (hM : MetFree l y (head1 [Jvm.Cond.code y bytes maxL ret] rm) (fun a U => a = as' ∧ Z.Warmed39 U.vm ∧ U.heap = h ∧ J U.vm) (fun _ _ _ _ _ => True) (fun _ U o U' => ∃ v L, o = .returned v ∧ Q v U'.heap L U'.vm ∧ ReturnedEndW U o U' L rm.cells rm.slots))
    (hZ : Z.Warmed39 s.vm) (wc : (Jvm.Cond.code y bytes maxL ret).before a0 Z = true) (wz : (Jvm.Cond.initialized y.cls).before a0 Z = true) (hf : rm.frames + 1 ≤ R.frames) (hl : W + (maxL + 11) + rm.locals ≤ R.locals) :
    BackS l R p e below s args y len W (fun A a => a = as' ∧ A.U.heap = h ∧ J A.U.vm ∧ A.cells + rm.cells ≤ R.cells ∧ A.slots + rm.slots ≤ R.slots)
      (fun A _ v B => ∃ L, Q v B.U.heap L B.U.vm ∧ B.locs = A.locs ++ L ∧ B.cells = A.cells + rm.cells ∧ B.slots = A.slots + rm.slots) := by
  refine BackS.of_freeW (bytes := bytes) (maxL := maxL) (ret := ret) (E := fun _ _ o t L k n => k = rm.cells ∧ n = rm.slots ∧ ∃ v, o = .returned v ∧ Q v t.heap L t.vm) hM hf hl ?_ ?_ ?_ ?_ ?_
  · intro m meth c A a Y hp
    have hU : Z.Warmed39 A.U.vm := wtrans hZ Y.warmed
    refine ⟨?_, mv hU wc, mv hU wz, hp.2.2.2.1, hp.2.2.2.2⟩
    show (Jvm.Cond.and _ .tt).before a A.U = true
    rw [Cond.before_and, mv hU wc]; rfl
  · exact fun m meth c A a g mk Y hp => ⟨hp.1, wtrans hZ Y.warmed, hp.2.1, hp.2.2.1⟩
  · exact fun _ _ _ _ _ _ _ _ _ => trivial
  · rintro _ _ _ _ ⟨v, L, h1, h2, h3⟩
    exact ⟨L, _, _, h3, rfl, rfl, v, h1, h2⟩
  · rintro m meth c A a g mk v t L k n Y hp _ _ ⟨e1, e2, v', e3, e4⟩
    cases e3; subst e1 e2
    exact ⟨L, e4, rfl, rfl, rfl⟩

def own_W (Z : State) (G : Int32) (fv : Value) : Prop := Sta Z Z.heap "java/lang/String" "COMPACT_STRINGS" "Z" (.int G) ∧ ¬ (G = (0 : Int32)) ∧ Sta Z Z.heap "jdk/internal/util/Preconditions" "SIOOBE_FORMATTER" "Ljava/util/function/BiFunction;" fv ∧ fv.isRef = true ∧ Sta Z Z.heap "java/lang/StringUTF16" "$assertionsDisabled" "Z" (.int (1 : Int32)) ∧ Sta Z Z.heap "java/lang/StringUTF16" "HI_BYTE_SHIFT" "I" (.int (0 : Int32)) ∧ Sta Z Z.heap "java/lang/StringUTF16" "LO_BYTE_SHIFT" "I" (.int (8 : Int32))
theorem pn_0 : plainName "java/lang/StringUTF16" = true := by first | (simp [plainName, overriddenIn]; done) | decide +kernel
theorem ef_GC (m : MethodId) (x0 : Addr) (x1 : Int32) : entryFrame m #[(.ref x0), (.int x1)] 2 = mkF m 0 #[.val (.ref x0), .val (.int x1)] [] := by first | (simp [entryFrame, mkF, argsToLocals, Value.category, maxLocals]; done) | rfl
def QGC (Z : State) (t : Addr) (kb : ClassId) (zl : Int32) (bs : List Value) (i : Int32) (q0 : Int32) (q1 : Int32) (ch : Int32) (G : Int32) (fv : Value) (h0 : Heap) (n0 : Nat) (v : Option Value) (h : Heap) (L : List Loc) : Prop := v = some (.int ch) ∧ L = [] ∧ h = h0
abbrev RmGC : Room := ({ frames := 0, cells := 0, slots := 0, locals := 0 } : Room)
theorem rmGC (l : Launch) (Z : State) (a0 : Array Value) (hw : Tb a0 Z) (ws : List Jvm.Cond) (t : Addr) (kb : ClassId) (zl : Int32) (bs : List Value) (i : Int32) (q0 : Int32) (q1 : Int32) (ch : Int32) (G : Int32) (fv : Value) (h0 : Heap) (n0 : Nat) (Z0 : n0 ≤ h0.size) (A0 : Yb Z h0 t kb zl bs) (j0 : ¬ (i <<< ((1 : Int32) &&& 31)) < 0 ∧ (i <<< ((1 : Int32) &&& 31)) < zl) (t0 : bs.getD (i <<< ((1 : Int32) &&& 31)).toNatClampNeg (.int (0 : Int32)) = .int q0) (j1 : ¬ ((i <<< ((1 : Int32) &&& 31)) + (1 : Int32)) < 0 ∧ ((i <<< ((1 : Int32) &&& 31)) + (1 : Int32)) < zl) (t1 : bs.getD ((i <<< ((1 : Int32) &&& 31)) + (1 : Int32)).toNatClampNeg (.int (0 : Int32)) = .int q1) (hc : nar .char ((((q0 &&& (255 : Int32)) <<< ((0 : Int32) &&& 31)) ||| ((q1 &&& (255 : Int32)) <<< ((8 : Int32) &&& 31))).toUInt32.toUInt16.toUInt32.toInt32) = ch) (W0 : own_W Z G fv) (O0 : own_O Z n0 h0) :
    Met l Z h0 (⟨"java/lang/StringUTF16", "getChar", "([BI)C"⟩ : MethodName) jdk_52_method_5_code 2 (some .char) RmGC ws #[(.ref t), (.int i)] (QGC Z t kb zl bs i q0 q1 ch G fv h0 n0) := by
  refine MetFree.of_bodySF (plainFor_of_name pn_0) hisR ?_
  intro p e s m args below meth c s₁ Bd hml0 hP hK
  obtain ⟨rfl, hZ, hh⟩ := hP
  have hx := Bd.exec
  have hby := Bd.bytes
  have D := dl hby d0_
  have hml : c.maxLocals = 2 := hml0
  have hown : s.vm.findClass "java/lang/StringUTF16" = some m.cls := findClass_of_methodNamed Bd.named
  have hnm := (name_of_methodNamed Bd.named Bd.method).1
  have X0 : Stand p l e RmGC s m #[(.ref t), (.int i)] below meth c s₁ [] 0 0 := Stand.of_body Bd
  have e0 : s₁.heap = h0 := by rw [← hh, Bd.state]; rfl
  have N0 := Fr.nil n0
  obtain ⟨E0, hE0⟩ : ∃ z, z = s₁.setTop (entryFrame m #[(.ref t), (.int i)] 2) := ⟨_, rfl⟩
  rw [← hE0]
  have go0 : Go p e below E0 s₁ m 0 #[(sr t), (si i)] [] := fun tgt kq => by rw [hE0]; exact castTop (ef_GC m t i) kq
  obtain ⟨T1, X1, e1, st1⟩ := getS2 X0 hx hZ hown (host := "") (Or.inl (wd hw 278 rfl)) Via.refl e0 (W0.2.2.2.2.1.ext O0.2) (g := (mkF m 0 #[(sr t), (si i)] [])) rfl (D 0 rfl)
  have go1 : Go p e below E0 T1 m 3 #[(sr t), (si i)] [(.int 1)] := fun a b => go0 a (st1 a b)
  have go2 : Go p e below E0 T1 m 37 #[(sr t), (si ((i <<< ((1 : Int32) &&& 31)) + (1 : Int32)))] [(.int (i <<< ((1 : Int32) &&& 31))), (.ref t)] := fun tgt kq => go1 tgt (by
    refine XS.ifYes X1.here hx rfl (pc0 := 3) (pc' := 28) rfl (D 1 rfl) rfl ((if0 _ _).trans (feq (by decide)).2) (by decide) (by decide) ?_; refine XS.iloadN X1.here hx rfl (D 2 rfl) rfl ?_; refine XS.iconst X1.here hx rfl (D 3 rfl) ?_; refine XS.ishl X1.here hx rfl (D 4 rfl) rfl ?_; refine XS.istoreN X1.here hx rfl (D 5 rfl) rfl (l' := #[(sr t), (si (i <<< ((1 : Int32) &&& 31)))]) rfl ?_; refine XS.aloadN X1.here hx rfl (D 6 rfl) rfl rfl ?_; refine XS.iloadN X1.here hx rfl (D 7 rfl) rfl ?_; refine XS.iinc X1.here hx rfl (D 8 rfl) rfl (l' := #[(sr t), (si ((i <<< ((1 : Int32) &&& 31)) + (1 : Int32)))]) rfl ?_; exact kq)
  obtain ⟨c3, Ar3, q3, S3, M3, Hh3, G3⟩ := id A0
  have hin3 : ¬ ((i <<< ((1 : Int32) &&& 31)) < 0 ∨ c3.slots.size ≤ ((i <<< ((1 : Int32) &&& 31))).toNatClampNeg) := inb_of S3 j0
  have hat3 : c3.slots[((i <<< ((1 : Int32) &&& 31))).toNatClampNeg]? = some (.int q0) := Hh3.at hin3 t0
  have go4 : Go p e below E0 T1 m 42 #[(sr t), (si ((i <<< ((1 : Int32) &&& 31)) + (1 : Int32)))] [(.int (q0 &&& (255 : Int32)))] := fun tgt kq => go2 tgt (by
    refine X1.baloadBytes hx (j := (i <<< ((1 : Int32) &&& 31))) (v := (.int q0)) (by rw [e1]; exact Ar3.1) (State.isArrayOf_alike hZ.alike Ar3.2.1) Ar3.2.2 hin3 hat3 (g := (mkF m 37 #[(sr t), (si ((i <<< ((1 : Int32) &&& 31)) + (1 : Int32)))] [(.int (i <<< ((1 : Int32) &&& 31))), (.ref t)])) rfl rfl (D 9 rfl) _ ?_; refine XS.sipush X1.here hx rfl (D 10 rfl) ?_; refine XS.iand X1.here hx rfl (D 11 rfl) rfl ?_; exact kq)
  obtain ⟨T5, X5, e5, st5⟩ := getS2 X1 hx hZ hown (host := "") (Or.inl (wd hw 279 rfl)) Via.refl e1 (W0.2.2.2.2.2.1.ext O0.2) (g := (mkF m 42 #[(sr t), (si ((i <<< ((1 : Int32) &&& 31)) + (1 : Int32)))] [(.int (q0 &&& (255 : Int32)))])) rfl (D 12 rfl)
  have go5 : Go p e below E0 T5 m 45 #[(sr t), (si ((i <<< ((1 : Int32) &&& 31)) + (1 : Int32)))] [(.int 0), (.int (q0 &&& (255 : Int32)))] := fun a b => go4 a (st5 a b)
  have go6 : Go p e below E0 T5 m 48 #[(sr t), (si ((i <<< ((1 : Int32) &&& 31)) + (1 : Int32)))] [(.int ((i <<< ((1 : Int32) &&& 31)) + (1 : Int32))), (.ref t), (.int ((q0 &&& (255 : Int32)) <<< ((0 : Int32) &&& 31)))] := fun tgt kq => go5 tgt (by
    refine XS.ishl X5.here hx rfl (D 13 rfl) rfl ?_; refine XS.aloadN X5.here hx rfl (D 14 rfl) rfl rfl ?_; refine XS.iloadN X5.here hx rfl (D 15 rfl) rfl ?_; exact kq)
  obtain ⟨c7, Ar7, q7, S7, M7, Hh7, G7⟩ := id A0
  have hin7 : ¬ (((i <<< ((1 : Int32) &&& 31)) + (1 : Int32)) < 0 ∨ c7.slots.size ≤ (((i <<< ((1 : Int32) &&& 31)) + (1 : Int32))).toNatClampNeg) := inb_of S7 j1
  have hat7 : c7.slots[(((i <<< ((1 : Int32) &&& 31)) + (1 : Int32))).toNatClampNeg]? = some (.int q1) := Hh7.at hin7 t1
  have go8 : Go p e below E0 T5 m 53 #[(sr t), (si ((i <<< ((1 : Int32) &&& 31)) + (1 : Int32)))] [(.int (q1 &&& (255 : Int32))), (.int ((q0 &&& (255 : Int32)) <<< ((0 : Int32) &&& 31)))] := fun tgt kq => go6 tgt (by
    refine X5.baloadBytes hx (j := ((i <<< ((1 : Int32) &&& 31)) + (1 : Int32))) (v := (.int q1)) (by rw [e5]; exact Ar7.1) (State.isArrayOf_alike hZ.alike Ar7.2.1) Ar7.2.2 hin7 hat7 (g := (mkF m 48 #[(sr t), (si ((i <<< ((1 : Int32) &&& 31)) + (1 : Int32)))] [(.int ((i <<< ((1 : Int32) &&& 31)) + (1 : Int32))), (.ref t), (.int ((q0 &&& (255 : Int32)) <<< ((0 : Int32) &&& 31)))])) rfl rfl (D 16 rfl) _ ?_; refine XS.sipush X5.here hx rfl (D 17 rfl) ?_; refine XS.iand X5.here hx rfl (D 18 rfl) rfl ?_; exact kq)
  obtain ⟨T9, X9, e9, st9⟩ := getS2 X5 hx hZ hown (host := "") (Or.inl (wd hw 280 rfl)) Via.refl e5 (W0.2.2.2.2.2.2.ext O0.2) (g := (mkF m 53 #[(sr t), (si ((i <<< ((1 : Int32) &&& 31)) + (1 : Int32)))] [(.int (q1 &&& (255 : Int32))), (.int ((q0 &&& (255 : Int32)) <<< ((0 : Int32) &&& 31)))])) rfl (D 19 rfl)
  have go9 : Go p e below E0 T9 m 56 #[(sr t), (si ((i <<< ((1 : Int32) &&& 31)) + (1 : Int32)))] [(.int 8), (.int (q1 &&& (255 : Int32))), (.int ((q0 &&& (255 : Int32)) <<< ((0 : Int32) &&& 31)))] := fun a b => go8 a (st9 a b)
  have go10 : Go p e below E0 T9 m 59 #[(sr t), (si ((i <<< ((1 : Int32) &&& 31)) + (1 : Int32)))] [(.int ((((q0 &&& (255 : Int32)) <<< ((0 : Int32) &&& 31)) ||| ((q1 &&& (255 : Int32)) <<< ((8 : Int32) &&& 31))).toUInt32.toUInt16.toUInt32.toInt32))] := fun tgt kq => go9 tgt (by
    refine XS.ishl X9.here hx rfl (D 20 rfl) rfl ?_; refine XS.ior X9.here hx rfl (D 21 rfl) rfl ?_; refine XS.i2c X9.here hx rfl (D 22 rfl) rfl ?_; exact kq)
  obtain ⟨fs, hr, hrun, hended, hW, hsame⟩ := X9.leave (v := some (.int (nar .char ((((q0 &&& (255 : Int32)) <<< ((0 : Int32) &&& 31)) ||| ((q1 &&& (255 : Int32)) <<< ((8 : Int32) &&& 31))).toUInt32.toUInt16.toUInt32.toInt32)))) (fun h => by rw [Bd.returns] at h; cases h)
  refine ⟨_, _, go10 _ ?_, hrun, hended, _, _, rfl, ?_, ⟨_, rfl⟩, hW, hsame.mono (by decide) (by decide)⟩
  · exact retN X9 hx (t := .char) Bd.returns (by simp) (D 23 rfl) hr
  · show QGC Z t kb zl bs i q0 q1 ch G fv h0 n0 _ T9.heap _
    rw [e9]
    exact ⟨by rw [← hc], rfl, rfl⟩
def QCF (Z : State) (t : Addr) (kb : ClassId) (zl : Int32) (bs : List Value) (n : Int32) (zn : Int32) (h0 : Heap) (n0 : Nat) (v : Option Value) (h : Heap) (L : List Loc) : Prop := v = some (.int zn) ∧ L = [] ∧ h = h0
abbrev RmCF : Room := ({ frames := 0, cells := 0, slots := 0, locals := 0 } : Room)
theorem rmCF (l : Launch) (Z : State) (a0 : Array Value) (hw : Tb a0 Z) (ws : List Jvm.Cond) (t : Addr) (kb : ClassId) (zl : Int32) (bs : List Value) (n : Int32) (zn : Int32) (h0 : Heap) (n0 : Nat) (Z0 : n0 ≤ h0.size) (A0 : Yb Z h0 t kb zl bs) (hz : nar .byte ((((n - zl).toUInt32 >>> ((31 : Int32) &&& 31).toUInt32).toInt32).toInt8.toInt32) = zn) :
    Met l Z h0 (⟨"java/lang/StringUTF16", "coderFromArrayLen", "([BI)B"⟩ : MethodName) jdk_52_method_15_code 2 (some .byte) RmCF ws #[(.ref t), (.int n)] (QCF Z t kb zl bs n zn h0 n0) := by
  refine MetFree.of_bodySF (plainFor_of_name pn_0) hisR ?_
  intro p e s m args below meth c s₁ Bd hml0 hP hK
  obtain ⟨rfl, hZ, hh⟩ := hP
  have hx := Bd.exec
  have hby := Bd.bytes
  have D := dl hby d1_
  have hml : c.maxLocals = 2 := hml0
  have hown : s.vm.findClass "java/lang/StringUTF16" = some m.cls := findClass_of_methodNamed Bd.named
  have hnm := (name_of_methodNamed Bd.named Bd.method).1
  have X0 : Stand p l e RmCF s m #[(.ref t), (.int n)] below meth c s₁ [] 0 0 := Stand.of_body Bd
  have e0 : s₁.heap = h0 := by rw [← hh, Bd.state]; rfl
  have N0 := Fr.nil n0
  obtain ⟨E0, hE0⟩ : ∃ z, z = s₁.setTop (entryFrame m #[(.ref t), (.int n)] 2) := ⟨_, rfl⟩
  rw [← hE0]
  have go0 : Go p e below E0 s₁ m 0 #[(sr t), (si n)] [] := fun tgt kq => by rw [hE0]; exact castTop (ef_GC m t n) kq
  have go1 : Go p e below E0 s₁ m 2 #[(sr t), (si n)] [(.ref t), (.int n)] := fun tgt kq => go0 tgt (by
    refine XS.iloadN X0.here hx rfl (D 0 rfl) rfl ?_; refine XS.aloadN X0.here hx rfl (D 1 rfl) rfl rfl ?_; exact kq)
  obtain ⟨c2, Ar2, q2, S2, M2, -, -⟩ := id A0
  have go3 : Go p e below E0 s₁ m 8 #[(sr t), (si n)] [(.int ((((n - zl).toUInt32 >>> ((31 : Int32) &&& 31).toUInt32).toInt32).toInt8.toInt32))] := fun tgt kq => go1 tgt (by
    refine X0.arraylength hx (by rw [e0]; exact Ar2.1) (State.isArrayOf_alike hZ.alike Ar2.2.1) (g := (mkF m 2 #[(sr t), (si n)] [(.ref t), (.int n)])) rfl rfl (D 2 rfl) _ ?_; rw [len_of S2 M2]; refine XS.isub X0.here hx rfl (D 3 rfl) rfl ?_; refine XS.bipush X0.here hx rfl (D 4 rfl) ?_; refine XS.iushr X0.here hx rfl (D 5 rfl) rfl ?_; refine XS.i2b X0.here hx rfl (D 6 rfl) rfl ?_; exact kq)
  obtain ⟨fs, hr, hrun, hended, hW, hsame⟩ := X0.leave (v := some (.int (nar .byte ((((n - zl).toUInt32 >>> ((31 : Int32) &&& 31).toUInt32).toInt32).toInt8.toInt32)))) (fun h => by rw [Bd.returns] at h; cases h)
  refine ⟨_, _, go3 _ ?_, hrun, hended, _, _, rfl, ?_, ⟨_, rfl⟩, hW, hsame.mono (by decide) (by decide)⟩
  · exact retN X0 hx (t := .byte) Bd.returns (by simp) (D 7 rfl) hr
  · show QCF Z t kb zl bs n zn h0 n0 _ s₁.heap _
    rw [e0]
    exact ⟨by rw [← hz], rfl, rfl⟩
def own_S (Z : State) (h : Heap) (x : Addr) (cs : List Int32) : Prop := ∃ (t : Addr) (kb : ClassId), E1_ Z h x ∧ F6_ Z h x (.ref t) ∧ F5_ Z h x (.int (own_co cs)) ∧ Yb Z h t kb (Int32.ofNat (own_k cs * cs.length)) (own_by cs)
theorem ef_NL520 (m : MethodId) (x0 : Int32) : entryFrame m #[(.int x0)] 1 = mkF m 0 #[.val (.int x0)] [] := by first | (simp [entryFrame, mkF, argsToLocals, Value.category, maxLocals]; done) | rfl
def QNL520 (Z : State) (n : Nat) (h0 : Heap) (n0 : Nat) (v : Option Value) (h : Heap) (L : List Loc) : Prop := v = some (.int (Int32.ofNat (2 * n))) ∧ L = [] ∧ h = h0
abbrev RmNL520 : Room := ({ frames := 0, cells := 0, slots := 0, locals := 0 } : Room)
theorem rmNL520 (l : Launch) (Z : State) (a0 : Array Value) (hw : Tb a0 Z) (ws : List Jvm.Cond) (n : Nat) (h0 : Heap) (n0 : Nat) (Z0 : n0 ≤ h0.size) (hn : n ≤ 520) :
    Met l Z h0 (⟨"java/lang/StringUTF16", "newBytesLength", "(I)I"⟩ : MethodName) jdk_52_method_3_code 1 (some .int) RmNL520 ws #[(.int (Int32.ofNat n))] (QNL520 Z n h0 n0) := by
  refine MetFree.of_bodySF (plainFor_of_name pn_0) hisR ?_
  intro p e s m args below meth c s₁ Bd hml0 hP hK
  obtain ⟨rfl, hZ, hh⟩ := hP
  have hx := Bd.exec
  have hby := Bd.bytes
  have D := dl hby d2_
  have hml : c.maxLocals = 1 := hml0
  have hown : s.vm.findClass "java/lang/StringUTF16" = some m.cls := findClass_of_methodNamed Bd.named
  have hnm := (name_of_methodNamed Bd.named Bd.method).1
  have X0 : Stand p l e RmNL520 s m #[(.int (Int32.ofNat n))] below meth c s₁ [] 0 0 := Stand.of_body Bd
  have e0 : s₁.heap = h0 := by rw [← hh, Bd.state]; rfl
  have N0 := Fr.nil n0
  obtain ⟨E0, hE0⟩ : ∃ z, z = s₁.setTop (entryFrame m #[(.int (Int32.ofNat n))] 1) := ⟨_, rfl⟩
  rw [← hE0]
  have go0 : Go p e below E0 s₁ m 0 #[(si (Int32.ofNat n))] [] := fun tgt kq => by rw [hE0]; exact castTop (ef_NL520 m (Int32.ofNat n)) kq
  have go1 : Go p e below E0 s₁ m 58 #[(si (Int32.ofNat n))] [(.int ((Int32.ofNat n) <<< ((1 : Int32) &&& 31)))] := fun tgt kq => go0 tgt (by
    refine XS.iloadN X0.here hx rfl (D 0 rfl) rfl ?_; refine XS.ifYes X0.here hx rfl (pc0 := 1) (pc' := 12) rfl (D 1 rfl) rfl ((if0 _ _).trans (flt (own_nn (by omega))).2.1) (by decide) (by decide) ?_; refine XS.iloadN X0.here hx rfl (D 2 rfl) rfl ?_; refine X0.ldcInt hx hown (wm hw hZ 274 rfl) (g := (mkF m 13 #[(si (Int32.ofNat n))] [(.int (Int32.ofNat n))])) rfl (D 3 rfl) _ ?_; refine XS.icmpYes X0.here hx rfl (pc0 := 15) (pc' := 55) rfl (D 4 rfl) rfl (tlt (own_lt (b := 1073741823) (by decide) (by omega))).1 (by decide) (by decide) ?_; refine XS.iloadN X0.here hx rfl (D 5 rfl) rfl ?_; refine XS.iconst X0.here hx rfl (D 6 rfl) ?_; refine XS.ishl X0.here hx rfl (D 7 rfl) rfl ?_; exact kq)
  obtain ⟨fs, hr, hrun, hended, hW, hsame⟩ := X0.leave (v := some (.int ((Int32.ofNat n) <<< ((1 : Int32) &&& 31)))) (fun h => by rw [Bd.returns] at h; cases h)
  refine ⟨_, _, go1 _ ?_, hrun, hended, _, _, rfl, ?_, ⟨_, rfl⟩, hW, hsame.mono (by decide) (by decide)⟩
  · exact retOut X0 hx Bd.returns rfl (Or.inl ⟨rfl, Or.inl rfl, _, rfl⟩) (D 8 rfl) hr
  · show QNL520 Z n h0 n0 _ s₁.heap _
    rw [e0]
    exact ⟨by rw [own_shl (by omega)], rfl, rfl⟩
theorem pd_1 : parseMethodDescriptor "(I)I" = some ⟨[.int], some .int⟩ := by decide +kernel
def QNF520 (Z : State) (n : Nat) (h0 : Heap) (n0 : Nat) (v : Option Value) (h : Heap) (L : List Loc) : Prop := ∃ kb : ClassId, v = some (.ref h0.size) ∧ Fr n0 L ∧ Keep h0 h [] ∧ Yb Z h h0.size kb (Int32.ofNat (2 * n)) []
abbrev RmNF520 : Room := ({ frames := 1, cells := 1, slots := 1040, locals := 12 } : Room)
theorem rmNF520 (l : Launch) (Z : State) (a0 : Array Value) (hw : Tb a0 Z) (ws : List Jvm.Cond) (n : Nat) (h0 : Heap) (n0 : Nat) (Z0 : n0 ≤ h0.size) (hn : n ≤ 520) :
    Met l Z h0 (⟨"java/lang/StringUTF16", "newBytesFor", "(I)[B"⟩ : MethodName) jdk_52_method_2_code 1 (some (.array .byte)) RmNF520 ws #[(.int (Int32.ofNat n))] (QNF520 Z n h0 n0) := by
  refine MetFree.of_bodySF (plainFor_of_name pn_0) hisR ?_
  intro p e s m args below meth c s₁ Bd hml0 hP hK
  obtain ⟨rfl, hZ, hh⟩ := hP
  have hx := Bd.exec
  have hby := Bd.bytes
  have D := dl hby d3_
  have hml : c.maxLocals = 1 := hml0
  have hown : s.vm.findClass "java/lang/StringUTF16" = some m.cls := findClass_of_methodNamed Bd.named
  have hnm := (name_of_methodNamed Bd.named Bd.method).1
  have X0 : Stand p l e RmNF520 s m #[(.int (Int32.ofNat n))] below meth c s₁ [] 0 0 := Stand.of_body Bd
  have e0 : s₁.heap = h0 := by rw [← hh, Bd.state]; rfl
  have N0 := Fr.nil n0
  obtain ⟨E0, hE0⟩ : ∃ z, z = s₁.setTop (entryFrame m #[(.int (Int32.ofNat n))] 1) := ⟨_, rfl⟩
  rw [← hE0]
  have go0 : Go p e below E0 s₁ m 0 #[(si (Int32.ofNat n))] [] := fun tgt kq => by rw [hE0]; exact castTop (ef_NL520 m (Int32.ofNat n)) kq
  have go1 : Go p e below E0 s₁ m 1 #[(si (Int32.ofNat n))] [(.int (Int32.ofNat n))] := fun tgt kq => go0 tgt (by
    refine XS.iloadN X0.here hx rfl (D 0 rfl) rfl ?_; exact kq)
  obtain ⟨_, T2, L2, X2, hQ2, go2⟩ := own_cS X0 hx hZ hown (wd hw 271 rfl) (wd hw 272 rfl) (wd hw 26 rfl) (wd hw 273 rfl) (by decide) (W := 0) (rmNL520 l Z a0 hw [] n h0 n0 Z0 hn) (by decide) (by decide) e0 (by decide) (by decide) go1 hml.symm (argsL := [(.int (Int32.ofNat n))]) (rest := []) (lenOf pd_1 rfl) rfl rfl rfl (D 1 rfl)
  obtain ⟨rfl, rfl, e2⟩ := hQ2
  have N2 := Fr.app N0 (Fr.nil n0)
  obtain ⟨T3, h3, k3, X3, e3, E3, A3, st3⟩ := newP X2 hx hZ (wd hw 28 rfl) e2 (g := (mkF m 4 #[(si (Int32.ofNat n))] [(.int (Int32.ofNat (2 * n)))])) rfl (D 2 rfl) rfl (own_nn (by omega)) (cap := 1040) (by rw [own_cl (by omega)]; omega) (by decide) (by decide) (by decide)
  obtain ⟨t, g3⟩ : ∃ z, z = h0.size := ⟨_, rfl⟩
  rw [← g3] at A3 st3
  have ge_t : n0 ≤ t := Nat.le_trans Z0 (Nat.le_of_eq g3.symm)
  have hz_t : h0.size ≤ t := Nat.le_trans (Keep.refl h0 []).1 (Nat.le_of_eq g3.symm)
  have z4 : n0 ≤ h3.size := Nat.le_trans Z0 E3.1
  have K5 : Keep h0 h3 [] := (Keep.refl h0 []).ext E3
  have V3 : Yb Z h3 t k3 (Int32.ofNat (2 * n)) [] := Arv.new A3 (own_nn (by omega))
  have go3 : Go p e below E0 T3 m 6 #[(si (Int32.ofNat n))] [(.ref t)] := fun a b => go2 a (st3 a b)
  subst g3
  obtain ⟨fs, hr, hrun, hended, hW, hsame⟩ := X3.leave (v := some (.ref h0.size)) (fun h => by rw [Bd.returns] at h; cases h)
  refine ⟨_, _, go3 _ ?_, hrun, hended, _, _, rfl, ?_, ⟨_, rfl⟩, hW, hsame.mono (by decide) (by decide)⟩
  · exact retOut X3 hx Bd.returns rfl (Or.inr (Or.inr (Or.inr (Or.inr ⟨rfl, rfl, rfl⟩)))) (D 3 rfl) hr
  · show QNF520 Z n h0 n0 _ T3.heap _
    rw [e3]
    exact ⟨_, rfl, N2, K5, V3⟩
theorem ef_PU (m : MethodId) (x0 : Addr) (x1 : Int32) (x2 : Int32) : entryFrame m #[(.ref x0), (.int x1), (.int x2)] 3 = mkF m 0 #[.val (.ref x0), .val (.int x1), .val (.int x2)] [] := by first | (simp [entryFrame, mkF, argsToLocals, Value.category, maxLocals]; done) | rfl
def QPU (Z : State) (t : Addr) (kb : ClassId) (n : Nat) (k : Nat) (cs : List Int32) (cc : Int32) (G : Int32) (fv : Value) (h0 : Heap) (n0 : Nat) (v : Option Value) (h : Heap) (L : List Loc) : Prop := v = none ∧ Fr n0 L ∧ Keep h0 h [t] ∧ Yb Z h t kb (Int32.ofNat (2 * n)) (own_flat (cs ++ [cc]))
abbrev RmPU : Room := ({ frames := 0, cells := 0, slots := 0, locals := 0 } : Room)
theorem rmPU (l : Launch) (Z : State) (a0 : Array Value) (hw : Tb a0 Z) (ws : List Jvm.Cond) (t : Addr) (kb : ClassId) (n : Nat) (k : Nat) (cs : List Int32) (cc : Int32) (G : Int32) (fv : Value) (h0 : Heap) (n0 : Nat) (Z0 : n0 ≤ h0.size) (A0 : Yb Z h0 t kb (Int32.ofNat (2 * n)) (own_flat cs)) (gt : n0 ≤ t) (hk : k = cs.length) (hn : k < n) (hn2 : n ≤ 2100) (W0 : own_W Z G fv) (O0 : own_O Z n0 h0) :
    Met l Z h0 (⟨"java/lang/StringUTF16", "putChar", "([BII)V"⟩ : MethodName) jdk_52_method_4_code 3 none RmPU ws #[(.ref t), (.int (Int32.ofNat k)), (.int cc)] (QPU Z t kb n k cs cc G fv h0 n0) := by
  refine MetFree.of_bodySF (plainFor_of_name pn_0) hisR ?_
  intro p e s m args below meth c s₁ Bd hml0 hP hK
  obtain ⟨rfl, hZ, hh⟩ := hP
  have hx := Bd.exec
  have hby := Bd.bytes
  have D := dl hby d4_
  have hml : c.maxLocals = 3 := hml0
  have hown : s.vm.findClass "java/lang/StringUTF16" = some m.cls := findClass_of_methodNamed Bd.named
  have hnm := (name_of_methodNamed Bd.named Bd.method).1
  have X0 : Stand p l e RmPU s m #[(.ref t), (.int (Int32.ofNat k)), (.int cc)] below meth c s₁ [] 0 0 := Stand.of_body Bd
  have e0 : s₁.heap = h0 := by rw [← hh, Bd.state]; rfl
  have N0 := Fr.nil n0
  obtain ⟨E0, hE0⟩ : ∃ z, z = s₁.setTop (entryFrame m #[(.ref t), (.int (Int32.ofNat k)), (.int cc)] 3) := ⟨_, rfl⟩
  rw [← hE0]
  have go0 : Go p e below E0 s₁ m 0 #[(sr t), (si (Int32.ofNat k)), (si cc)] [] := fun tgt kq => by rw [hE0]; exact castTop (ef_PU m t (Int32.ofNat k) cc) kq
  have j0 : ((Int32.ofNat k) <<< ((1 : Int32) &&& 31)) = (Int32.ofNat (2 * k)) := own_shl (by omega)
  have hl := own_flat_len cs
  obtain ⟨T1, X1, e1, st1⟩ := getS2 X0 hx hZ hown (host := "") (Or.inl (wd hw 278 rfl)) Via.refl e0 (W0.2.2.2.2.1.ext O0.2) (g := (mkF m 0 #[(sr t), (si (Int32.ofNat k)), (si cc)] [])) rfl (D 0 rfl)
  have go1 : Go p e below E0 T1 m 3 #[(sr t), (si (Int32.ofNat k)), (si cc)] [(.int 1)] := fun a b => go0 a (st1 a b)
  have go2 : Go p e below E0 T1 m 38 #[(sr t), (si (((Int32.ofNat k) <<< ((1 : Int32) &&& 31)) + (1 : Int32))), (si cc)] [(.int cc), (.int ((Int32.ofNat k) <<< ((1 : Int32) &&& 31))), (.ref t)] := fun tgt kq => go1 tgt (by
    refine XS.ifYes X1.here hx rfl (pc0 := 3) (pc' := 28) rfl (D 1 rfl) rfl ((if0 _ _).trans (feq (by decide)).2) (by decide) (by decide) ?_; refine XS.iloadN X1.here hx rfl (D 2 rfl) rfl ?_; refine XS.iconst X1.here hx rfl (D 3 rfl) ?_; refine XS.ishl X1.here hx rfl (D 4 rfl) rfl ?_; refine XS.istoreN X1.here hx rfl (D 5 rfl) rfl (l' := #[(sr t), (si ((Int32.ofNat k) <<< ((1 : Int32) &&& 31))), (si cc)]) rfl ?_; refine XS.aloadN X1.here hx rfl (D 6 rfl) rfl rfl ?_; refine XS.iloadN X1.here hx rfl (D 7 rfl) rfl ?_; refine XS.iinc X1.here hx rfl (D 8 rfl) rfl (l' := #[(sr t), (si (((Int32.ofNat k) <<< ((1 : Int32) &&& 31)) + (1 : Int32))), (si cc)]) rfl ?_; refine XS.iloadN X1.here hx rfl (D 9 rfl) rfl ?_; exact kq)
  obtain ⟨T3, X3, e3, st3⟩ := getS2 X1 hx hZ hown (host := "") (Or.inl (wd hw 279 rfl)) Via.refl e1 (W0.2.2.2.2.2.1.ext O0.2) (g := (mkF m 38 #[(sr t), (si (((Int32.ofNat k) <<< ((1 : Int32) &&& 31)) + (1 : Int32))), (si cc)] [(.int cc), (.int ((Int32.ofNat k) <<< ((1 : Int32) &&& 31))), (.ref t)])) rfl (D 10 rfl)
  have go3 : Go p e below E0 T3 m 41 #[(sr t), (si (((Int32.ofNat k) <<< ((1 : Int32) &&& 31)) + (1 : Int32))), (si cc)] [(.int 0), (.int cc), (.int ((Int32.ofNat k) <<< ((1 : Int32) &&& 31))), (.ref t)] := fun a b => go2 a (st3 a b)
  have go4 : Go p e below E0 T3 m 43 #[(sr t), (si (((Int32.ofNat k) <<< ((1 : Int32) &&& 31)) + (1 : Int32))), (si cc)] [(.int ((cc >>> ((0 : Int32) &&& 31)).toInt8.toInt32)), (.int ((Int32.ofNat k) <<< ((1 : Int32) &&& 31))), (.ref t)] := fun tgt kq => go3 tgt (by
    refine XS.ishr X3.here hx rfl (D 11 rfl) rfl ?_; refine XS.i2b X3.here hx rfl (D 12 rfl) rfl ?_; exact kq)
  have p5 : Yb Z h0 t kb (Int32.ofNat (2 * n)) ((own_flat cs) ++ [(.int (0 : Int32))]) := A0.pad (pad_rep (own_flat cs) (.int (0 : Int32)) 1)
  obtain ⟨c5, Ar5, q5, S5, M5, Hh5, G5⟩ := id p5
  obtain ⟨T5, h5, X5, e5, W5, st5⟩ := stB X3 hx hZ e3 Ar5 (j := ((Int32.ofNat k) <<< ((1 : Int32) &&& 31))) (inb_of S5 (by rw [j0]; exact ⟨own_nn (by omega), own_lt (by omega) (by omega)⟩)) (g := (mkF m 43 #[(sr t), (si (((Int32.ofNat k) <<< ((1 : Int32) &&& 31)) + (1 : Int32))), (si cc)] [(.int ((cc >>> ((0 : Int32) &&& 31)).toInt8.toInt32)), (.int ((Int32.ofNat k) <<< ((1 : Int32) &&& 31))), (.ref t)])) rfl rfl (D 13 rfl)
  have z6 : n0 ≤ h5.size := Nat.le_trans Z0 (Keep.of_wr W5).1
  have K7 : Keep h0 h5 [t] := (Keep.refl h0 [t]).wr W5 (Or.inl (List.mem_of_getElem? (i := 0) rfl))
  have N5 := Fr.snoc X5 N0 gt
  have f8 : Yb Z h5 t kb (Int32.ofNat (2 * n)) ((own_flat cs) ++ [(Value.int (own_b0 cc))]) := (by rw [← own_push (own_flat cs) (.int (0 : Int32)) (Value.int (own_b0 cc))]; exact Arv.set Ar5 q5 S5 M5 Hh5 G5 (fits_nar_byte _) W5 (own_flat cs).length (by rw [j0, own_cl (by omega)]; omega) (by simp))
  have go5 : Go p e below E0 T5 m 44 #[(sr t), (si (((Int32.ofNat k) <<< ((1 : Int32) &&& 31)) + (1 : Int32))), (si cc)] [] := fun a b => go4 a (st5 a b)
  have f9 : own_O Z n0 h5 := (O0.wr W5 gt)
  have go10 : Go p e below E0 T5 m 47 #[(sr t), (si (((Int32.ofNat k) <<< ((1 : Int32) &&& 31)) + (1 : Int32))), (si cc)] [(.int cc), (.int (((Int32.ofNat k) <<< ((1 : Int32) &&& 31)) + (1 : Int32))), (.ref t)] := fun tgt kq => go5 tgt (by
    refine XS.aloadN X5.here hx rfl (D 14 rfl) rfl rfl ?_; refine XS.iloadN X5.here hx rfl (D 15 rfl) rfl ?_; refine XS.iloadN X5.here hx rfl (D 16 rfl) rfl ?_; exact kq)
  obtain ⟨T11, X11, e11, st11⟩ := getS2 X5 hx hZ hown (host := "") (Or.inl (wd hw 280 rfl)) Via.refl e5 (W0.2.2.2.2.2.2.ext f9.2) (g := (mkF m 47 #[(sr t), (si (((Int32.ofNat k) <<< ((1 : Int32) &&& 31)) + (1 : Int32))), (si cc)] [(.int cc), (.int (((Int32.ofNat k) <<< ((1 : Int32) &&& 31)) + (1 : Int32))), (.ref t)])) rfl (D 17 rfl)
  have go11 : Go p e below E0 T11 m 50 #[(sr t), (si (((Int32.ofNat k) <<< ((1 : Int32) &&& 31)) + (1 : Int32))), (si cc)] [(.int 8), (.int cc), (.int (((Int32.ofNat k) <<< ((1 : Int32) &&& 31)) + (1 : Int32))), (.ref t)] := fun a b => go10 a (st11 a b)
  have go12 : Go p e below E0 T11 m 52 #[(sr t), (si (((Int32.ofNat k) <<< ((1 : Int32) &&& 31)) + (1 : Int32))), (si cc)] [(.int ((cc >>> ((8 : Int32) &&& 31)).toInt8.toInt32)), (.int (((Int32.ofNat k) <<< ((1 : Int32) &&& 31)) + (1 : Int32))), (.ref t)] := fun tgt kq => go11 tgt (by
    refine XS.ishr X11.here hx rfl (D 18 rfl) rfl ?_; refine XS.i2b X11.here hx rfl (D 19 rfl) rfl ?_; exact kq)
  have p13 : Yb Z h5 t kb (Int32.ofNat (2 * n)) (((own_flat cs) ++ [(Value.int (own_b0 cc))]) ++ [(.int (0 : Int32))]) := f8.pad (pad_rep ((own_flat cs) ++ [(Value.int (own_b0 cc))]) (.int (0 : Int32)) 1)
  obtain ⟨c13, Ar13, q13, S13, M13, Hh13, G13⟩ := id p13
  obtain ⟨T13, h13, X13, e13, W13, st13⟩ := stB X11 hx hZ e11 Ar13 (j := (((Int32.ofNat k) <<< ((1 : Int32) &&& 31)) + (1 : Int32))) (inb_of S13 (by rw [j0, own_succ]; exact ⟨own_nn (by omega), own_lt (by omega) (by omega)⟩)) (g := (mkF m 52 #[(sr t), (si (((Int32.ofNat k) <<< ((1 : Int32) &&& 31)) + (1 : Int32))), (si cc)] [(.int ((cc >>> ((8 : Int32) &&& 31)).toInt8.toInt32)), (.int (((Int32.ofNat k) <<< ((1 : Int32) &&& 31)) + (1 : Int32))), (.ref t)])) rfl rfl (D 20 rfl)
  have z14 : n0 ≤ h13.size := Nat.le_trans z6 (Keep.of_wr W13).1
  have K15 : Keep h0 h13 [t] := K7.wr W13 (Or.inl (List.mem_of_getElem? (i := 0) rfl))
  have N13 := Fr.snoc X13 N5 gt
  have f16 : Yb Z h13 t kb (Int32.ofNat (2 * n)) (((own_flat cs) ++ [(Value.int (own_b0 cc))]) ++ [(Value.int (own_b1 cc))]) := (by rw [← own_push ((own_flat cs) ++ [(Value.int (own_b0 cc))]) (.int (0 : Int32)) (Value.int (own_b1 cc))]; exact Arv.set Ar13 q13 S13 M13 Hh13 G13 (fits_nar_byte _) W13 ((own_flat cs) ++ [(Value.int (own_b0 cc))]).length (by rw [j0, own_succ, own_cl (by omega)]; simp only [List.length_append, List.length_cons, List.length_nil]; omega) (by simp))
  have go13 : Go p e below E0 T13 m 53 #[(sr t), (si (((Int32.ofNat k) <<< ((1 : Int32) &&& 31)) + (1 : Int32))), (si cc)] [] := fun a b => go12 a (st13 a b)
  obtain ⟨fs, hr, hrun, hended, hW, hsame⟩ := X13.leave (v := none) (fun _ => rfl)
  refine ⟨_, _, go13 _ ?_, hrun, hended, _, _, rfl, ?_, ⟨_, rfl⟩, hW, hsame.mono (by decide) (by decide)⟩
  · exact X13.returnOut hx Bd.returns (D 21 rfl) hr
  · show QPU Z t kb n k cs cc G fv h0 n0 _ T13.heap _
    rw [e13]
    exact ⟨rfl, N13, K15, by rw [own_flat_app]; have q := f16; rw [List.append_assoc] at q; exact q⟩
theorem pd_2 : parseMethodDescriptor "(I)[B" = some ⟨[.int], some (.array .byte)⟩ := by decide +kernel
theorem pd_3 : parseMethodDescriptor "([BII)V" = some ⟨[(.array .byte), .int, .int], none⟩ := by decide +kernel
theorem ef_TB520 (m : MethodId) (x0 : Addr) (x1 : Int32) (x2 : Int32) : entryFrame m #[(.ref x0), (.int x1), (.int x2)] 5 = mkF m 0 #[.val (.ref x0), .val (.int x1), .val (.int x2), .unset, .unset] [] := by first | (simp [entryFrame, mkF, argsToLocals, Value.category, maxLocals]; done) | rfl
def QTB520 (Z : State) (ca : Addr) (kc : ClassId) (cs : List Int32) (G : Int32) (fv : Value) (h0 : Heap) (n0 : Nat) (v : Option Value) (h : Heap) (L : List Loc) : Prop := ∃ (t : Addr) (kb : ClassId), v = some (.ref t) ∧ Fr n0 L ∧ Keep h0 h [] ∧ n0 ≤ t ∧ h0.size ≤ t ∧ Yb Z h t kb (Int32.ofNat (2 * cs.length)) (own_flat cs)
abbrev RmTB520 : Room := ({ frames := 2, cells := 1, slots := 1040, locals := 24 } : Room)
theorem rmTB520 (l : Launch) (Z : State) (a0 : Array Value) (hw : Tb a0 Z) (ws : List Jvm.Cond) (ca : Addr) (kc : ClassId) (cs : List Int32) (G : Int32) (fv : Value) (h0 : Heap) (n0 : Nat) (Z0 : n0 ≤ h0.size) (Ac : Yc Z h0 ca kc (Int32.ofNat cs.length) (cs.map Value.int)) (hl : cs.length ≤ 520) (W0 : own_W Z G fv) (O0 : own_O Z n0 h0) :
    Met l Z h0 (⟨"java/lang/StringUTF16", "toBytes", "([CII)[B"⟩ : MethodName) jdk_52_method_14_code 5 (some (.array .byte)) RmTB520 ws #[(.ref ca), (.int (0 : Int32)), (.int (Int32.ofNat cs.length))] (QTB520 Z ca kc cs G fv h0 n0) := by
  refine MetFree.of_bodySF (plainFor_of_name pn_0) hisR ?_
  intro p e s m args below meth c s₁ Bd hml0 hP hK
  obtain ⟨rfl, hZ, hh⟩ := hP
  have hx := Bd.exec
  have hby := Bd.bytes
  have D := dl hby d5_
  have hml : c.maxLocals = 5 := hml0
  have hown : s.vm.findClass "java/lang/StringUTF16" = some m.cls := findClass_of_methodNamed Bd.named
  have hnm := (name_of_methodNamed Bd.named Bd.method).1
  have X0 : Stand p l e RmTB520 s m #[(.ref ca), (.int (0 : Int32)), (.int (Int32.ofNat cs.length))] below meth c s₁ [] 0 0 := Stand.of_body Bd
  have e0 : s₁.heap = h0 := by rw [← hh, Bd.state]; rfl
  have N0 := Fr.nil n0
  obtain ⟨E0, hE0⟩ : ∃ z, z = s₁.setTop (entryFrame m #[(.ref ca), (.int (0 : Int32)), (.int (Int32.ofNat cs.length))] 5) := ⟨_, rfl⟩
  rw [← hE0]
  have go0 : Go p e below E0 s₁ m 0 #[(sr ca), (si 0), (si (Int32.ofNat cs.length)), .unset, .unset] [] := fun tgt kq => by rw [hE0]; exact castTop (ef_TB520 m ca (0 : Int32) (Int32.ofNat cs.length)) kq
  have go1 : Go p e below E0 s₁ m 1 #[(sr ca), (si 0), (si (Int32.ofNat cs.length)), .unset, .unset] [(.int (Int32.ofNat cs.length))] := fun tgt kq => go0 tgt (by
    refine XS.iloadN X0.here hx rfl (D 0 rfl) rfl ?_; exact kq)
  obtain ⟨_, T2, L2, X2, hQ2, go2⟩ := own_cS X0 hx hZ hown (wd hw 268 rfl) (wd hw 269 rfl) (wd hw 26 rfl) (wd hw 270 rfl) (by decide) (W := 0) (rmNF520 l Z a0 hw [] cs.length h0 n0 Z0 hl) (by decide) (by decide) e0 (by decide) (by decide) go1 hml.symm (argsL := [(.int (Int32.ofNat cs.length))]) (rest := []) (lenOf pd_2 rfl) rfl rfl rfl (D 1 rfl)
  obtain ⟨kb, rfl, N2q, K1, A1⟩ := hQ2
  have N2 := Fr.app N0 N2q
  obtain ⟨t, g2⟩ : ∃ z, z = h0.size := ⟨_, rfl⟩
  rw [← g2] at go2 A1
  have ne_ca_t : ca ≠ t := Nat.ne_of_lt (Nat.lt_of_lt_of_le Ac.lt (Nat.le_of_eq g2.symm))
  have ge_t : n0 ≤ t := Nat.le_trans Z0 (Nat.le_of_eq g2.symm)
  have hz_t : h0.size ≤ t := Nat.le_trans (Keep.refl h0 []).1 (Nat.le_of_eq g2.symm)
  have z3 : n0 ≤ T2.heap.size := Nat.le_trans Z0 K1.1
  have K4 : Keep h0 T2.heap [] := (Keep.refl h0 []).trans K1 all0
  have f5 : own_O Z n0 T2.heap := (O0.keep K1 all0)
  have f6 : Yc Z T2.heap ca kc (Int32.ofNat cs.length) (cs.map Value.int) := (Ac.keep K1 nin0)
  have go7 : Go p e below E0 T2 m 8 #[(sr ca), (si 0), (si (Int32.ofNat cs.length)), (sr t), (si 0)] [] := fun tgt kq => go2 tgt (by
    refine XS.astoreN X2.here hx rfl (D 2 rfl) rfl rfl (l' := #[(sr ca), (si 0), (si (Int32.ofNat cs.length)), (sr t), .unset]) rfl ?_; refine XS.iconst X2.here hx rfl (D 3 rfl) ?_; refine XS.istore X2.here hx rfl (D 4 rfl) rfl (l' := #[(sr ca), (si 0), (si (Int32.ofNat cs.length)), (sr t), (si 0)]) rfl ?_; exact kq)
  obtain ⟨d, k, hk, T8, h8, l8, X8, e8, N8, z8, K8, F8_0, F8_1, F8_2, go8⟩ : ∃ (d k : Nat), k + d = cs.length ∧ ∃ (T8 : State) (h8 : Heap) (l8 : List Loc), Stand p l e RmTB520 s m #[(.ref ca), (.int (0 : Int32)), (.int (Int32.ofNat cs.length))] below meth c T8 l8 1 1040 ∧ T8.heap = h8 ∧ Fr n0 l8 ∧ n0 ≤ h8.size ∧ Keep h0 h8 [] ∧ own_O Z n0 h8 ∧ Yc Z h8 ca kc (Int32.ofNat cs.length) (cs.map Value.int) ∧ Yb Z h8 t kb (Int32.ofNat (2 * cs.length)) (own_flat (cs.take k)) ∧ Go p e below E0 T8 m 8 #[(sr ca), (si (Int32.ofNat k)), (si (Int32.ofNat cs.length)), (sr t), (si (Int32.ofNat k))] [] := ⟨cs.length, 0, Nat.zero_add _, T2, T2.heap, _, X2, rfl, N2, z3, K4, f5, f6, A1, fun tgt kq => go7 tgt kq⟩
  induction d generalizing k T8 h8 l8
  case zero =>
    have ek : k = cs.length := hk
    have go9 : Go p e below E0 T8 m 33 #[(sr ca), (si (Int32.ofNat k)), (si (Int32.ofNat cs.length)), (sr t), (si (Int32.ofNat k))] [(.ref t)] := fun tgt kq => go8 tgt (by
      refine XS.iload X8.here hx rfl (D 5 rfl) rfl ?_; refine XS.iloadN X8.here hx rfl (D 6 rfl) rfl ?_; refine XS.icmpYes X8.here hx rfl (pc0 := 11) (pc' := 32) rfl (D 7 rfl) rfl (flt (own_nlt (by omega) (by omega))).2.1 (by decide) (by decide) ?_; refine XS.aloadN X8.here hx rfl (D 8 rfl) rfl rfl ?_; exact kq)
    obtain ⟨fs, hr, hrun, hended, hW, hsame⟩ := X8.leave (v := some (.ref t)) (fun h => by rw [Bd.returns] at h; cases h)
    refine ⟨_, _, go9 _ ?_, hrun, hended, _, _, rfl, ?_, ⟨_, rfl⟩, hW, hsame.mono (by decide) (by decide)⟩
    · exact retOut X8 hx Bd.returns rfl (Or.inr (Or.inr (Or.inr (Or.inr ⟨rfl, rfl, rfl⟩)))) (D 9 rfl) hr
    · show QTB520 Z ca kc cs G fv h0 n0 _ T8.heap _
      rw [e8]
      exact ⟨t, kb, rfl, N8, K8, ge_t, hz_t, by have q := F8_2; rw [ek, List.take_length] at q; exact q⟩
  case succ d ih =>
    obtain ⟨cc, hcc⟩ : ∃ cc, cs[k]? = some cc := ⟨_, List.getElem?_eq_getElem (by omega)⟩
    have go10 : Go p e below E0 T8 m 19 #[(sr ca), (si (Int32.ofNat k)), (si (Int32.ofNat cs.length)), (sr t), (si (Int32.ofNat k))] [(.int (Int32.ofNat k)), (.ref ca), (.int (Int32.ofNat k)), (.ref t)] := fun tgt kq => go8 tgt (by
      refine XS.iload X8.here hx rfl (D 5 rfl) rfl ?_; refine XS.iloadN X8.here hx rfl (D 6 rfl) rfl ?_; refine XS.icmpNo X8.here hx rfl (D 7 rfl) rfl (tlt (own_lt (by omega) (by omega))).2.1 ?_; refine XS.aloadN X8.here hx rfl (D 10 rfl) rfl rfl ?_; refine XS.iload X8.here hx rfl (D 11 rfl) rfl ?_; refine XS.aloadN X8.here hx rfl (D 12 rfl) rfl rfl ?_; refine XS.iloadN X8.here hx rfl (D 13 rfl) rfl ?_; exact kq)
    obtain ⟨c11, Ar11, q11, S11, M11, Hh11, G11⟩ := id F8_1
    have hin11 : ¬ ((Int32.ofNat k) < 0 ∨ c11.slots.size ≤ ((Int32.ofNat k)).toNatClampNeg) := inb_of S11 ⟨own_nn (by omega), own_lt (by omega) (by omega)⟩
    have hat11 : c11.slots[((Int32.ofNat k)).toNatClampNeg]? = some (.int cc) := Hh11.at hin11 (by rw [own_cl (by omega)]; simp [hcc])
    have go12 : Go p e below E0 T8 m 20 #[(sr ca), (si (Int32.ofNat k)), (si (Int32.ofNat cs.length)), (sr t), (si (Int32.ofNat k))] [(.int cc), (.int (Int32.ofNat k)), (.ref t)] := fun tgt kq => go10 tgt (by
      refine X8.caload hx (j := (Int32.ofNat k)) (v := (.int cc)) (by rw [e8]; exact Ar11.1) (State.isArrayOf_alike hZ.alike Ar11.2.1) Ar11.2.2 hin11 hat11 (g := (mkF m 19 #[(sr ca), (si (Int32.ofNat k)), (si (Int32.ofNat cs.length)), (sr t), (si (Int32.ofNat k))] [(.int (Int32.ofNat k)), (.ref ca), (.int (Int32.ofNat k)), (.ref t)])) rfl rfl (D 14 rfl) _ ?_; exact kq)
    obtain ⟨_, T13, L13, X13, hQ13, go13⟩ := own_cS X8 hx hZ hown (wd hw 275 rfl) (wd hw 276 rfl) (wd hw 26 rfl) (wd hw 277 rfl) (by decide) (W := 0) (rmPU l Z a0 hw [] t kb cs.length k (cs.take k) cc G fv h8 n0 z8 F8_2 ge_t (by rw [List.length_take]; omega) (by omega) (by omega) W0 F8_0) (by decide) (by decide) e8 (by decide) (by decide) go12 hml.symm (argsL := [(.ref t), (.int (Int32.ofNat k)), (.int cc)]) (rest := []) (lenOf pd_3 rfl) rfl rfl rfl (D 15 rfl)
    obtain ⟨rfl, N13q, Kp, Ap⟩ := hQ13
    have N13 := Fr.app N8 N13q
    have z14 : n0 ≤ T13.heap.size := Nat.le_trans z8 Kp.1
    have K15 : Keep h0 T13.heap [] := K8.trans Kp (allS (Or.inr hz_t) all0)
    have go16 : Go p e below E0 T13 m 8 #[(sr ca), (si ((Int32.ofNat k) + (1 : Int32))), (si (Int32.ofNat cs.length)), (sr t), (si ((Int32.ofNat k) + (1 : Int32)))] [] := fun tgt kq => go13 tgt (by
      refine XS.iinc X13.here hx rfl (D 16 rfl) rfl (l' := #[(sr ca), (si ((Int32.ofNat k) + (1 : Int32))), (si (Int32.ofNat cs.length)), (sr t), (si (Int32.ofNat k))]) rfl ?_; refine XS.iinc X13.here hx rfl (D 17 rfl) rfl (l' := #[(sr ca), (si ((Int32.ofNat k) + (1 : Int32))), (si (Int32.ofNat cs.length)), (sr t), (si ((Int32.ofNat k) + (1 : Int32)))]) rfl ?_; refine XS.goto X13.here hx rfl (pc0 := 29) (pc' := 8) rfl (D 18 rfl) (by decide) (by decide) ?_; exact kq)
    have f17 : own_O Z n0 T13.heap := (F8_0.keep Kp (allS ge_t all0))
    have f18 : Yc Z T13.heap ca kc (Int32.ofNat cs.length) (cs.map Value.int) := (F8_1.keep Kp (ninS ne_ca_t nin0))
    exact ih (k + 1) (by omega) _ _ _ X13 rfl N13 z14 K15 f17 f18 (by rw [own_take_snoc hcc]; exact Ap) (by rw [own_succ] at go16; exact go16)
theorem ef_CM520 (m : MethodId) (x0 : Addr) (x1 : Int32) (x2 : Addr) (x3 : Int32) (x4 : Int32) : entryFrame m #[(.ref x0), (.int x1), (.ref x2), (.int x3), (.int x4)] 7 = mkF m 0 #[.val (.ref x0), .val (.int x1), .val (.ref x2), .val (.int x3), .val (.int x4), .unset, .unset] [] := by first | (simp [entryFrame, mkF, argsToLocals, Value.category, maxLocals]; done) | rfl
def QCM520 (Z : State) (ca : Addr) (kc : ClassId) (cs : List Int32) (ba : Addr) (kb : ClassId) (h0 : Heap) (n0 : Nat) (v : Option Value) (h : Heap) (L : List Loc) : Prop := ∃ r : Int32, v = some (.int r) ∧ Fr n0 L ∧ Keep h0 h [ba] ∧ ((r = (Int32.ofNat cs.length) ∧ own_l1 cs = true ∧ Yb Z h ba kb (Int32.ofNat cs.length) (own_lats cs)) ∨ ∃ k cc, r = (Int32.ofNat k) ∧ k < cs.length ∧ cs[k]? = some cc ∧ (255 : Int32) < cc)
abbrev RmCM520 : Room := ({ frames := 0, cells := 0, slots := 0, locals := 0 } : Room)
theorem rmCM520 (l : Launch) (Z : State) (a0 : Array Value) (hw : Tb a0 Z) (ws : List Jvm.Cond) (ca : Addr) (kc : ClassId) (cs : List Int32) (ba : Addr) (kb : ClassId) (h0 : Heap) (n0 : Nat) (Z0 : n0 ≤ h0.size) (Ac : Yc Z h0 ca kc (Int32.ofNat cs.length) (cs.map Value.int)) (hl : cs.length ≤ 520) (A0 : Yb Z h0 ba kb (Int32.ofNat cs.length) []) (gb : n0 ≤ ba) (nab : ca ≠ ba) :
    Met l Z h0 (⟨"java/lang/StringUTF16", "compress", "([CI[BII)I"⟩ : MethodName) jdk_52_method_21_code 7 (some .int) RmCM520 ws #[(.ref ca), (.int (0 : Int32)), (.ref ba), (.int (0 : Int32)), (.int (Int32.ofNat cs.length))] (QCM520 Z ca kc cs ba kb h0 n0) := by
  refine MetFree.of_bodySF (plainFor_of_name pn_0) hisR ?_
  intro p e s m args below meth c s₁ Bd hml0 hP hK
  obtain ⟨rfl, hZ, hh⟩ := hP
  have hx := Bd.exec
  have hby := Bd.bytes
  have D := dl hby d6_
  have hml : c.maxLocals = 7 := hml0
  have hown : s.vm.findClass "java/lang/StringUTF16" = some m.cls := findClass_of_methodNamed Bd.named
  have hnm := (name_of_methodNamed Bd.named Bd.method).1
  have X0 : Stand p l e RmCM520 s m #[(.ref ca), (.int (0 : Int32)), (.ref ba), (.int (0 : Int32)), (.int (Int32.ofNat cs.length))] below meth c s₁ [] 0 0 := Stand.of_body Bd
  have e0 : s₁.heap = h0 := by rw [← hh, Bd.state]; rfl
  have N0 := Fr.nil n0
  obtain ⟨E0, hE0⟩ : ∃ z, z = s₁.setTop (entryFrame m #[(.ref ca), (.int (0 : Int32)), (.ref ba), (.int (0 : Int32)), (.int (Int32.ofNat cs.length))] 7) := ⟨_, rfl⟩
  rw [← hE0]
  have go0 : Go p e below E0 s₁ m 0 #[(sr ca), (si 0), (sr ba), (si 0), (si (Int32.ofNat cs.length)), .unset, .unset] [] := fun tgt kq => by rw [hE0]; exact castTop (ef_CM520 m ca (0 : Int32) ba (0 : Int32) (Int32.ofNat cs.length)) kq
  have go1 : Go p e below E0 s₁ m 3 #[(sr ca), (si 0), (sr ba), (si 0), (si (Int32.ofNat cs.length)), (si 0), .unset] [] := fun tgt kq => go0 tgt (by
    refine XS.iconst X0.here hx rfl (D 0 rfl) ?_; refine XS.istore X0.here hx rfl (D 1 rfl) rfl (l' := #[(sr ca), (si 0), (sr ba), (si 0), (si (Int32.ofNat cs.length)), (si 0), .unset]) rfl ?_; exact kq)
  obtain ⟨d, k, hk, T2, h2, l2, us6, X2, e2, N2, z2, K2, F2_0, F2_1, al, hus6, go2⟩ : ∃ (d k : Nat), k + d = cs.length ∧ ∃ (T2 : State) (h2 : Heap) (l2 : List Loc) (us6 : Slot), Stand p l e RmCM520 s m #[(.ref ca), (.int (0 : Int32)), (.ref ba), (.int (0 : Int32)), (.int (Int32.ofNat cs.length))] below meth c T2 l2 0 0 ∧ T2.heap = h2 ∧ Fr n0 l2 ∧ n0 ≤ h2.size ∧ Keep h0 h2 [ba] ∧ Yc Z h2 ca kc (Int32.ofNat cs.length) (cs.map Value.int) ∧ Yb Z h2 ba kb (Int32.ofNat cs.length) (own_lats (cs.take k)) ∧ (own_l1 (cs.take k) = true) ∧ (us6 = .unset ∨ ∃ z, us6 = si z) ∧ Go p e below E0 T2 m 3 #[(sr ca), (si (Int32.ofNat k)), (sr ba), (si (Int32.ofNat k)), (si (Int32.ofNat cs.length)), (si (Int32.ofNat k)), us6] [] := ⟨cs.length, 0, Nat.zero_add _, s₁, h0, _, .unset, X0, e0, N0, Z0, (Keep.refl h0 [ba]), Ac, A0, rfl, Or.inl rfl, fun tgt kq => go1 tgt kq⟩
  induction d generalizing k T2 h2 l2 us6
  case zero =>
    have ek : k = cs.length := hk
    have go3 : Go p e below E0 T2 m 46 #[(sr ca), (si (Int32.ofNat k)), (sr ba), (si (Int32.ofNat k)), (si (Int32.ofNat cs.length)), (si (Int32.ofNat k)), us6] [(.int (Int32.ofNat cs.length))] := fun tgt kq => go2 tgt (by
      refine XS.iload X2.here hx rfl (D 2 rfl) rfl ?_; refine XS.iload X2.here hx rfl (D 3 rfl) rfl ?_; refine XS.icmpYes X2.here hx rfl (pc0 := 7) (pc' := 44) rfl (D 4 rfl) rfl (flt (own_nlt (by omega) (by omega))).2.1 (by decide) (by decide) ?_; refine XS.iload X2.here hx rfl (D 5 rfl) rfl ?_; exact kq)
    obtain ⟨fs, hr, hrun, hended, hW, hsame⟩ := X2.leave (v := some (.int (Int32.ofNat cs.length))) (fun h => by rw [Bd.returns] at h; cases h)
    refine ⟨_, _, go3 _ ?_, hrun, hended, _, _, rfl, ?_, ⟨_, rfl⟩, hW, hsame.mono (by decide) (by decide)⟩
    · exact retOut X2 hx Bd.returns rfl (Or.inl ⟨rfl, Or.inl rfl, _, rfl⟩) (D 6 rfl) hr
    · show QCM520 Z ca kc cs ba kb h0 n0 _ T2.heap _
      rw [e2]
      exact ⟨_, rfl, N2, K2, Or.inl ⟨rfl, by have q := al; rw [ek, List.take_length] at q; exact q, by have q := F2_1; rw [ek, List.take_length] at q; exact q⟩⟩
  case succ d ih =>
    obtain ⟨cc, hcc⟩ : ∃ cc, cs[k]? = some cc := ⟨_, List.getElem?_eq_getElem (by omega)⟩
    have go4 : Go p e below E0 T2 m 12 #[(sr ca), (si (Int32.ofNat k)), (sr ba), (si (Int32.ofNat k)), (si (Int32.ofNat cs.length)), (si (Int32.ofNat k)), us6] [(.int (Int32.ofNat k)), (.ref ca)] := fun tgt kq => go2 tgt (by
      refine XS.iload X2.here hx rfl (D 2 rfl) rfl ?_; refine XS.iload X2.here hx rfl (D 3 rfl) rfl ?_; refine XS.icmpNo X2.here hx rfl (D 4 rfl) rfl (tlt (own_lt (by omega) (by omega))).2.1 ?_; refine XS.aloadN X2.here hx rfl (D 7 rfl) rfl rfl ?_; refine XS.iloadN X2.here hx rfl (D 8 rfl) rfl ?_; exact kq)
    obtain ⟨c5, Ar5, q5, S5, M5, Hh5, G5⟩ := id F2_0
    have hin5 : ¬ ((Int32.ofNat k) < 0 ∨ c5.slots.size ≤ ((Int32.ofNat k)).toNatClampNeg) := inb_of S5 ⟨own_nn (by omega), own_lt (by omega) (by omega)⟩
    have hat5 : c5.slots[((Int32.ofNat k)).toNatClampNeg]? = some (.int cc) := Hh5.at hin5 (by rw [own_cl (by omega)]; simp [hcc])
    have go6 : Go p e below E0 T2 m 20 #[(sr ca), (si (Int32.ofNat k)), (sr ba), (si (Int32.ofNat k)), (si (Int32.ofNat cs.length)), (si (Int32.ofNat k)), (si cc)] [(.int 255), (.int cc)] := fun tgt kq => go4 tgt (by
      refine X2.caload hx (j := (Int32.ofNat k)) (v := (.int cc)) (by rw [e2]; exact Ar5.1) (State.isArrayOf_alike hZ.alike Ar5.2.1) Ar5.2.2 hin5 hat5 (g := (mkF m 12 #[(sr ca), (si (Int32.ofNat k)), (sr ba), (si (Int32.ofNat k)), (si (Int32.ofNat cs.length)), (si (Int32.ofNat k)), us6] [(.int (Int32.ofNat k)), (.ref ca)])) rfl rfl (D 9 rfl) _ ?_; refine XS.istore X2.here hx rfl (D 10 rfl) rfl (l' := #[(sr ca), (si (Int32.ofNat k)), (sr ba), (si (Int32.ofNat k)), (si (Int32.ofNat cs.length)), (si (Int32.ofNat k)), (si cc)]) (by rcases hus6 with rfl | ⟨_, rfl⟩ <;> rfl) ?_; refine XS.iload X2.here hx rfl (D 11 rfl) rfl ?_; refine XS.sipush X2.here hx rfl (D 12 rfl) ?_; exact kq)
    by_cases u0 : (255 : Int32) < cc
    · have go7 : Go p e below E0 T2 m 25 #[(sr ca), (si (Int32.ofNat k)), (sr ba), (si (Int32.ofNat k)), (si (Int32.ofNat cs.length)), (si (Int32.ofNat k)), (si cc)] [(.int (Int32.ofNat k))] := fun tgt kq => go6 tgt (by
        refine XS.icmpNo X2.here hx rfl (D 13 rfl) rfl (tlt u0).2.2.2 ?_; refine XS.iload X2.here hx rfl (D 14 rfl) rfl ?_; exact kq)
      obtain ⟨fs, hr, hrun, hended, hW, hsame⟩ := X2.leave (v := some (.int (Int32.ofNat k))) (fun h => by rw [Bd.returns] at h; cases h)
      refine ⟨_, _, go7 _ ?_, hrun, hended, _, _, rfl, ?_, ⟨_, rfl⟩, hW, hsame.mono (by decide) (by decide)⟩
      · exact retOut X2 hx Bd.returns rfl (Or.inl ⟨rfl, Or.inl rfl, _, rfl⟩) (D 15 rfl) hr
      · show QCM520 Z ca kc cs ba kb h0 n0 _ T2.heap _
        rw [e2]
        exact ⟨_, rfl, N2, K2, Or.inr ⟨k, cc, rfl, by omega, hcc, u0⟩⟩
    · have hl2 : (own_lats (cs.take k)).length = k := by rw [own_lats_len, List.length_take]; omega
      have go8 : Go p e below E0 T2 m 31 #[(sr ca), (si (Int32.ofNat k)), (sr ba), (si (Int32.ofNat k)), (si (Int32.ofNat cs.length)), (si (Int32.ofNat k)), (si cc)] [(.int (cc.toInt8.toInt32)), (.int (Int32.ofNat k)), (.ref ba)] := fun tgt kq => go6 tgt (by
        refine XS.icmpYes X2.here hx rfl (pc0 := 20) (pc' := 26) rfl (D 13 rfl) rfl (flt u0).2.2.2 (by decide) (by decide) ?_; refine XS.aloadN X2.here hx rfl (D 16 rfl) rfl rfl ?_; refine XS.iloadN X2.here hx rfl (D 17 rfl) rfl ?_; refine XS.iload X2.here hx rfl (D 18 rfl) rfl ?_; refine XS.i2b X2.here hx rfl (D 19 rfl) rfl ?_; exact kq)
      have p9 : Yb Z h2 ba kb (Int32.ofNat cs.length) ((own_lats (cs.take k)) ++ [(.int (0 : Int32))]) := F2_1.pad (pad_rep (own_lats (cs.take k)) (.int (0 : Int32)) 1)
      obtain ⟨c9, Ar9, q9, S9, M9, Hh9, G9⟩ := id p9
      obtain ⟨T9, h9, X9, e9, W9, st9⟩ := stB X2 hx hZ e2 Ar9 (j := (Int32.ofNat k)) (inb_of S9 ⟨own_nn (by omega), own_lt (by omega) (by omega)⟩) (g := (mkF m 31 #[(sr ca), (si (Int32.ofNat k)), (sr ba), (si (Int32.ofNat k)), (si (Int32.ofNat cs.length)), (si (Int32.ofNat k)), (si cc)] [(.int (cc.toInt8.toInt32)), (.int (Int32.ofNat k)), (.ref ba)])) rfl rfl (D 20 rfl)
      have z10 : n0 ≤ h9.size := Nat.le_trans z2 (Keep.of_wr W9).1
      have K11 : Keep h0 h9 [ba] := K2.wr W9 (Or.inl (List.mem_of_getElem? (i := 0) rfl))
      have N9 := Fr.snoc X9 N2 gb
      have f12 : Yb Z h9 ba kb (Int32.ofNat cs.length) ((own_lats (cs.take k)) ++ [(Value.int (own_lo cc))]) := (by rw [← own_push (own_lats (cs.take k)) (.int (0 : Int32)) (Value.int (own_lo cc))]; exact Arv.set Ar9 q9 S9 M9 Hh9 G9 (fits_nar_byte _) W9 (own_lats (cs.take k)).length (by rw [own_cl (by omega), hl2]) (by simp))
      have go9 : Go p e below E0 T9 m 32 #[(sr ca), (si (Int32.ofNat k)), (sr ba), (si (Int32.ofNat k)), (si (Int32.ofNat cs.length)), (si (Int32.ofNat k)), (si cc)] [] := fun a b => go8 a (st9 a b)
      have go13 : Go p e below E0 T9 m 3 #[(sr ca), (si ((Int32.ofNat k) + (1 : Int32))), (sr ba), (si ((Int32.ofNat k) + (1 : Int32))), (si (Int32.ofNat cs.length)), (si ((Int32.ofNat k) + (1 : Int32))), (si cc)] [] := fun tgt kq => go9 tgt (by
        refine XS.iinc X9.here hx rfl (D 21 rfl) rfl (l' := #[(sr ca), (si ((Int32.ofNat k) + (1 : Int32))), (sr ba), (si (Int32.ofNat k)), (si (Int32.ofNat cs.length)), (si (Int32.ofNat k)), (si cc)]) rfl ?_; refine XS.iinc X9.here hx rfl (D 22 rfl) rfl (l' := #[(sr ca), (si ((Int32.ofNat k) + (1 : Int32))), (sr ba), (si ((Int32.ofNat k) + (1 : Int32))), (si (Int32.ofNat cs.length)), (si (Int32.ofNat k)), (si cc)]) rfl ?_; refine XS.iinc X9.here hx rfl (D 23 rfl) rfl (l' := #[(sr ca), (si ((Int32.ofNat k) + (1 : Int32))), (sr ba), (si ((Int32.ofNat k) + (1 : Int32))), (si (Int32.ofNat cs.length)), (si ((Int32.ofNat k) + (1 : Int32))), (si cc)]) rfl ?_; refine XS.goto X9.here hx rfl (pc0 := 41) (pc' := 3) rfl (D 24 rfl) (by decide) (by decide) ?_; exact kq)
      have f14 : Yc Z h9 ca kc (Int32.ofNat cs.length) (cs.map Value.int) := (F2_0.other W9 nab)
      exact ih (k + 1) (by omega) _ _ _ _ X9 e9 N9 z10 K11 f14 (by rw [own_take_snoc hcc, own_lats_app]; exact f12) (by rw [own_take_snoc hcc, own_l1_app, al, own_l1_one u0]; rfl) (Or.inr ⟨_, rfl⟩) (by rw [own_succ] at go13; exact go13)
theorem pd_4 : parseMethodDescriptor "([CI[BII)I" = some ⟨[(.array .char), .int, (.array .byte), .int, .int], some .int⟩ := by decide +kernel
theorem pd_5 : parseMethodDescriptor "([CII)[B" = some ⟨[(.array .char), .int, .int], some (.array .byte)⟩ := by decide +kernel
theorem pd_6 : parseMethodDescriptor "([BI)C" = some ⟨[(.array .byte), .int], some .char⟩ := by decide +kernel
theorem ef_CP520 (m : MethodId) (x0 : Addr) (x1 : Int32) (x2 : Int32) : entryFrame m #[(.ref x0), (.int x1), (.int x2)] 6 = mkF m 0 #[.val (.ref x0), .val (.int x1), .val (.int x2), .unset, .unset, .unset] [] := by first | (simp [entryFrame, mkF, argsToLocals, Value.category, maxLocals]; done) | rfl
def QCP520 (Z : State) (ca : Addr) (kc : ClassId) (cs : List Int32) (G : Int32) (fv : Value) (h0 : Heap) (n0 : Nat) (v : Option Value) (h : Heap) (L : List Loc) : Prop := ∃ (t : Addr) (kb : ClassId), v = some (.ref t) ∧ Fr n0 L ∧ Keep h0 h [] ∧ n0 ≤ t ∧ h0.size ≤ t ∧ Yb Z h t kb (Int32.ofNat (own_k cs * cs.length)) (own_by cs)
abbrev RmCP520 : Room := ({ frames := 3, cells := 2, slots := 1560, locals := 40 } : Room)
theorem rmCP520 (l : Launch) (Z : State) (a0 : Array Value) (hw : Tb a0 Z) (ws : List Jvm.Cond) (ca : Addr) (kc : ClassId) (cs : List Int32) (G : Int32) (fv : Value) (h0 : Heap) (n0 : Nat) (Z0 : n0 ≤ h0.size) (Ac : Yc Z h0 ca kc (Int32.ofNat cs.length) (cs.map Value.int)) (hl : cs.length ≤ 520) (hwf : ∀ c ∈ cs, own_ch c) (W0 : own_W Z G fv) (O0 : own_O Z n0 h0) :
    Met l Z h0 (⟨"java/lang/StringUTF16", "compress", "([CII)[B"⟩ : MethodName) jdk_52_method_16_code 6 (some (.array .byte)) RmCP520 ws #[(.ref ca), (.int (0 : Int32)), (.int (Int32.ofNat cs.length))] (QCP520 Z ca kc cs G fv h0 n0) := by
  refine MetFree.of_bodySF (plainFor_of_name pn_0) hisR ?_
  intro p e s m args below meth c s₁ Bd hml0 hP hK
  obtain ⟨rfl, hZ, hh⟩ := hP
  have hx := Bd.exec
  have hby := Bd.bytes
  have D := dl hby d7_
  have hml : c.maxLocals = 6 := hml0
  have hown : s.vm.findClass "java/lang/StringUTF16" = some m.cls := findClass_of_methodNamed Bd.named
  have hnm := (name_of_methodNamed Bd.named Bd.method).1
  have X0 : Stand p l e RmCP520 s m #[(.ref ca), (.int (0 : Int32)), (.int (Int32.ofNat cs.length))] below meth c s₁ [] 0 0 := Stand.of_body Bd
  have e0 : s₁.heap = h0 := by rw [← hh, Bd.state]; rfl
  have N0 := Fr.nil n0
  obtain ⟨E0, hE0⟩ : ∃ z, z = s₁.setTop (entryFrame m #[(.ref ca), (.int (0 : Int32)), (.int (Int32.ofNat cs.length))] 6) := ⟨_, rfl⟩
  rw [← hE0]
  have go0 : Go p e below E0 s₁ m 0 #[(sr ca), (si 0), (si (Int32.ofNat cs.length)), .unset, .unset, .unset] [] := fun tgt kq => by rw [hE0]; exact castTop (ef_CP520 m ca (0 : Int32) (Int32.ofNat cs.length)) kq
  have go1 : Go p e below E0 s₁ m 1 #[(sr ca), (si 0), (si (Int32.ofNat cs.length)), .unset, .unset, .unset] [(.int (Int32.ofNat cs.length))] := fun tgt kq => go0 tgt (by
    refine XS.iloadN X0.here hx rfl (D 0 rfl) rfl ?_; exact kq)
  obtain ⟨T2, h2, k2, X2, e2, E2, A2, st2⟩ := newP X0 hx hZ (wd hw 28 rfl) e0 (g := (mkF m 1 #[(sr ca), (si 0), (si (Int32.ofNat cs.length)), .unset, .unset, .unset] [(.int (Int32.ofNat cs.length))])) rfl (D 1 rfl) rfl (own_nn (by omega)) (cap := 520) (by rw [own_cl (by omega)]; omega) (by decide) (by decide) (by decide)
  obtain ⟨ba, g2⟩ : ∃ z, z = h0.size := ⟨_, rfl⟩
  rw [← g2] at A2 st2
  have ne_ca_ba : ca ≠ ba := Nat.ne_of_lt (Nat.lt_of_lt_of_le Ac.lt (Nat.le_of_eq g2.symm))
  have ge_ba : n0 ≤ ba := Nat.le_trans Z0 (Nat.le_of_eq g2.symm)
  have hz_ba : h0.size ≤ ba := Nat.le_trans (Keep.refl h0 []).1 (Nat.le_of_eq g2.symm)
  have z3 : n0 ≤ h2.size := Nat.le_trans Z0 E2.1
  have K4 : Keep h0 h2 [] := (Keep.refl h0 []).ext E2
  have V2 : Yb Z h2 ba k2 (Int32.ofNat cs.length) [] := Arv.new A2 (own_nn (by omega))
  have go2 : Go p e below E0 T2 m 3 #[(sr ca), (si 0), (si (Int32.ofNat cs.length)), .unset, .unset, .unset] [(.ref ba)] := fun a b => go1 a (st2 a b)
  have f5 : Yc Z h2 ca kc (Int32.ofNat cs.length) (cs.map Value.int) := (Ac.ext E2)
  have go6 : Go p e below E0 T2 m 9 #[(sr ca), (si 0), (si (Int32.ofNat cs.length)), (sr ba), .unset, .unset] [(.int (Int32.ofNat cs.length)), (.int 0), (.ref ba), (.int 0), (.ref ca)] := fun tgt kq => go2 tgt (by
    refine XS.astoreN X2.here hx rfl (D 2 rfl) rfl rfl (l' := #[(sr ca), (si 0), (si (Int32.ofNat cs.length)), (sr ba), .unset, .unset]) rfl ?_; refine XS.aloadN X2.here hx rfl (D 3 rfl) rfl rfl ?_; refine XS.iloadN X2.here hx rfl (D 4 rfl) rfl ?_; refine XS.aloadN X2.here hx rfl (D 5 rfl) rfl rfl ?_; refine XS.iconst X2.here hx rfl (D 6 rfl) ?_; refine XS.iloadN X2.here hx rfl (D 7 rfl) rfl ?_; exact kq)
  obtain ⟨_, T7, L7, X7, hQ7, go7⟩ := own_cS X2 hx hZ hown (wd hw 29 rfl) (wd hw 30 rfl) (wd hw 26 rfl) (wd hw 31 rfl) (by decide) (W := 0) (rmCM520 l Z a0 hw [] ca kc cs ba k2 h2 n0 z3 f5 hl V2 ge_ba ne_ca_ba) (by decide) (by decide) e2 (by decide) (by decide) go6 hml.symm (argsL := [(.ref ca), (.int 0), (.ref ba), (.int 0), (.int (Int32.ofNat cs.length))]) (rest := []) (lenOf pd_4 rfl) rfl rfl rfl (D 8 rfl)
  obtain ⟨r, rfl, N7q, Kc, hr⟩ := hQ7
  have N7 := Fr.app N0 N7q
  have z8 : n0 ≤ T7.heap.size := Nat.le_trans z3 Kc.1
  have K9 : Keep h0 T7.heap [] := K4.trans Kc (allS (Or.inr hz_ba) all0)
  have go10 : Go p e below E0 T7 m 17 #[(sr ca), (si 0), (si (Int32.ofNat cs.length)), (sr ba), (si r), .unset] [(.int (Int32.ofNat cs.length)), (.int r)] := fun tgt kq => go7 tgt (by
    refine XS.istore X7.here hx rfl (D 9 rfl) rfl (l' := #[(sr ca), (si 0), (si (Int32.ofNat cs.length)), (sr ba), (si r), .unset]) rfl ?_; refine XS.iload X7.here hx rfl (D 10 rfl) rfl ?_; refine XS.iloadN X7.here hx rfl (D 11 rfl) rfl ?_; exact kq)
  rcases hr with ⟨rfl, h1, Ab⟩ | ⟨k, cc, rfl, hk, hcc, hbig⟩
  · have go11 : Go p e below E0 T7 m 58 #[(sr ca), (si 0), (si (Int32.ofNat cs.length)), (sr ba), (si (Int32.ofNat cs.length)), .unset] [(.ref ba)] := fun tgt kq => go10 tgt (by
      refine XS.icmpYes X7.here hx rfl (pc0 := 17) (pc' := 57) rfl (D 12 rfl) rfl (teq rfl).1 (by decide) (by decide) ?_; refine XS.aloadN X7.here hx rfl (D 13 rfl) rfl rfl ?_; exact kq)
    obtain ⟨fs, hr, hrun, hended, hW, hsame⟩ := X7.leave (v := some (.ref ba)) (fun h => by rw [Bd.returns] at h; cases h)
    refine ⟨_, _, go11 _ ?_, hrun, hended, _, _, rfl, ?_, ⟨_, rfl⟩, hW, hsame.mono (by decide) (by decide)⟩
    · exact retOut X7 hx Bd.returns rfl (Or.inr (Or.inr (Or.inr (Or.inr ⟨rfl, rfl, rfl⟩)))) (D 14 rfl) hr
    · show QCP520 Z ca kc cs G fv h0 n0 _ T7.heap _
      exact ⟨ba, k2, rfl, N7, K9, ge_ba, hz_ba, by rw [own_by, own_k, if_pos h1, if_pos h1, Nat.one_mul]; exact Ab⟩
  · have hnl : ¬ own_l1 cs = true := fun q => own_l1_iff.mp q _ (List.mem_of_getElem? hcc) hbig
    have f12 : Yc Z T7.heap ca kc (Int32.ofNat cs.length) (cs.map Value.int) := (f5.keep Kc (ninS ne_ca_ba nin0))
    have f13 : own_O Z n0 T7.heap := ((O0.ext E2).keep Kc (allS ge_ba all0))
    have go14 : Go p e below E0 T7 m 23 #[(sr ca), (si 0), (si (Int32.ofNat cs.length)), (sr ba), (si (Int32.ofNat k)), .unset] [(.int (Int32.ofNat cs.length)), (.int 0), (.ref ca)] := fun tgt kq => go10 tgt (by
      refine XS.icmpNo X7.here hx rfl (D 12 rfl) rfl (feq (own_ne (by omega) (by omega) (by omega))).1 ?_; refine XS.aloadN X7.here hx rfl (D 15 rfl) rfl rfl ?_; refine XS.iloadN X7.here hx rfl (D 16 rfl) rfl ?_; refine XS.iloadN X7.here hx rfl (D 17 rfl) rfl ?_; exact kq)
    obtain ⟨_, T15, L15, X15, hQ15, go15⟩ := own_cS X7 hx hZ hown (wd hw 265 rfl) (wd hw 266 rfl) (wd hw 26 rfl) (wd hw 267 rfl) (by decide) (W := 0) (rmTB520 l Z a0 hw [] ca kc cs G fv T7.heap n0 z8 f12 hl W0 f13) (by decide) (by decide) rfl (by decide) (by decide) go14 hml.symm (argsL := [(.ref ca), (.int 0), (.int (Int32.ofNat cs.length))]) (rest := []) (lenOf pd_5 rfl) rfl rfl rfl (D 18 rfl)
    obtain ⟨t, kt, rfl, N15q, Kt, gt, zt, At⟩ := hQ15
    have N15 := Fr.app N7 N15q
    have z16 : n0 ≤ T15.heap.size := Nat.le_trans z8 Kt.1
    have K17 : Keep h0 T15.heap [] := K9.trans Kt all0
    have f18 : own_O Z n0 T15.heap := (f13.keep Kt all0)
    have go19 : Go p e below E0 T15 m 32 #[(sr ca), (si 0), (si (Int32.ofNat cs.length)), (sr ba), (si (Int32.ofNat k)), (sr t)] [(.int (Int32.ofNat k)), (.ref t)] := fun tgt kq => go15 tgt (by
      refine XS.astore X15.here hx rfl (D 19 rfl) rfl rfl (l' := #[(sr ca), (si 0), (si (Int32.ofNat cs.length)), (sr ba), (si (Int32.ofNat k)), (sr t)]) rfl ?_; refine XS.aload X15.here hx rfl (D 20 rfl) rfl rfl ?_; refine XS.iload X15.here hx rfl (D 21 rfl) rfl ?_; exact kq)
    obtain ⟨_, T20, L20, X20, hQ20, go20⟩ := own_cS X15 hx hZ hown (wd hw 281 rfl) (wd hw 282 rfl) (wd hw 26 rfl) (wd hw 283 rfl) (by decide) (W := 0) (rmGC l Z a0 hw [] t kt (Int32.ofNat (2 * cs.length)) (own_flat cs) (Int32.ofNat k) (own_b0 cc) (own_b1 cc) cc G fv T15.heap n0 z16 At (by rw [own_shl (by omega)]; exact ⟨own_nn (by omega), own_lt (by omega) (by omega)⟩) (by rw [own_shl (by omega), own_cl (by omega)]; exact (own_flat_at hcc).1) (by rw [own_shl (by omega), own_succ]; exact ⟨own_nn (by omega), own_lt (by omega) (by omega)⟩) (by rw [own_shl (by omega), own_succ, own_cl (by omega)]; exact (own_flat_at hcc).2) (own_utfc (hwf _ (List.mem_of_getElem? hcc))) W0 f18) (by decide) (by decide) rfl (by decide) (by decide) go19 hml.symm (argsL := [(.ref t), (.int (Int32.ofNat k))]) (rest := []) (lenOf pd_6 rfl) rfl rfl rfl (D 22 rfl)
    obtain ⟨rfl, rfl, e20⟩ := hQ20
    have N20 := Fr.app N15 (Fr.nil n0)
    have go21 : Go p e below E0 T20 m 56 #[(sr ca), (si 0), (si (Int32.ofNat cs.length)), (sr ba), (si (Int32.ofNat k)), (sr t)] [(.ref t)] := fun tgt kq => go20 tgt (by
      refine XS.sipush X20.here hx rfl (D 23 rfl) ?_; refine XS.icmpYes X20.here hx rfl (pc0 := 38) (pc' := 54) rfl (D 24 rfl) rfl (tlt hbig).2.2.1 (by decide) (by decide) ?_; refine XS.aload X20.here hx rfl (D 25 rfl) rfl rfl ?_; exact kq)
    obtain ⟨fs, hr, hrun, hended, hW, hsame⟩ := X20.leave (v := some (.ref t)) (fun h => by rw [Bd.returns] at h; cases h)
    refine ⟨_, _, go21 _ ?_, hrun, hended, _, _, rfl, ?_, ⟨_, rfl⟩, hW, hsame.mono (by decide) (by decide)⟩
    · exact retOut X20 hx Bd.returns rfl (Or.inr (Or.inr (Or.inr (Or.inr ⟨rfl, rfl, rfl⟩)))) (D 26 rfl) hr
    · show QCP520 Z ca kc cs G fv h0 n0 _ T20.heap _
      rw [e20]
      exact ⟨t, kt, rfl, N20, K17, gt, Nat.le_trans K9.1 zt, by rw [own_by, own_k, if_neg hnl, if_neg hnl]; exact At⟩
theorem pd_7 : parseMethodDescriptor "([BI)B" = some ⟨[(.array .byte), .int], some .byte⟩ := by decide +kernel
theorem pn_8 : plainName "java/lang/String" = true := by first | (simp [plainName, overriddenIn]; done) | decide +kernel
theorem ef_V520 (m : MethodId) (x0 : Addr) (x1 : Addr) (x2 : Int32) (x3 : Int32) : entryFrame m #[(.ref x0), (.ref x1), (.int x2), (.int x3), .null] 6 = mkF m 0 #[.val (.ref x0), .val (.ref x1), .val (.int x2), .val (.int x3), .val .null, .unset] [] := by first | (simp [entryFrame, mkF, argsToLocals, Value.category, maxLocals]; done) | rfl
def QV520 (Z : State) (x : Addr) (ca : Addr) (kc : ClassId) (cs : List Int32) (G : Int32) (fv : Value) (h0 : Heap) (n0 : Nat) (v : Option Value) (h : Heap) (L : List Loc) : Prop := v = none ∧ Fr n0 L ∧ Keep h0 h [x] ∧ own_S Z h x cs
abbrev RmV520 : Room := ({ frames := 4, cells := 2, slots := 1560, locals := 57 } : Room)
theorem rmV520 (l : Launch) (Z : State) (a0 : Array Value) (hw : Tb a0 Z) (ws : List Jvm.Cond) (x : Addr) (ca : Addr) (kc : ClassId) (cs : List Int32) (G : Int32) (fv : Value) (h0 : Heap) (n0 : Nat) (Z0 : n0 ≤ h0.size) (Ex : E1_ Z h0 x) (gx : n0 ≤ x) (Fv : F6_ Z h0 x .null) (Fc : F5_ Z h0 x (.int (0 : Int32))) (Ac : Yc Z h0 ca kc (Int32.ofNat cs.length) (cs.map Value.int)) (hl : cs.length ≤ 520) (hp : 1 ≤ cs.length) (hwf : ∀ c ∈ cs, own_ch c) (W0 : own_W Z G fv) (O0 : own_O Z n0 h0) :
    Met l Z h0 (⟨"java/lang/String", "<init>", "([CIILjava/lang/Void;)V"⟩ : MethodName) jdk_42_method_149_code 6 none RmV520 ws #[(.ref x), (.ref ca), (.int (0 : Int32)), (.int (Int32.ofNat cs.length)), .null] (QV520 Z x ca kc cs G fv h0 n0) := by
  refine MetFree.of_bodySF (plainFor_of_name pn_8) hisR ?_
  intro p e s m args below meth c s₁ Bd hml0 hP hK
  obtain ⟨rfl, hZ, hh⟩ := hP
  have hx := Bd.exec
  have hby := Bd.bytes
  have D := dl hby d8_
  have hml : c.maxLocals = 6 := hml0
  have hown : s.vm.findClass "java/lang/String" = some m.cls := findClass_of_methodNamed Bd.named
  have hnm := (name_of_methodNamed Bd.named Bd.method).1
  have X0 : Stand p l e RmV520 s m #[(.ref x), (.ref ca), (.int (0 : Int32)), (.int (Int32.ofNat cs.length)), .null] below meth c s₁ [] 0 0 := Stand.of_body Bd
  have e0 : s₁.heap = h0 := by rw [← hh, Bd.state]; rfl
  have N0 := Fr.nil n0
  obtain ⟨E0, hE0⟩ : ∃ z, z = s₁.setTop (entryFrame m #[(.ref x), (.ref ca), (.int (0 : Int32)), (.int (Int32.ofNat cs.length)), .null] 6) := ⟨_, rfl⟩
  rw [← hE0]
  have go0 : Go p e below E0 s₁ m 0 #[(sr x), (sr ca), (si 0), (si (Int32.ofNat cs.length)), .val .null, .unset] [] := fun tgt kq => by rw [hE0]; exact castTop (ef_V520 m x ca (0 : Int32) (Int32.ofNat cs.length)) kq
  have go1 : Go p e below E0 s₁ m 1 #[(sr x), (sr ca), (si 0), (si (Int32.ofNat cs.length)), .val .null, .unset] [(.ref x)] := fun tgt kq => go0 tgt (by
    refine XS.aloadN X0.here hx rfl (D 0 rfl) rfl rfl ?_; exact kq)
  obtain ⟨T2, X2, e2, st2⟩ := initO X0 hx hZ hown (wd hw 20 rfl) (wd hw 21 rfl) (wd hw 22 rfl) e0 (g := (mkF m 1 #[(sr x), (sr ca), (si 0), (si (Int32.ofNat cs.length)), .val .null, .unset] [(.ref x)])) rfl (by rw [hml]; rfl) rfl (D 1 rfl) (by decide) (W := 0) (by show 2 * 0 + _ ≤ _; exact Nat.le_of_eq rfl) (by decide)
  have go2 : Go p e below E0 T2 m 4 #[(sr x), (sr ca), (si 0), (si (Int32.ofNat cs.length)), .val .null, .unset] [] := fun a b => go1 a (st2 a b)
  have go3 : Go p e below E0 T2 m 27 #[(sr x), (sr ca), (si 0), (si (Int32.ofNat cs.length)), .val .null, .unset] [] := fun tgt kq => go2 tgt (by
    refine XS.iloadN X2.here hx rfl (D 2 rfl) rfl ?_; refine XS.ifYes X2.here hx rfl (pc0 := 5) (pc' := 27) rfl (D 3 rfl) rfl ((if0 _ _).trans (feq (own_ne (b := 0) (by omega) (by decide) (by omega))).2) (by decide) (by decide) ?_; exact kq)
  obtain ⟨T4, X4, e4, st4⟩ := getS2 X2 hx hZ hown (host := "") (Or.inl (wd hw 23 rfl)) Via.refl e2 (W0.1.ext O0.2) (g := (mkF m 27 #[(sr x), (sr ca), (si 0), (si (Int32.ofNat cs.length)), .val .null, .unset] [])) rfl (D 4 rfl)
  have go4 : Go p e below E0 T4 m 30 #[(sr x), (sr ca), (si 0), (si (Int32.ofNat cs.length)), .val .null, .unset] [(.int G)] := fun a b => go3 a (st4 a b)
  have go5 : Go p e below E0 T4 m 36 #[(sr x), (sr ca), (si 0), (si (Int32.ofNat cs.length)), .val .null, .unset] [(.int (Int32.ofNat cs.length)), (.int 0), (.ref ca)] := fun tgt kq => go4 tgt (by
    refine XS.ifNo X4.here hx rfl (D 5 rfl) rfl ((if0 _ _).trans (feq W0.2.1).1) ?_; refine XS.aloadN X4.here hx rfl (D 6 rfl) rfl rfl ?_; refine XS.iloadN X4.here hx rfl (D 7 rfl) rfl ?_; refine XS.iloadN X4.here hx rfl (D 8 rfl) rfl ?_; exact kq)
  obtain ⟨_, T6, L6, X6, hQ6, go6⟩ := own_cS X4 hx hZ hown (wd hw 24 rfl) (wd hw 25 rfl) (wd hw 26 rfl) (wd hw 27 rfl) (by decide) (W := 0) (rmCP520 l Z a0 hw [] ca kc cs G fv h0 n0 Z0 Ac hl hwf W0 O0) (by decide) (by decide) e4 (by decide) (by decide) go5 hml.symm (argsL := [(.ref ca), (.int 0), (.int (Int32.ofNat cs.length))]) (rest := []) (lenOf pd_5 rfl) rfl rfl rfl (D 9 rfl)
  obtain ⟨t, kb, rfl, N6q, Kc, gt, zt, Ab⟩ := hQ6
  have N6 := Fr.app N0 N6q
  have z7 : n0 ≤ T6.heap.size := Nat.le_trans Z0 Kc.1
  have K8 : Keep h0 T6.heap [x] := (Keep.refl h0 [x]).trans Kc all0
  have ne_x_t : x ≠ t := Nat.ne_of_lt (Nat.lt_of_lt_of_le Ex.lt zt)
  have go9 : Go p e below E0 T6 m 45 #[(sr x), (sr ca), (si 0), (si (Int32.ofNat cs.length)), .val .null, (sr t)] [(.int (Int32.ofNat cs.length)), (.ref t), (.ref x)] := fun tgt kq => go6 tgt (by
    refine XS.astore X6.here hx rfl (D 10 rfl) rfl rfl (l' := #[(sr x), (sr ca), (si 0), (si (Int32.ofNat cs.length)), .val .null, (sr t)]) rfl ?_; refine XS.aloadN X6.here hx rfl (D 11 rfl) rfl rfl ?_; refine XS.aload X6.here hx rfl (D 12 rfl) rfl rfl ?_; refine XS.iloadN X6.here hx rfl (D 13 rfl) rfl ?_; exact kq)
  obtain ⟨_, T10, L10, X10, hQ10, go10⟩ := own_cS X6 hx hZ hown (wd hw 32 rfl) (wd hw 33 rfl) (wd hw 26 rfl) (wd hw 34 rfl) (by decide) (W := 1) (rmCF l Z a0 hw [] t kb (Int32.ofNat (own_k cs * cs.length)) (own_by cs) (Int32.ofNat cs.length) (own_co cs) T6.heap n0 z7 Ab (own_cf (by omega) (by omega))) (by decide) (by decide) rfl (by decide) (by decide) go9 hml.symm (argsL := [(.ref t), (.int (Int32.ofNat cs.length))]) (rest := [(.ref x)]) (lenOf pd_7 rfl) rfl rfl rfl (D 14 rfl)
  obtain ⟨rfl, rfl, e10⟩ := hQ10
  have N10 := Fr.app N6 (Fr.nil n0)
  have f11 : F5_ Z T6.heap x (.int (0 : Int32)) := (Fc.keep Kc nin0)
  have f12 : E1_ Z T6.heap x := (Ex.keep Kc)
  obtain ⟨T13, h13, X13, e13, W13, st13⟩ := putF X10 hx hZ hown (host := "") (Or.inl (wd hw 35 rfl)) Via.refl e10 f11 f12 (Or.inr ⟨(wd hw 36 rfl), rfl, hnm⟩) (wd hw 10 rfl) (ty := .byte) (by decide) (own_co_narrow cs) (own_co_fit cs) (g := (mkF m 48 #[(sr x), (sr ca), (si 0), (si (Int32.ofNat cs.length)), .val .null, (sr t)] [(.int (own_co cs)), (.ref x)])) rfl rfl (D 15 rfl)
  have z14 : n0 ≤ h13.size := Nat.le_trans z7 (Keep.of_wr W13).1
  have K15 : Keep h0 h13 [x] := K8.wr W13 (Or.inl (List.mem_of_getElem? (i := 0) rfl))
  have N13 := Fr.snoc X13 N10 gx
  have f16 : F5_ Z h13 x (.int (own_co cs)) := (f11.same W13)
  have go13 : Go p e below E0 T13 m 51 #[(sr x), (sr ca), (si 0), (si (Int32.ofNat cs.length)), .val .null, (sr t)] [] := fun a b => go10 a (st13 a b)
  have go17 : Go p e below E0 T13 m 54 #[(sr x), (sr ca), (si 0), (si (Int32.ofNat cs.length)), .val .null, (sr t)] [(.ref t), (.ref x)] := fun tgt kq => go13 tgt (by
    refine XS.aloadN X13.here hx rfl (D 16 rfl) rfl rfl ?_; refine XS.aload X13.here hx rfl (D 17 rfl) rfl rfl ?_; exact kq)
  have f18 : F6_ Z h13 x .null := ((Fv.keep Kc nin0).other W13 (Or.inr (slot_ne (Or.inr (wd hw 38 rfl)) (Or.inr (wd hw 36 rfl)) (by decide) (t := (.array .byte)) (t' := .byte) (by decide) (by decide))))
  have f19 : E1_ Z h13 x := (f12.wr W13)
  obtain ⟨T20, h20, X20, e20, W20, st20⟩ := putF X13 hx hZ hown (host := "") (Or.inl (wd hw 37 rfl)) Via.refl e13 f18 f19 (Or.inr ⟨(wd hw 38 rfl), rfl, hnm⟩) (wd hw 10 rfl) (ty := (.array .byte)) (by decide) rfl rfl (g := (mkF m 54 #[(sr x), (sr ca), (si 0), (si (Int32.ofNat cs.length)), .val .null, (sr t)] [(.ref t), (.ref x)])) rfl rfl (D 18 rfl)
  have z21 : n0 ≤ h20.size := Nat.le_trans z14 (Keep.of_wr W20).1
  have K22 : Keep h0 h20 [x] := K15.wr W20 (Or.inl (List.mem_of_getElem? (i := 0) rfl))
  have N20 := Fr.snoc X20 N13 gx
  have f23 : F6_ Z h20 x (.ref t) := (f18.same W20)
  have go20 : Go p e below E0 T20 m 57 #[(sr x), (sr ca), (si 0), (si (Int32.ofNat cs.length)), .val .null, (sr t)] [] := fun a b => go17 a (st20 a b)
  have f24 : E1_ Z h20 x := (f19.wr W20)
  have f25 : F5_ Z h20 x (.int (own_co cs)) := (f16.other W20 (Or.inr (slot_ne (Or.inr (wd hw 36 rfl)) (Or.inr (wd hw 38 rfl)) (by decide) (t := .byte) (t' := (.array .byte)) (by decide) (by decide))))
  have f26 : Yb Z h20 t kb (Int32.ofNat (own_k cs * cs.length)) (own_by cs) := ((Ab.other W13 (Ne.symm ne_x_t)).other W20 (Ne.symm ne_x_t))
  obtain ⟨fs, hr, hrun, hended, hW, hsame⟩ := X20.leave (v := none) (fun _ => rfl)
  refine ⟨_, _, go20 _ ?_, hrun, hended, _, _, rfl, ?_, ⟨_, rfl⟩, hW, hsame.mono (by decide) (by decide)⟩
  · exact X20.returnOut hx Bd.returns (D 19 rfl) hr
  · show QV520 Z x ca kc cs G fv h0 n0 _ T20.heap _
    rw [e20]
    exact ⟨rfl, N20, K22, t, kb, f24, f23, f25, f26⟩
theorem pd_9 : parseMethodDescriptor "([CIILjava/lang/Void;)V" = some ⟨[(.array .char), .int, .int, (.object "java/lang/Void")], none⟩ := by decide +kernel
theorem ef_N520 (m : MethodId) (x0 : Addr) (x1 : Addr) : entryFrame m #[(.ref x0), (.ref x1)] 2 = mkF m 0 #[.val (.ref x0), .val (.ref x1)] [] := by first | (simp [entryFrame, mkF, argsToLocals, Value.category, maxLocals]; done) | rfl
def QN520 (Z : State) (x : Addr) (ca : Addr) (kc : ClassId) (cs : List Int32) (G : Int32) (fv : Value) (h0 : Heap) (n0 : Nat) (v : Option Value) (h : Heap) (L : List Loc) : Prop := v = none ∧ Fr n0 L ∧ Keep h0 h [x] ∧ own_S Z h x cs
abbrev RmN520 : Room := ({ frames := 5, cells := 2, slots := 1560, locals := 74 } : Room)
theorem rmN520 (l : Launch) (Z : State) (a0 : Array Value) (hw : Tb a0 Z) (ws : List Jvm.Cond) (x : Addr) (ca : Addr) (kc : ClassId) (cs : List Int32) (G : Int32) (fv : Value) (h0 : Heap) (n0 : Nat) (Z0 : n0 ≤ h0.size) (Ex : E1_ Z h0 x) (gx : n0 ≤ x) (Fv : F6_ Z h0 x .null) (Fc : F5_ Z h0 x (.int (0 : Int32))) (Ac : Yc Z h0 ca kc (Int32.ofNat cs.length) (cs.map Value.int)) (hl : cs.length ≤ 520) (hp : 1 ≤ cs.length) (hwf : ∀ c ∈ cs, own_ch c) (W0 : own_W Z G fv) (O0 : own_O Z n0 h0) :
    Met l Z h0 (⟨"java/lang/String", "<init>", "([C)V"⟩ : MethodName) jdk_42_method_3_code 2 none RmN520 ws #[(.ref x), (.ref ca)] (QN520 Z x ca kc cs G fv h0 n0) := by
  refine MetFree.of_bodySF (plainFor_of_name pn_8) hisR ?_
  intro p e s m args below meth c s₁ Bd hml0 hP hK
  obtain ⟨rfl, hZ, hh⟩ := hP
  have hx := Bd.exec
  have hby := Bd.bytes
  have D := dl hby d9_
  have hml : c.maxLocals = 2 := hml0
  have hown : s.vm.findClass "java/lang/String" = some m.cls := findClass_of_methodNamed Bd.named
  have hnm := (name_of_methodNamed Bd.named Bd.method).1
  have X0 : Stand p l e RmN520 s m #[(.ref x), (.ref ca)] below meth c s₁ [] 0 0 := Stand.of_body Bd
  have e0 : s₁.heap = h0 := by rw [← hh, Bd.state]; rfl
  have N0 := Fr.nil n0
  obtain ⟨E0, hE0⟩ : ∃ z, z = s₁.setTop (entryFrame m #[(.ref x), (.ref ca)] 2) := ⟨_, rfl⟩
  rw [← hE0]
  have go0 : Go p e below E0 s₁ m 0 #[(sr x), (sr ca)] [] := fun tgt kq => by rw [hE0]; exact castTop (ef_N520 m x ca) kq
  have go1 : Go p e below E0 s₁ m 4 #[(sr x), (sr ca)] [(.ref ca), (.int 0), (.ref ca), (.ref x)] := fun tgt kq => go0 tgt (by
    refine XS.aloadN X0.here hx rfl (D 0 rfl) rfl rfl ?_; refine XS.aloadN X0.here hx rfl (D 1 rfl) rfl rfl ?_; refine XS.iconst X0.here hx rfl (D 2 rfl) ?_; refine XS.aloadN X0.here hx rfl (D 3 rfl) rfl rfl ?_; exact kq)
  obtain ⟨c2, Ar2, q2, S2, M2, -, -⟩ := id Ac
  have go3 : Go p e below E0 s₁ m 6 #[(sr x), (sr ca)] [.null, (.int (Int32.ofNat cs.length)), (.int 0), (.ref ca), (.ref x)] := fun tgt kq => go1 tgt (by
    refine X0.arraylength hx (by rw [e0]; exact Ar2.1) (State.isArrayOf_alike hZ.alike Ar2.2.1) (g := (mkF m 4 #[(sr x), (sr ca)] [(.ref ca), (.int 0), (.ref ca), (.ref x)])) rfl rfl (D 4 rfl) _ ?_; rw [len_of S2 M2]; refine XS.aconstNull X0.here hx rfl (D 5 rfl) ?_; exact kq)
  obtain ⟨_, T4, L4, X4, hQ4, go4⟩ := own_cI X0 hx hZ hown (wd hw 16 rfl) (wd hw 17 rfl) (wd hw 11 rfl) (wd hw 19 rfl) rfl (by decide) (W := 0) (rmV520 l Z a0 hw [] x ca kc cs G fv h0 n0 Z0 Ex gx Fv Fc Ac hl hp hwf W0 O0) (by decide) (by decide) e0 (by decide) (by decide) go3 hml.symm (argsL := [(.ref ca), (.int 0), (.int (Int32.ofNat cs.length)), .null]) (rest := []) (lenOf pd_9 rfl) rfl rfl rfl (D 6 rfl)
  obtain ⟨rfl, N4q, K1, S1⟩ := hQ4
  have N4 := Fr.app N0 N4q
  have z5 : n0 ≤ T4.heap.size := Nat.le_trans Z0 K1.1
  have K6 : Keep h0 T4.heap [x] := (Keep.refl h0 [x]).trans K1 (allS (Or.inl (List.mem_of_getElem? (i := 0) rfl)) all0)
  obtain ⟨fs, hr, hrun, hended, hW, hsame⟩ := X4.leave (v := none) (fun _ => rfl)
  refine ⟨_, _, go4 _ ?_, hrun, hended, _, _, rfl, ?_, ⟨_, rfl⟩, hW, hsame.mono (by decide) (by decide)⟩
  · exact X4.returnOut hx Bd.returns (D 7 rfl) hr
  · show QN520 Z x ca kc cs G fv h0 n0 _ T4.heap _
    exact ⟨rfl, N4, K6, S1⟩
theorem pn_10 : plainName "jdk/internal/util/Preconditions" = true := by first | (simp [plainName, overriddenIn]; done) | decide +kernel
theorem ef_PC (m : MethodId) (x0 : Int32) (x1 : Int32) (x2 : Value) (hv2 : x2.isRef = true) : entryFrame m #[(.int x0), (.int x1), x2] 3 = mkF m 0 #[.val (.int x0), .val (.int x1), .val x2] [] := by
  rcases ref_cases hv2 with rfl | ⟨_, rfl⟩ <;> first | (simp [entryFrame, mkF, argsToLocals, Value.category, maxLocals]; done) | rfl
def QPC (Z : State) (i : Int32) (n : Int32) (fv : Value) (h0 : Heap) (n0 : Nat) (v : Option Value) (h : Heap) (L : List Loc) : Prop := v = some (.int i) ∧ L = [] ∧ h = h0
abbrev RmPC : Room := ({ frames := 0, cells := 0, slots := 0, locals := 0 } : Room)
theorem rmPC (l : Launch) (Z : State) (a0 : Array Value) (hw : Tb a0 Z) (ws : List Jvm.Cond) (i : Int32) (n : Int32) (fv : Value) (h0 : Heap) (n0 : Nat) (Z0 : n0 ≤ h0.size) (hfv : fv.isRef = true) (h1 : ¬ i < 0) (h2 : i < n) :
    Met l Z h0 (⟨"jdk/internal/util/Preconditions", "checkIndex", "(IILjava/util/function/BiFunction;)I"⟩ : MethodName) jdk_41_method_11_code 3 (some .int) RmPC ws #[(.int i), (.int n), fv] (QPC Z i n fv h0 n0) := by
  refine MetFree.of_bodySF (plainFor_of_name pn_10) hisR ?_
  intro p e s m args below meth c s₁ Bd hml0 hP hK
  obtain ⟨rfl, hZ, hh⟩ := hP
  have hx := Bd.exec
  have hby := Bd.bytes
  have D := dl hby d10_
  have hml : c.maxLocals = 3 := hml0
  have hown : s.vm.findClass "jdk/internal/util/Preconditions" = some m.cls := findClass_of_methodNamed Bd.named
  have hnm := (name_of_methodNamed Bd.named Bd.method).1
  have X0 : Stand p l e RmPC s m #[(.int i), (.int n), fv] below meth c s₁ [] 0 0 := Stand.of_body Bd
  have e0 : s₁.heap = h0 := by rw [← hh, Bd.state]; rfl
  have N0 := Fr.nil n0
  obtain ⟨E0, hE0⟩ : ∃ z, z = s₁.setTop (entryFrame m #[(.int i), (.int n), fv] 3) := ⟨_, rfl⟩
  rw [← hE0]
  have go0 : Go p e below E0 s₁ m 0 #[(si i), (si n), .val fv] [] := fun tgt kq => by rw [hE0]; exact castTop (ef_PC m i n fv hfv) kq
  have go1 : Go p e below E0 s₁ m 17 #[(si i), (si n), .val fv] [(.int i)] := fun tgt kq => go0 tgt (by
    refine XS.iloadN X0.here hx rfl (D 0 rfl) rfl ?_; refine XS.ifNo X0.here hx rfl (D 1 rfl) rfl ((if0 _ _).trans (flt h1).1) ?_; refine XS.iloadN X0.here hx rfl (D 2 rfl) rfl ?_; refine XS.iloadN X0.here hx rfl (D 3 rfl) rfl ?_; refine XS.icmpYes X0.here hx rfl (pc0 := 6) (pc' := 16) rfl (D 4 rfl) rfl (tlt h2).1 (by decide) (by decide) ?_; refine XS.iloadN X0.here hx rfl (D 5 rfl) rfl ?_; exact kq)
  obtain ⟨fs, hr, hrun, hended, hW, hsame⟩ := X0.leave (v := some (.int i)) (fun h => by rw [Bd.returns] at h; cases h)
  refine ⟨_, _, go1 _ ?_, hrun, hended, _, _, rfl, ?_, ⟨_, rfl⟩, hW, hsame.mono (by decide) (by decide)⟩
  · exact retOut X0 hx Bd.returns rfl (Or.inl ⟨rfl, Or.inl rfl, _, rfl⟩) (D 6 rfl) hr
  · show QPC Z i n fv h0 n0 _ s₁.heap _
    rw [e0]
    exact ⟨rfl, rfl, rfl⟩
theorem pd_11 : parseMethodDescriptor "(IILjava/util/function/BiFunction;)I" = some ⟨[.int, .int, (.object "java/util/function/BiFunction")], some .int⟩ := by decide +kernel
theorem ef_CI (m : MethodId) (x0 : Int32) (x1 : Int32) : entryFrame m #[(.int x0), (.int x1)] 2 = mkF m 0 #[.val (.int x0), .val (.int x1)] [] := by first | (simp [entryFrame, mkF, argsToLocals, Value.category, maxLocals]; done) | rfl
def QCI (Z : State) (i : Int32) (n : Int32) (G : Int32) (fv : Value) (h0 : Heap) (n0 : Nat) (v : Option Value) (h : Heap) (L : List Loc) : Prop := v = none ∧ L = [] ∧ h = h0
abbrev RmCI : Room := ({ frames := 1, cells := 0, slots := 0, locals := 14 } : Room)
theorem rmCI (l : Launch) (Z : State) (a0 : Array Value) (hw : Tb a0 Z) (ws : List Jvm.Cond) (i : Int32) (n : Int32) (G : Int32) (fv : Value) (h0 : Heap) (n0 : Nat) (Z0 : n0 ≤ h0.size) (h1 : ¬ i < 0) (h2 : i < n) (W0 : own_W Z G fv) (O0 : own_O Z n0 h0) :
    Met l Z h0 (⟨"java/lang/String", "checkIndex", "(II)V"⟩ : MethodName) jdk_42_method_155_code 2 none RmCI ws #[(.int i), (.int n)] (QCI Z i n G fv h0 n0) := by
  refine MetFree.of_bodySF (plainFor_of_name pn_8) hisR ?_
  intro p e s m args below meth c s₁ Bd hml0 hP hK
  obtain ⟨rfl, hZ, hh⟩ := hP
  have hx := Bd.exec
  have hby := Bd.bytes
  have D := dl hby d11_
  have hml : c.maxLocals = 2 := hml0
  have hown : s.vm.findClass "java/lang/String" = some m.cls := findClass_of_methodNamed Bd.named
  have hnm := (name_of_methodNamed Bd.named Bd.method).1
  have X0 : Stand p l e RmCI s m #[(.int i), (.int n)] below meth c s₁ [] 0 0 := Stand.of_body Bd
  have e0 : s₁.heap = h0 := by rw [← hh, Bd.state]; rfl
  have N0 := Fr.nil n0
  obtain ⟨E0, hE0⟩ : ∃ z, z = s₁.setTop (entryFrame m #[(.int i), (.int n)] 2) := ⟨_, rfl⟩
  rw [← hE0]
  have go0 : Go p e below E0 s₁ m 0 #[(si i), (si n)] [] := fun tgt kq => by rw [hE0]; exact castTop (ef_CI m i n) kq
  have hfv := W0.2.2.2.1
  have go1 : Go p e below E0 s₁ m 2 #[(si i), (si n)] [(.int n), (.int i)] := fun tgt kq => go0 tgt (by
    refine XS.iloadN X0.here hx rfl (D 0 rfl) rfl ?_; refine XS.iloadN X0.here hx rfl (D 1 rfl) rfl ?_; exact kq)
  obtain ⟨T2, X2, e2, st2⟩ := getS2 X0 hx hZ hown (host := "") (Or.inl (wd hw 81 rfl)) Via.refl e0 (W0.2.2.1.ext O0.2) (g := (mkF m 2 #[(si i), (si n)] [(.int n), (.int i)])) rfl (D 2 rfl)
  have go2 : Go p e below E0 T2 m 5 #[(si i), (si n)] [fv, (.int n), (.int i)] := fun a b => go1 a (st2 a b)
  obtain ⟨_, T3, L3, X3, hQ3, go3⟩ := own_cS X2 hx hZ hown (wd hw 83 rfl) (wd hw 84 rfl) (wd hw 82 rfl) (wd hw 85 rfl) (by decide) (W := 0) (rmPC l Z a0 hw [] i n fv h0 n0 Z0 hfv h1 h2) (by decide) (by decide) e2 (by decide) (by decide) go2 hml.symm (argsL := [(.int i), (.int n), fv]) (rest := []) (lenOf pd_11 rfl) rfl rfl rfl (D 3 rfl)
  obtain ⟨rfl, rfl, e3⟩ := hQ3
  have N3 := Fr.app N0 (Fr.nil n0)
  have go4 : Go p e below E0 T3 m 9 #[(si i), (si n)] [] := fun tgt kq => go3 tgt (by
    refine XS.pop X3.here hx rfl (D 4 rfl) rfl rfl ?_; exact kq)
  obtain ⟨fs, hr, hrun, hended, hW, hsame⟩ := X3.leave (v := none) (fun _ => rfl)
  refine ⟨_, _, go4 _ ?_, hrun, hended, _, _, rfl, ?_, ⟨_, rfl⟩, hW, hsame.mono (by decide) (by decide)⟩
  · exact X3.returnOut hx Bd.returns (D 5 rfl) hr
  · show QCI Z i n G fv h0 n0 _ T3.heap _
    rw [e3]
    exact ⟨rfl, rfl, rfl⟩
theorem pd_12 : parseMethodDescriptor "(II)V" = some ⟨[.int, .int], none⟩ := by decide +kernel
theorem pn_13 : plainName "java/lang/StringLatin1" = true := by first | (simp [plainName, overriddenIn]; done) | decide +kernel
def QLC (Z : State) (t : Addr) (kb : ClassId) (zl : Int32) (bs : List Value) (i : Int32) (b : Int32) (ch : Int32) (G : Int32) (fv : Value) (h0 : Heap) (n0 : Nat) (v : Option Value) (h : Heap) (L : List Loc) : Prop := v = some (.int ch) ∧ L = [] ∧ h = h0
abbrev RmLC : Room := ({ frames := 2, cells := 0, slots := 0, locals := 27 } : Room)
theorem rmLC (l : Launch) (Z : State) (a0 : Array Value) (hw : Tb a0 Z) (ws : List Jvm.Cond) (t : Addr) (kb : ClassId) (zl : Int32) (bs : List Value) (i : Int32) (b : Int32) (ch : Int32) (G : Int32) (fv : Value) (h0 : Heap) (n0 : Nat) (Z0 : n0 ≤ h0.size) (A0 : Yb Z h0 t kb zl bs) (h1 : ¬ i < 0) (h2 : i < zl) (hb_ : bs.getD i.toNatClampNeg (.int (0 : Int32)) = .int b) (hc : nar .char ((b &&& (255 : Int32)).toUInt32.toUInt16.toUInt32.toInt32) = ch) (W0 : own_W Z G fv) (O0 : own_O Z n0 h0) :
    Met l Z h0 (⟨"java/lang/StringLatin1", "charAt", "([BI)C"⟩ : MethodName) jdk_43_method_2_code 2 (some .char) RmLC ws #[(.ref t), (.int i)] (QLC Z t kb zl bs i b ch G fv h0 n0) := by
  refine MetFree.of_bodySF (plainFor_of_name pn_13) hisR ?_
  intro p e s m args below meth c s₁ Bd hml0 hP hK
  obtain ⟨rfl, hZ, hh⟩ := hP
  have hx := Bd.exec
  have hby := Bd.bytes
  have D := dl hby d12_
  have hml : c.maxLocals = 2 := hml0
  have hown : s.vm.findClass "java/lang/StringLatin1" = some m.cls := findClass_of_methodNamed Bd.named
  have hnm := (name_of_methodNamed Bd.named Bd.method).1
  have X0 : Stand p l e RmLC s m #[(.ref t), (.int i)] below meth c s₁ [] 0 0 := Stand.of_body Bd
  have e0 : s₁.heap = h0 := by rw [← hh, Bd.state]; rfl
  have N0 := Fr.nil n0
  obtain ⟨E0, hE0⟩ : ∃ z, z = s₁.setTop (entryFrame m #[(.ref t), (.int i)] 2) := ⟨_, rfl⟩
  rw [← hE0]
  have go0 : Go p e below E0 s₁ m 0 #[(sr t), (si i)] [] := fun tgt kq => by rw [hE0]; exact castTop (ef_GC m t i) kq
  have go1 : Go p e below E0 s₁ m 2 #[(sr t), (si i)] [(.ref t), (.int i)] := fun tgt kq => go0 tgt (by
    refine XS.iloadN X0.here hx rfl (D 0 rfl) rfl ?_; refine XS.aloadN X0.here hx rfl (D 1 rfl) rfl rfl ?_; exact kq)
  obtain ⟨c2, Ar2, q2, S2, M2, -, -⟩ := id A0
  have go3 : Go p e below E0 s₁ m 3 #[(sr t), (si i)] [(.int zl), (.int i)] := fun tgt kq => go1 tgt (by
    refine X0.arraylength hx (by rw [e0]; exact Ar2.1) (State.isArrayOf_alike hZ.alike Ar2.2.1) (g := (mkF m 2 #[(sr t), (si i)] [(.ref t), (.int i)])) rfl rfl (D 2 rfl) _ ?_; rw [len_of S2 M2]; exact kq)
  obtain ⟨_, T4, L4, X4, hQ4, go4⟩ := own_cS X0 hx hZ hown (wd hw 78 rfl) (wd hw 79 rfl) (wd hw 11 rfl) (wd hw 80 rfl) (by decide) (W := 0) (rmCI l Z a0 hw [] i zl G fv h0 n0 Z0 h1 h2 W0 O0) (by decide) (by decide) e0 (by decide) (by decide) go3 hml.symm (argsL := [(.int i), (.int zl)]) (rest := []) (lenOf pd_12 rfl) rfl rfl rfl (D 3 rfl)
  obtain ⟨rfl, rfl, e4⟩ := hQ4
  have N4 := Fr.app N0 (Fr.nil n0)
  have go5 : Go p e below E0 T4 m 8 #[(sr t), (si i)] [(.int i), (.ref t)] := fun tgt kq => go4 tgt (by
    refine XS.aloadN X4.here hx rfl (D 4 rfl) rfl rfl ?_; refine XS.iloadN X4.here hx rfl (D 5 rfl) rfl ?_; exact kq)
  obtain ⟨c6, Ar6, q6, S6, M6, Hh6, G6⟩ := id A0
  have hin6 : ¬ (i < 0 ∨ c6.slots.size ≤ (i).toNatClampNeg) := inb_of S6 ⟨h1, h2⟩
  have hat6 : c6.slots[(i).toNatClampNeg]? = some (.int b) := Hh6.at hin6 hb_
  have go7 : Go p e below E0 T4 m 14 #[(sr t), (si i)] [(.int ((b &&& (255 : Int32)).toUInt32.toUInt16.toUInt32.toInt32))] := fun tgt kq => go5 tgt (by
    refine X4.baloadBytes hx (j := i) (v := (.int b)) (by rw [e4]; exact Ar6.1) (State.isArrayOf_alike hZ.alike Ar6.2.1) Ar6.2.2 hin6 hat6 (g := (mkF m 8 #[(sr t), (si i)] [(.int i), (.ref t)])) rfl rfl (D 6 rfl) _ ?_; refine XS.sipush X4.here hx rfl (D 7 rfl) ?_; refine XS.iand X4.here hx rfl (D 8 rfl) rfl ?_; refine XS.i2c X4.here hx rfl (D 9 rfl) rfl ?_; exact kq)
  obtain ⟨fs, hr, hrun, hended, hW, hsame⟩ := X4.leave (v := some (.int (nar .char ((b &&& (255 : Int32)).toUInt32.toUInt16.toUInt32.toInt32)))) (fun h => by rw [Bd.returns] at h; cases h)
  refine ⟨_, _, go7 _ ?_, hrun, hended, _, _, rfl, ?_, ⟨_, rfl⟩, hW, hsame.mono (by decide) (by decide)⟩
  · exact retN X4 hx (t := .char) Bd.returns (by simp) (D 10 rfl) hr
  · show QLC Z t kb zl bs i b ch G fv h0 n0 _ T4.heap _
    rw [e4]
    exact ⟨by rw [← hc], rfl, rfl⟩
theorem ef_UL (m : MethodId) (x0 : Addr) : entryFrame m #[(.ref x0)] 1 = mkF m 0 #[.val (.ref x0)] [] := by first | (simp [entryFrame, mkF, argsToLocals, Value.category, maxLocals]; done) | rfl
def QUL (Z : State) (t : Addr) (kb : ClassId) (zl : Int32) (bs : List Value) (zn : Int32) (h0 : Heap) (n0 : Nat) (v : Option Value) (h : Heap) (L : List Loc) : Prop := v = some (.int zn) ∧ L = [] ∧ h = h0
abbrev RmUL : Room := ({ frames := 0, cells := 0, slots := 0, locals := 0 } : Room)
theorem rmUL (l : Launch) (Z : State) (a0 : Array Value) (hw : Tb a0 Z) (ws : List Jvm.Cond) (t : Addr) (kb : ClassId) (zl : Int32) (bs : List Value) (zn : Int32) (h0 : Heap) (n0 : Nat) (Z0 : n0 ≤ h0.size) (A0 : Yb Z h0 t kb zl bs) (hz : (zl >>> ((1 : Int32) &&& 31)) = zn) :
    Met l Z h0 (⟨"java/lang/StringUTF16", "length", "([B)I"⟩ : MethodName) jdk_52_method_6_code 1 (some .int) RmUL ws #[(.ref t)] (QUL Z t kb zl bs zn h0 n0) := by
  refine MetFree.of_bodySF (plainFor_of_name pn_0) hisR ?_
  intro p e s m args below meth c s₁ Bd hml0 hP hK
  obtain ⟨rfl, hZ, hh⟩ := hP
  have hx := Bd.exec
  have hby := Bd.bytes
  have D := dl hby d13_
  have hml : c.maxLocals = 1 := hml0
  have hown : s.vm.findClass "java/lang/StringUTF16" = some m.cls := findClass_of_methodNamed Bd.named
  have hnm := (name_of_methodNamed Bd.named Bd.method).1
  have X0 : Stand p l e RmUL s m #[(.ref t)] below meth c s₁ [] 0 0 := Stand.of_body Bd
  have e0 : s₁.heap = h0 := by rw [← hh, Bd.state]; rfl
  have N0 := Fr.nil n0
  obtain ⟨E0, hE0⟩ : ∃ z, z = s₁.setTop (entryFrame m #[(.ref t)] 1) := ⟨_, rfl⟩
  rw [← hE0]
  have go0 : Go p e below E0 s₁ m 0 #[(sr t)] [] := fun tgt kq => by rw [hE0]; exact castTop (ef_UL m t) kq
  have go1 : Go p e below E0 s₁ m 1 #[(sr t)] [(.ref t)] := fun tgt kq => go0 tgt (by
    refine XS.aloadN X0.here hx rfl (D 0 rfl) rfl rfl ?_; exact kq)
  obtain ⟨c2, Ar2, q2, S2, M2, -, -⟩ := id A0
  have go3 : Go p e below E0 s₁ m 4 #[(sr t)] [(.int (zl >>> ((1 : Int32) &&& 31)))] := fun tgt kq => go1 tgt (by
    refine X0.arraylength hx (by rw [e0]; exact Ar2.1) (State.isArrayOf_alike hZ.alike Ar2.2.1) (g := (mkF m 1 #[(sr t)] [(.ref t)])) rfl rfl (D 1 rfl) _ ?_; rw [len_of S2 M2]; refine XS.iconst X0.here hx rfl (D 2 rfl) ?_; refine XS.ishr X0.here hx rfl (D 3 rfl) rfl ?_; exact kq)
  obtain ⟨fs, hr, hrun, hended, hW, hsame⟩ := X0.leave (v := some (.int (zl >>> ((1 : Int32) &&& 31)))) (fun h => by rw [Bd.returns] at h; cases h)
  refine ⟨_, _, go3 _ ?_, hrun, hended, _, _, rfl, ?_, ⟨_, rfl⟩, hW, hsame.mono (by decide) (by decide)⟩
  · exact retOut X0 hx Bd.returns rfl (Or.inl ⟨rfl, Or.inl rfl, _, rfl⟩) (D 4 rfl) hr
  · show QUL Z t kb zl bs zn h0 n0 _ s₁.heap _
    rw [e0]
    exact ⟨by rw [← hz], rfl, rfl⟩
theorem pd_14 : parseMethodDescriptor "([B)I" = some ⟨[(.array .byte)], some .int⟩ := by decide +kernel
theorem ef_UC (m : MethodId) (x0 : Int32) (x1 : Addr) : entryFrame m #[(.int x0), (.ref x1)] 2 = mkF m 0 #[.val (.int x0), .val (.ref x1)] [] := by first | (simp [entryFrame, mkF, argsToLocals, Value.category, maxLocals]; done) | rfl
def QUC (Z : State) (t : Addr) (kb : ClassId) (zl : Int32) (bs : List Value) (zn : Int32) (i : Int32) (G : Int32) (fv : Value) (h0 : Heap) (n0 : Nat) (v : Option Value) (h : Heap) (L : List Loc) : Prop := v = none ∧ L = [] ∧ h = h0
abbrev RmUC : Room := ({ frames := 2, cells := 0, slots := 0, locals := 27 } : Room)
theorem rmUC (l : Launch) (Z : State) (a0 : Array Value) (hw : Tb a0 Z) (ws : List Jvm.Cond) (t : Addr) (kb : ClassId) (zl : Int32) (bs : List Value) (zn : Int32) (i : Int32) (G : Int32) (fv : Value) (h0 : Heap) (n0 : Nat) (Z0 : n0 ≤ h0.size) (A0 : Yb Z h0 t kb zl bs) (hz : (zl >>> ((1 : Int32) &&& 31)) = zn) (h1 : ¬ i < 0) (h2 : i < zn) (W0 : own_W Z G fv) (O0 : own_O Z n0 h0) :
    Met l Z h0 (⟨"java/lang/StringUTF16", "checkIndex", "(I[B)V"⟩ : MethodName) jdk_52_method_91_code 2 none RmUC ws #[(.int i), (.ref t)] (QUC Z t kb zl bs zn i G fv h0 n0) := by
  refine MetFree.of_bodySF (plainFor_of_name pn_0) hisR ?_
  intro p e s m args below meth c s₁ Bd hml0 hP hK
  obtain ⟨rfl, hZ, hh⟩ := hP
  have hx := Bd.exec
  have hby := Bd.bytes
  have D := dl hby d14_
  have hml : c.maxLocals = 2 := hml0
  have hown : s.vm.findClass "java/lang/StringUTF16" = some m.cls := findClass_of_methodNamed Bd.named
  have hnm := (name_of_methodNamed Bd.named Bd.method).1
  have X0 : Stand p l e RmUC s m #[(.int i), (.ref t)] below meth c s₁ [] 0 0 := Stand.of_body Bd
  have e0 : s₁.heap = h0 := by rw [← hh, Bd.state]; rfl
  have N0 := Fr.nil n0
  obtain ⟨E0, hE0⟩ : ∃ z, z = s₁.setTop (entryFrame m #[(.int i), (.ref t)] 2) := ⟨_, rfl⟩
  rw [← hE0]
  have go0 : Go p e below E0 s₁ m 0 #[(si i), (sr t)] [] := fun tgt kq => by rw [hE0]; exact castTop (ef_UC m i t) kq
  have go1 : Go p e below E0 s₁ m 2 #[(si i), (sr t)] [(.ref t), (.int i)] := fun tgt kq => go0 tgt (by
    refine XS.iloadN X0.here hx rfl (D 0 rfl) rfl ?_; refine XS.aloadN X0.here hx rfl (D 1 rfl) rfl rfl ?_; exact kq)
  obtain ⟨_, T2, L2, X2, hQ2, go2⟩ := own_cS X0 hx hZ hown (wd hw 290 rfl) (wd hw 291 rfl) (wd hw 26 rfl) (wd hw 292 rfl) (by decide) (W := 1) (rmUL l Z a0 hw [] t kb zl bs zn h0 n0 Z0 A0 hz) (by decide) (by decide) e0 (by decide) (by decide) go1 hml.symm (argsL := [(.ref t)]) (rest := [(.int i)]) (lenOf pd_14 rfl) rfl rfl rfl (D 2 rfl)
  obtain ⟨rfl, rfl, e2⟩ := hQ2
  have N2 := Fr.app N0 (Fr.nil n0)
  obtain ⟨_, T3, L3, X3, hQ3, go3⟩ := own_cS X2 hx hZ hown (wd hw 293 rfl) (wd hw 79 rfl) (wd hw 11 rfl) (wd hw 80 rfl) (by decide) (W := 0) (rmCI l Z a0 hw [] i zn G fv h0 n0 Z0 h1 h2 W0 O0) (by decide) (by decide) e2 (by decide) (by decide) go2 hml.symm (argsL := [(.int i), (.int zn)]) (rest := []) (lenOf pd_12 rfl) rfl rfl rfl (D 3 rfl)
  obtain ⟨rfl, rfl, e3⟩ := hQ3
  have N3 := Fr.app N2 (Fr.nil n0)
  obtain ⟨fs, hr, hrun, hended, hW, hsame⟩ := X3.leave (v := none) (fun _ => rfl)
  refine ⟨_, _, go3 _ ?_, hrun, hended, _, _, rfl, ?_, ⟨_, rfl⟩, hW, hsame.mono (by decide) (by decide)⟩
  · exact X3.returnOut hx Bd.returns (D 4 rfl) hr
  · show QUC Z t kb zl bs zn i G fv h0 n0 _ T3.heap _
    rw [e3]
    exact ⟨rfl, rfl, rfl⟩
theorem pd_15 : parseMethodDescriptor "(I[B)V" = some ⟨[.int, (.array .byte)], none⟩ := by decide +kernel
def QUA (Z : State) (t : Addr) (kb : ClassId) (zl : Int32) (bs : List Value) (zn : Int32) (i : Int32) (q0 : Int32) (q1 : Int32) (ch : Int32) (G : Int32) (fv : Value) (h0 : Heap) (n0 : Nat) (v : Option Value) (h : Heap) (L : List Loc) : Prop := v = some (.int ch) ∧ L = [] ∧ h = h0
abbrev RmUA : Room := ({ frames := 3, cells := 0, slots := 0, locals := 40 } : Room)
theorem rmUA (l : Launch) (Z : State) (a0 : Array Value) (hw : Tb a0 Z) (ws : List Jvm.Cond) (t : Addr) (kb : ClassId) (zl : Int32) (bs : List Value) (zn : Int32) (i : Int32) (q0 : Int32) (q1 : Int32) (ch : Int32) (G : Int32) (fv : Value) (h0 : Heap) (n0 : Nat) (Z0 : n0 ≤ h0.size) (A0 : Yb Z h0 t kb zl bs) (j0 : ¬ (i <<< ((1 : Int32) &&& 31)) < 0 ∧ (i <<< ((1 : Int32) &&& 31)) < zl) (t0 : bs.getD (i <<< ((1 : Int32) &&& 31)).toNatClampNeg (.int (0 : Int32)) = .int q0) (j1 : ¬ ((i <<< ((1 : Int32) &&& 31)) + (1 : Int32)) < 0 ∧ ((i <<< ((1 : Int32) &&& 31)) + (1 : Int32)) < zl) (t1 : bs.getD ((i <<< ((1 : Int32) &&& 31)) + (1 : Int32)).toNatClampNeg (.int (0 : Int32)) = .int q1) (hc : nar .char ((((q0 &&& (255 : Int32)) <<< ((0 : Int32) &&& 31)) ||| ((q1 &&& (255 : Int32)) <<< ((8 : Int32) &&& 31))).toUInt32.toUInt16.toUInt32.toInt32) = ch) (hz : (zl >>> ((1 : Int32) &&& 31)) = zn) (h1 : ¬ i < 0) (h2 : i < zn) (hn : nar .char ch = ch) (W0 : own_W Z G fv) (O0 : own_O Z n0 h0) :
    Met l Z h0 (⟨"java/lang/StringUTF16", "charAt", "([BI)C"⟩ : MethodName) jdk_52_method_83_code 2 (some .char) RmUA ws #[(.ref t), (.int i)] (QUA Z t kb zl bs zn i q0 q1 ch G fv h0 n0) := by
  refine MetFree.of_bodySF (plainFor_of_name pn_0) hisR ?_
  intro p e s m args below meth c s₁ Bd hml0 hP hK
  obtain ⟨rfl, hZ, hh⟩ := hP
  have hx := Bd.exec
  have hby := Bd.bytes
  have D := dl hby d15_
  have hml : c.maxLocals = 2 := hml0
  have hown : s.vm.findClass "java/lang/StringUTF16" = some m.cls := findClass_of_methodNamed Bd.named
  have hnm := (name_of_methodNamed Bd.named Bd.method).1
  have X0 : Stand p l e RmUA s m #[(.ref t), (.int i)] below meth c s₁ [] 0 0 := Stand.of_body Bd
  have e0 : s₁.heap = h0 := by rw [← hh, Bd.state]; rfl
  have N0 := Fr.nil n0
  obtain ⟨E0, hE0⟩ : ∃ z, z = s₁.setTop (entryFrame m #[(.ref t), (.int i)] 2) := ⟨_, rfl⟩
  rw [← hE0]
  have go0 : Go p e below E0 s₁ m 0 #[(sr t), (si i)] [] := fun tgt kq => by rw [hE0]; exact castTop (ef_GC m t i) kq
  have go1 : Go p e below E0 s₁ m 2 #[(sr t), (si i)] [(.ref t), (.int i)] := fun tgt kq => go0 tgt (by
    refine XS.iloadN X0.here hx rfl (D 0 rfl) rfl ?_; refine XS.aloadN X0.here hx rfl (D 1 rfl) rfl rfl ?_; exact kq)
  obtain ⟨_, T2, L2, X2, hQ2, go2⟩ := own_cS X0 hx hZ hown (wd hw 287 rfl) (wd hw 288 rfl) (wd hw 26 rfl) (wd hw 289 rfl) (by decide) (W := 0) (rmUC l Z a0 hw [] t kb zl bs zn i G fv h0 n0 Z0 A0 hz h1 h2 W0 O0) (by decide) (by decide) e0 (by decide) (by decide) go1 hml.symm (argsL := [(.int i), (.ref t)]) (rest := []) (lenOf pd_15 rfl) rfl rfl rfl (D 2 rfl)
  obtain ⟨rfl, rfl, e2⟩ := hQ2
  have N2 := Fr.app N0 (Fr.nil n0)
  have go3 : Go p e below E0 T2 m 7 #[(sr t), (si i)] [(.int i), (.ref t)] := fun tgt kq => go2 tgt (by
    refine XS.aloadN X2.here hx rfl (D 3 rfl) rfl rfl ?_; refine XS.iloadN X2.here hx rfl (D 4 rfl) rfl ?_; exact kq)
  obtain ⟨_, T4, L4, X4, hQ4, go4⟩ := own_cS X2 hx hZ hown (wd hw 281 rfl) (wd hw 282 rfl) (wd hw 26 rfl) (wd hw 283 rfl) (by decide) (W := 0) (rmGC l Z a0 hw [] t kb zl bs i q0 q1 ch G fv h0 n0 Z0 A0 j0 t0 j1 t1 hc W0 O0) (by decide) (by decide) e2 (by decide) (by decide) go3 hml.symm (argsL := [(.ref t), (.int i)]) (rest := []) (lenOf pd_6 rfl) rfl rfl rfl (D 5 rfl)
  obtain ⟨rfl, rfl, e4⟩ := hQ4
  have N4 := Fr.app N2 (Fr.nil n0)
  obtain ⟨fs, hr, hrun, hended, hW, hsame⟩ := X4.leave (v := some (.int (nar .char ch))) (fun h => by rw [Bd.returns] at h; cases h)
  refine ⟨_, _, go4 _ ?_, hrun, hended, _, _, rfl, ?_, ⟨_, rfl⟩, hW, hsame.mono (by decide) (by decide)⟩
  · exact retN X4 hx (t := .char) Bd.returns (by simp) (D 6 rfl) hr
  · show QUA Z t kb zl bs zn i q0 q1 ch G fv h0 n0 _ T4.heap _
    rw [e4]
    exact ⟨by rw [hn], rfl, rfl⟩
def QIL0 (Z : State) (x : Addr) (G : Int32) (fv : Value) (h0 : Heap) (n0 : Nat) (v : Option Value) (h : Heap) (L : List Loc) : Prop := v = some (.int (1 : Int32)) ∧ L = [] ∧ h = h0
abbrev RmIL0 : Room := ({ frames := 0, cells := 0, slots := 0, locals := 0 } : Room)
theorem rmIL0 (l : Launch) (Z : State) (a0 : Array Value) (hw : Tb a0 Z) (ws : List Jvm.Cond) (x : Addr) (G : Int32) (fv : Value) (h0 : Heap) (n0 : Nat) (Z0 : n0 ≤ h0.size) (Fc : F5_ Z h0 x (.int (0 : Int32))) (W0 : own_W Z G fv) (O0 : own_O Z n0 h0) :
    Met l Z h0 y5_ jdk_42_method_154_code 1 (some .boolean) RmIL0 ws #[(.ref x)] (QIL0 Z x G fv h0 n0) := by
  refine MetFree.of_bodySF (plainFor_of_name pn_8) hisR ?_
  intro p e s m args below meth c s₁ Bd hml0 hP hK
  obtain ⟨rfl, hZ, hh⟩ := hP
  have hx := Bd.exec
  have hby := Bd.bytes
  have D := dl hby d16_
  have hml : c.maxLocals = 1 := hml0
  have hown : s.vm.findClass "java/lang/String" = some m.cls := findClass_of_methodNamed Bd.named
  have hnm := (name_of_methodNamed Bd.named Bd.method).1
  have X0 : Stand p l e RmIL0 s m #[(.ref x)] below meth c s₁ [] 0 0 := Stand.of_body Bd
  have e0 : s₁.heap = h0 := by rw [← hh, Bd.state]; rfl
  have N0 := Fr.nil n0
  obtain ⟨E0, hE0⟩ : ∃ z, z = s₁.setTop (entryFrame m #[(.ref x)] 1) := ⟨_, rfl⟩
  rw [← hE0]
  have go0 : Go p e below E0 s₁ m 0 #[(sr x)] [] := fun tgt kq => by rw [hE0]; exact castTop (ef_UL m x) kq
  obtain ⟨T1, X1, e1, st1⟩ := getS2 X0 hx hZ hown (host := "") (Or.inl (wd hw 23 rfl)) Via.refl e0 (W0.1.ext O0.2) (g := (mkF m 0 #[(sr x)] [])) rfl (D 0 rfl)
  have go1 : Go p e below E0 T1 m 3 #[(sr x)] [(.int G)] := fun a b => go0 a (st1 a b)
  have go2 : Go p e below E0 T1 m 7 #[(sr x)] [(.ref x)] := fun tgt kq => go1 tgt (by
    refine XS.ifNo X1.here hx rfl (D 1 rfl) rfl ((if0 _ _).trans (feq W0.2.1).1) ?_; refine XS.aloadN X1.here hx rfl (D 2 rfl) rfl rfl ?_; exact kq)
  obtain ⟨T3, X3, e3, go3⟩ := own_gF X1 hx hZ hown (wd hw 35 rfl) e1 Fc go2 (D 3 rfl)
  have go4 : Go p e below E0 T3 m 18 #[(sr x)] [(.int 1)] := fun tgt kq => go3 tgt (by
    refine XS.ifNo X3.here hx rfl (D 4 rfl) rfl ((if0 _ _).trans (teq rfl).2) ?_; refine XS.iconst X3.here hx rfl (D 5 rfl) ?_; refine XS.goto X3.here hx rfl (pc0 := 14) (pc' := 18) rfl (D 6 rfl) (by decide) (by decide) ?_; exact kq)
  obtain ⟨fs, hr, hrun, hended, hW, hsame⟩ := X3.leave (v := some (.int (1 : Int32))) (fun h => by rw [Bd.returns] at h; cases h)
  refine ⟨_, _, go4 _ ?_, hrun, hended, _, _, rfl, ?_, ⟨_, rfl⟩, hW, hsame.mono (by decide) (by decide)⟩
  · exact retN X3 hx (t := .boolean) Bd.returns (by simp) (D 7 rfl) hr
  · show QIL0 Z x G fv h0 n0 _ T3.heap _
    rw [e3]
    exact ⟨rfl, rfl, rfl⟩
theorem pn_16 : plainName "java/lang/AbstractStringBuilder" = true := by first | (simp [plainName, overriddenIn]; done) | decide +kernel
def QBL0 (Z : State) (b : Addr) (G : Int32) (fv : Value) (h0 : Heap) (n0 : Nat) (v : Option Value) (h : Heap) (L : List Loc) : Prop := v = some (.int (1 : Int32)) ∧ L = [] ∧ h = h0
abbrev RmBL0 : Room := ({ frames := 0, cells := 0, slots := 0, locals := 0 } : Room)
theorem rmBL0 (l : Launch) (Z : State) (a0 : Array Value) (hw : Tb a0 Z) (ws : List Jvm.Cond) (b : Addr) (G : Int32) (fv : Value) (h0 : Heap) (n0 : Nat) (Z0 : n0 ≤ h0.size) (Fbc : F1_ Z h0 b (.int (0 : Int32))) (W0 : own_W Z G fv) (O0 : own_O Z n0 h0) :
    Met l Z h0 y6_ jdk_68_method_68_code 1 (some .boolean) RmBL0 ws #[(.ref b)] (QBL0 Z b G fv h0 n0) := by
  refine MetFree.of_bodySF (plainFor_of_name pn_16) hisR ?_
  intro p e s m args below meth c s₁ Bd hml0 hP hK
  obtain ⟨rfl, hZ, hh⟩ := hP
  have hx := Bd.exec
  have hby := Bd.bytes
  have D := dl hby d17_
  have hml : c.maxLocals = 1 := hml0
  have hown : s.vm.findClass "java/lang/AbstractStringBuilder" = some m.cls := findClass_of_methodNamed Bd.named
  have hnm := (name_of_methodNamed Bd.named Bd.method).1
  have X0 : Stand p l e RmBL0 s m #[(.ref b)] below meth c s₁ [] 0 0 := Stand.of_body Bd
  have e0 : s₁.heap = h0 := by rw [← hh, Bd.state]; rfl
  have N0 := Fr.nil n0
  obtain ⟨E0, hE0⟩ : ∃ z, z = s₁.setTop (entryFrame m #[(.ref b)] 1) := ⟨_, rfl⟩
  rw [← hE0]
  have go0 : Go p e below E0 s₁ m 0 #[(sr b)] [] := fun tgt kq => by rw [hE0]; exact castTop (ef_UL m b) kq
  obtain ⟨T1, X1, e1, st1⟩ := getS2 X0 hx hZ hown (host := "") (Or.inl (wd hw 159 rfl)) Via.refl e0 (W0.1.ext O0.2) (g := (mkF m 0 #[(sr b)] [])) rfl (D 0 rfl)
  have go1 : Go p e below E0 T1 m 3 #[(sr b)] [(.int G)] := fun a b => go0 a (st1 a b)
  have go2 : Go p e below E0 T1 m 7 #[(sr b)] [(.ref b)] := fun tgt kq => go1 tgt (by
    refine XS.ifNo X1.here hx rfl (D 1 rfl) rfl ((if0 _ _).trans (feq W0.2.1).1) ?_; refine XS.aloadN X1.here hx rfl (D 2 rfl) rfl rfl ?_; exact kq)
  obtain ⟨T3, X3, e3, go3⟩ := own_gF X1 hx hZ hown (wd hw 162 rfl) e1 Fbc go2 (D 3 rfl)
  have go4 : Go p e below E0 T3 m 18 #[(sr b)] [(.int 1)] := fun tgt kq => go3 tgt (by
    refine XS.ifNo X3.here hx rfl (D 4 rfl) rfl ((if0 _ _).trans (teq rfl).2) ?_; refine XS.iconst X3.here hx rfl (D 5 rfl) ?_; refine XS.goto X3.here hx rfl (pc0 := 14) (pc' := 18) rfl (D 6 rfl) (by decide) (by decide) ?_; exact kq)
  obtain ⟨fs, hr, hrun, hended, hW, hsame⟩ := X3.leave (v := some (.int (1 : Int32))) (fun h => by rw [Bd.returns] at h; cases h)
  refine ⟨_, _, go4 _ ?_, hrun, hended, _, _, rfl, ?_, ⟨_, rfl⟩, hW, hsame.mono (by decide) (by decide)⟩
  · exact retN X3 hx (t := .boolean) Bd.returns (by simp) (D 7 rfl) hr
  · show QBL0 Z b G fv h0 n0 _ T3.heap _
    rw [e3]
    exact ⟨rfl, rfl, rfl⟩
def QIL1 (Z : State) (x : Addr) (G : Int32) (fv : Value) (h0 : Heap) (n0 : Nat) (v : Option Value) (h : Heap) (L : List Loc) : Prop := v = some (.int (0 : Int32)) ∧ L = [] ∧ h = h0
abbrev RmIL1 : Room := ({ frames := 0, cells := 0, slots := 0, locals := 0 } : Room)
theorem rmIL1 (l : Launch) (Z : State) (a0 : Array Value) (hw : Tb a0 Z) (ws : List Jvm.Cond) (x : Addr) (G : Int32) (fv : Value) (h0 : Heap) (n0 : Nat) (Z0 : n0 ≤ h0.size) (Fc : F5_ Z h0 x (.int (1 : Int32))) (W0 : own_W Z G fv) (O0 : own_O Z n0 h0) :
    Met l Z h0 y5_ jdk_42_method_154_code 1 (some .boolean) RmIL1 ws #[(.ref x)] (QIL1 Z x G fv h0 n0) := by
  refine MetFree.of_bodySF (plainFor_of_name pn_8) hisR ?_
  intro p e s m args below meth c s₁ Bd hml0 hP hK
  obtain ⟨rfl, hZ, hh⟩ := hP
  have hx := Bd.exec
  have hby := Bd.bytes
  have D := dl hby d16_
  have hml : c.maxLocals = 1 := hml0
  have hown : s.vm.findClass "java/lang/String" = some m.cls := findClass_of_methodNamed Bd.named
  have hnm := (name_of_methodNamed Bd.named Bd.method).1
  have X0 : Stand p l e RmIL1 s m #[(.ref x)] below meth c s₁ [] 0 0 := Stand.of_body Bd
  have e0 : s₁.heap = h0 := by rw [← hh, Bd.state]; rfl
  have N0 := Fr.nil n0
  obtain ⟨E0, hE0⟩ : ∃ z, z = s₁.setTop (entryFrame m #[(.ref x)] 1) := ⟨_, rfl⟩
  rw [← hE0]
  have go0 : Go p e below E0 s₁ m 0 #[(sr x)] [] := fun tgt kq => by rw [hE0]; exact castTop (ef_UL m x) kq
  obtain ⟨T1, X1, e1, st1⟩ := getS2 X0 hx hZ hown (host := "") (Or.inl (wd hw 23 rfl)) Via.refl e0 (W0.1.ext O0.2) (g := (mkF m 0 #[(sr x)] [])) rfl (D 0 rfl)
  have go1 : Go p e below E0 T1 m 3 #[(sr x)] [(.int G)] := fun a b => go0 a (st1 a b)
  have go2 : Go p e below E0 T1 m 7 #[(sr x)] [(.ref x)] := fun tgt kq => go1 tgt (by
    refine XS.ifNo X1.here hx rfl (D 1 rfl) rfl ((if0 _ _).trans (feq W0.2.1).1) ?_; refine XS.aloadN X1.here hx rfl (D 2 rfl) rfl rfl ?_; exact kq)
  obtain ⟨T3, X3, e3, go3⟩ := own_gF X1 hx hZ hown (wd hw 35 rfl) e1 Fc go2 (D 3 rfl)
  have go4 : Go p e below E0 T3 m 18 #[(sr x)] [(.int 0)] := fun tgt kq => go3 tgt (by
    refine XS.ifYes X3.here hx rfl (pc0 := 10) (pc' := 17) rfl (D 4 rfl) rfl ((if0 _ _).trans (feq (by decide)).2) (by decide) (by decide) ?_; refine XS.iconst X3.here hx rfl (D 8 rfl) ?_; exact kq)
  obtain ⟨fs, hr, hrun, hended, hW, hsame⟩ := X3.leave (v := some (.int (0 : Int32))) (fun h => by rw [Bd.returns] at h; cases h)
  refine ⟨_, _, go4 _ ?_, hrun, hended, _, _, rfl, ?_, ⟨_, rfl⟩, hW, hsame.mono (by decide) (by decide)⟩
  · exact retN X3 hx (t := .boolean) Bd.returns (by simp) (D 7 rfl) hr
  · show QIL1 Z x G fv h0 n0 _ T3.heap _
    rw [e3]
    exact ⟨rfl, rfl, rfl⟩
def QBL1 (Z : State) (b : Addr) (G : Int32) (fv : Value) (h0 : Heap) (n0 : Nat) (v : Option Value) (h : Heap) (L : List Loc) : Prop := v = some (.int (0 : Int32)) ∧ L = [] ∧ h = h0
abbrev RmBL1 : Room := ({ frames := 0, cells := 0, slots := 0, locals := 0 } : Room)
theorem rmBL1 (l : Launch) (Z : State) (a0 : Array Value) (hw : Tb a0 Z) (ws : List Jvm.Cond) (b : Addr) (G : Int32) (fv : Value) (h0 : Heap) (n0 : Nat) (Z0 : n0 ≤ h0.size) (Fbc : F1_ Z h0 b (.int (1 : Int32))) (W0 : own_W Z G fv) (O0 : own_O Z n0 h0) :
    Met l Z h0 y6_ jdk_68_method_68_code 1 (some .boolean) RmBL1 ws #[(.ref b)] (QBL1 Z b G fv h0 n0) := by
  refine MetFree.of_bodySF (plainFor_of_name pn_16) hisR ?_
  intro p e s m args below meth c s₁ Bd hml0 hP hK
  obtain ⟨rfl, hZ, hh⟩ := hP
  have hx := Bd.exec
  have hby := Bd.bytes
  have D := dl hby d17_
  have hml : c.maxLocals = 1 := hml0
  have hown : s.vm.findClass "java/lang/AbstractStringBuilder" = some m.cls := findClass_of_methodNamed Bd.named
  have hnm := (name_of_methodNamed Bd.named Bd.method).1
  have X0 : Stand p l e RmBL1 s m #[(.ref b)] below meth c s₁ [] 0 0 := Stand.of_body Bd
  have e0 : s₁.heap = h0 := by rw [← hh, Bd.state]; rfl
  have N0 := Fr.nil n0
  obtain ⟨E0, hE0⟩ : ∃ z, z = s₁.setTop (entryFrame m #[(.ref b)] 1) := ⟨_, rfl⟩
  rw [← hE0]
  have go0 : Go p e below E0 s₁ m 0 #[(sr b)] [] := fun tgt kq => by rw [hE0]; exact castTop (ef_UL m b) kq
  obtain ⟨T1, X1, e1, st1⟩ := getS2 X0 hx hZ hown (host := "") (Or.inl (wd hw 159 rfl)) Via.refl e0 (W0.1.ext O0.2) (g := (mkF m 0 #[(sr b)] [])) rfl (D 0 rfl)
  have go1 : Go p e below E0 T1 m 3 #[(sr b)] [(.int G)] := fun a b => go0 a (st1 a b)
  have go2 : Go p e below E0 T1 m 7 #[(sr b)] [(.ref b)] := fun tgt kq => go1 tgt (by
    refine XS.ifNo X1.here hx rfl (D 1 rfl) rfl ((if0 _ _).trans (feq W0.2.1).1) ?_; refine XS.aloadN X1.here hx rfl (D 2 rfl) rfl rfl ?_; exact kq)
  obtain ⟨T3, X3, e3, go3⟩ := own_gF X1 hx hZ hown (wd hw 162 rfl) e1 Fbc go2 (D 3 rfl)
  have go4 : Go p e below E0 T3 m 18 #[(sr b)] [(.int 0)] := fun tgt kq => go3 tgt (by
    refine XS.ifYes X3.here hx rfl (pc0 := 10) (pc' := 17) rfl (D 4 rfl) rfl ((if0 _ _).trans (feq (by decide)).2) (by decide) (by decide) ?_; refine XS.iconst X3.here hx rfl (D 8 rfl) ?_; exact kq)
  obtain ⟨fs, hr, hrun, hended, hW, hsame⟩ := X3.leave (v := some (.int (0 : Int32))) (fun h => by rw [Bd.returns] at h; cases h)
  refine ⟨_, _, go4 _ ?_, hrun, hended, _, _, rfl, ?_, ⟨_, rfl⟩, hW, hsame.mono (by decide) (by decide)⟩
  · exact retN X3 hx (t := .boolean) Bd.returns (by simp) (D 7 rfl) hr
  · show QBL1 Z b G fv h0 n0 _ T3.heap _
    rw [e3]
    exact ⟨rfl, rfl, rfl⟩
def QCO (Z : State) (x : Addr) (co : Int32) (G : Int32) (fv : Value) (h0 : Heap) (n0 : Nat) (v : Option Value) (h : Heap) (L : List Loc) : Prop := v = some (.int co) ∧ L = [] ∧ h = h0
abbrev RmCO : Room := ({ frames := 0, cells := 0, slots := 0, locals := 0 } : Room)
theorem rmCO (l : Launch) (Z : State) (a0 : Array Value) (hw : Tb a0 Z) (ws : List Jvm.Cond) (x : Addr) (co : Int32) (G : Int32) (fv : Value) (h0 : Heap) (n0 : Nat) (Z0 : n0 ≤ h0.size) (Fc : F5_ Z h0 x (.int co)) (hn : nar .byte co = co) (W0 : own_W Z G fv) (O0 : own_O Z n0 h0) :
    Met l Z h0 (⟨"java/lang/String", "coder", "()B"⟩ : MethodName) jdk_42_method_152_code 1 (some .byte) RmCO ws #[(.ref x)] (QCO Z x co G fv h0 n0) := by
  refine MetFree.of_bodySF (plainFor_of_name pn_8) hisR ?_
  intro p e s m args below meth c s₁ Bd hml0 hP hK
  obtain ⟨rfl, hZ, hh⟩ := hP
  have hx := Bd.exec
  have hby := Bd.bytes
  have D := dl hby d18_
  have hml : c.maxLocals = 1 := hml0
  have hown : s.vm.findClass "java/lang/String" = some m.cls := findClass_of_methodNamed Bd.named
  have hnm := (name_of_methodNamed Bd.named Bd.method).1
  have X0 : Stand p l e RmCO s m #[(.ref x)] below meth c s₁ [] 0 0 := Stand.of_body Bd
  have e0 : s₁.heap = h0 := by rw [← hh, Bd.state]; rfl
  have N0 := Fr.nil n0
  obtain ⟨E0, hE0⟩ : ∃ z, z = s₁.setTop (entryFrame m #[(.ref x)] 1) := ⟨_, rfl⟩
  rw [← hE0]
  have go0 : Go p e below E0 s₁ m 0 #[(sr x)] [] := fun tgt kq => by rw [hE0]; exact castTop (ef_UL m x) kq
  obtain ⟨T1, X1, e1, st1⟩ := getS2 X0 hx hZ hown (host := "") (Or.inl (wd hw 23 rfl)) Via.refl e0 (W0.1.ext O0.2) (g := (mkF m 0 #[(sr x)] [])) rfl (D 0 rfl)
  have go1 : Go p e below E0 T1 m 3 #[(sr x)] [(.int G)] := fun a b => go0 a (st1 a b)
  have go2 : Go p e below E0 T1 m 7 #[(sr x)] [(.ref x)] := fun tgt kq => go1 tgt (by
    refine XS.ifNo X1.here hx rfl (D 1 rfl) rfl ((if0 _ _).trans (feq W0.2.1).1) ?_; refine XS.aloadN X1.here hx rfl (D 2 rfl) rfl rfl ?_; exact kq)
  obtain ⟨T3, X3, e3, go3⟩ := own_gF X1 hx hZ hown (wd hw 35 rfl) e1 Fc go2 (D 3 rfl)
  have go4 : Go p e below E0 T3 m 14 #[(sr x)] [(.int co)] := fun tgt kq => go3 tgt (by
    refine XS.goto X3.here hx rfl (pc0 := 10) (pc' := 14) rfl (D 4 rfl) (by decide) (by decide) ?_; exact kq)
  obtain ⟨fs, hr, hrun, hended, hW, hsame⟩ := X3.leave (v := some (.int (nar .byte co))) (fun h => by rw [Bd.returns] at h; cases h)
  refine ⟨_, _, go4 _ ?_, hrun, hended, _, _, rfl, ?_, ⟨_, rfl⟩, hW, hsame.mono (by decide) (by decide)⟩
  · exact retN X3 hx (t := .byte) Bd.returns (by simp) (D 5 rfl) hr
  · show QCO Z x co G fv h0 n0 _ T3.heap _
    rw [e3]
    exact ⟨by rw [hn], rfl, rfl⟩
theorem pd_17 : parseMethodDescriptor "()B" = some ⟨[], some .byte⟩ := by decide +kernel
def QLN (Z : State) (x : Addr) (t : Addr) (kb : ClassId) (zl : Int32) (bs : List Value) (co : Int32) (zn : Int32) (G : Int32) (fv : Value) (h0 : Heap) (n0 : Nat) (v : Option Value) (h : Heap) (L : List Loc) : Prop := v = some (.int zn) ∧ L = [] ∧ h = h0
abbrev RmLN : Room := ({ frames := 1, cells := 0, slots := 0, locals := 13 } : Room)
theorem rmLN (l : Launch) (Z : State) (a0 : Array Value) (hw : Tb a0 Z) (ws : List Jvm.Cond) (x : Addr) (t : Addr) (kb : ClassId) (zl : Int32) (bs : List Value) (co : Int32) (zn : Int32) (G : Int32) (fv : Value) (h0 : Heap) (n0 : Nat) (Z0 : n0 ≤ h0.size) (Ex : E1_ Z h0 x) (Fv : F6_ Z h0 x (.ref t)) (Fc : F5_ Z h0 x (.int co)) (hn : nar .byte co = co) (A0 : Yb Z h0 t kb zl bs) (hz : (zl >>> (co &&& 31)) = zn) (W0 : own_W Z G fv) (O0 : own_O Z n0 h0) :
    Met l Z h0 (⟨"java/lang/String", "length", "()I"⟩ : MethodName) jdk_42_method_54_code 1 (some .int) RmLN ws #[(.ref x)] (QLN Z x t kb zl bs co zn G fv h0 n0) := by
  refine MetFree.of_bodySF (plainFor_of_name pn_8) hisR ?_
  intro p e s m args below meth c s₁ Bd hml0 hP hK
  obtain ⟨rfl, hZ, hh⟩ := hP
  have hx := Bd.exec
  have hby := Bd.bytes
  have D := dl hby d19_
  have hml : c.maxLocals = 1 := hml0
  have hown : s.vm.findClass "java/lang/String" = some m.cls := findClass_of_methodNamed Bd.named
  have hnm := (name_of_methodNamed Bd.named Bd.method).1
  have X0 : Stand p l e RmLN s m #[(.ref x)] below meth c s₁ [] 0 0 := Stand.of_body Bd
  have e0 : s₁.heap = h0 := by rw [← hh, Bd.state]; rfl
  have N0 := Fr.nil n0
  obtain ⟨E0, hE0⟩ : ∃ z, z = s₁.setTop (entryFrame m #[(.ref x)] 1) := ⟨_, rfl⟩
  rw [← hE0]
  have go0 : Go p e below E0 s₁ m 0 #[(sr x)] [] := fun tgt kq => by rw [hE0]; exact castTop (ef_UL m x) kq
  have go1 : Go p e below E0 s₁ m 1 #[(sr x)] [(.ref x)] := fun tgt kq => go0 tgt (by
    refine XS.aloadN X0.here hx rfl (D 0 rfl) rfl rfl ?_; exact kq)
  obtain ⟨T2, X2, e2, go2⟩ := own_gF X0 hx hZ hown (wd hw 37 rfl) e0 Fv go1 (D 1 rfl)
  obtain ⟨c3, Ar3, q3, S3, M3, -, -⟩ := id A0
  have go4 : Go p e below E0 T2 m 6 #[(sr x)] [(.ref x), (.int zl)] := fun tgt kq => go2 tgt (by
    refine X2.arraylength hx (by rw [e2]; exact Ar3.1) (State.isArrayOf_alike hZ.alike Ar3.2.1) (g := (mkF m 4 #[(sr x)] [(.ref t)])) rfl rfl (D 2 rfl) _ ?_; rw [len_of S3 M3]; refine XS.aloadN X2.here hx rfl (D 3 rfl) rfl rfl ?_; exact kq)
  obtain ⟨_, T5, L5, X5, hQ5, go5⟩ := own_cV X2 hx hZ hown (wd hw 59 rfl) (wd hw 60 rfl) (wd hw 62 rfl) (wd hw 61 rfl) (wd hw 11 rfl) (wd hw 63 rfl) (by decide) (W := 1) (rmCO l Z a0 hw [] x co G fv h0 n0 Z0 Fc hn W0 O0) (by decide) (by decide) e2 (by decide) (by decide) Ex go4 hml.symm (argsL := []) (rest := [(.int zl)]) (lenOf pd_17 rfl) rfl rfl rfl (D 4 rfl)
  obtain ⟨rfl, rfl, e5⟩ := hQ5
  have N5 := Fr.app N0 (Fr.nil n0)
  have go6 : Go p e below E0 T5 m 10 #[(sr x)] [(.int (zl >>> (co &&& 31)))] := fun tgt kq => go5 tgt (by
    refine XS.ishr X5.here hx rfl (D 5 rfl) rfl ?_; exact kq)
  obtain ⟨fs, hr, hrun, hended, hW, hsame⟩ := X5.leave (v := some (.int (zl >>> (co &&& 31)))) (fun h => by rw [Bd.returns] at h; cases h)
  refine ⟨_, _, go6 _ ?_, hrun, hended, _, _, rfl, ?_, ⟨_, rfl⟩, hW, hsame.mono (by decide) (by decide)⟩
  · exact retOut X5 hx Bd.returns rfl (Or.inl ⟨rfl, Or.inl rfl, _, rfl⟩) (D 6 rfl) hr
  · show QLN Z x t kb zl bs co zn G fv h0 n0 _ T5.heap _
    rw [e5]
    exact ⟨by rw [← hz], rfl, rfl⟩
theorem pd_18 : parseMethodDescriptor "()Z" = some ⟨[], some .boolean⟩ := by decide +kernel
def QCB (Z : State) (x : Addr) (t : Addr) (kb : ClassId) (zl : Int32) (bs : List Value) (zn : Int32) (i : Int32) (q0 : Int32) (q1 : Int32) (ch : Int32) (G : Int32) (fv : Value) (h0 : Heap) (n0 : Nat) (v : Option Value) (h : Heap) (L : List Loc) : Prop := v = some (.int ch) ∧ L = [] ∧ h = h0
abbrev RmCB : Room := ({ frames := 4, cells := 0, slots := 0, locals := 53 } : Room)
theorem rmCB (l : Launch) (Z : State) (a0 : Array Value) (hw : Tb a0 Z) (ws : List Jvm.Cond) (x : Addr) (t : Addr) (kb : ClassId) (zl : Int32) (bs : List Value) (zn : Int32) (i : Int32) (q0 : Int32) (q1 : Int32) (ch : Int32) (G : Int32) (fv : Value) (h0 : Heap) (n0 : Nat) (Z0 : n0 ≤ h0.size) (Ex : E1_ Z h0 x) (Fv : F6_ Z h0 x (.ref t)) (Fc : F5_ Z h0 x (.int (1 : Int32))) (A0 : Yb Z h0 t kb zl bs) (j0 : ¬ (i <<< ((1 : Int32) &&& 31)) < 0 ∧ (i <<< ((1 : Int32) &&& 31)) < zl) (t0 : bs.getD (i <<< ((1 : Int32) &&& 31)).toNatClampNeg (.int (0 : Int32)) = .int q0) (j1 : ¬ ((i <<< ((1 : Int32) &&& 31)) + (1 : Int32)) < 0 ∧ ((i <<< ((1 : Int32) &&& 31)) + (1 : Int32)) < zl) (t1 : bs.getD ((i <<< ((1 : Int32) &&& 31)) + (1 : Int32)).toNatClampNeg (.int (0 : Int32)) = .int q1) (hc : nar .char ((((q0 &&& (255 : Int32)) <<< ((0 : Int32) &&& 31)) ||| ((q1 &&& (255 : Int32)) <<< ((8 : Int32) &&& 31))).toUInt32.toUInt16.toUInt32.toInt32) = ch) (hz : (zl >>> ((1 : Int32) &&& 31)) = zn) (h1 : ¬ i < 0) (h2 : i < zn) (hn : nar .char ch = ch) (W0 : own_W Z G fv) (O0 : own_O Z n0 h0) :
    Met l Z h0 y1_ jdk_42_method_56_code 2 (some .char) RmCB ws #[(.ref x), (.int i)] (QCB Z x t kb zl bs zn i q0 q1 ch G fv h0 n0) := by
  refine MetFree.of_bodySF (plainFor_of_name pn_8) hisR ?_
  intro p e s m args below meth c s₁ Bd hml0 hP hK
  obtain ⟨rfl, hZ, hh⟩ := hP
  have hx := Bd.exec
  have hby := Bd.bytes
  have D := dl hby d20_
  have hml : c.maxLocals = 2 := hml0
  have hown : s.vm.findClass "java/lang/String" = some m.cls := findClass_of_methodNamed Bd.named
  have hnm := (name_of_methodNamed Bd.named Bd.method).1
  have X0 : Stand p l e RmCB s m #[(.ref x), (.int i)] below meth c s₁ [] 0 0 := Stand.of_body Bd
  have e0 : s₁.heap = h0 := by rw [← hh, Bd.state]; rfl
  have N0 := Fr.nil n0
  obtain ⟨E0, hE0⟩ : ∃ z, z = s₁.setTop (entryFrame m #[(.ref x), (.int i)] 2) := ⟨_, rfl⟩
  rw [← hE0]
  have go0 : Go p e below E0 s₁ m 0 #[(sr x), (si i)] [] := fun tgt kq => by rw [hE0]; exact castTop (ef_GC m x i) kq
  have go1 : Go p e below E0 s₁ m 1 #[(sr x), (si i)] [(.ref x)] := fun tgt kq => go0 tgt (by
    refine XS.aloadN X0.here hx rfl (D 0 rfl) rfl rfl ?_; exact kq)
  obtain ⟨_, T2, L2, X2, hQ2, go2⟩ := own_cV X0 hx hZ hown (wd hw 69 rfl) (wd hw 70 rfl) (wd hw 72 rfl) (wd hw 71 rfl) (wd hw 11 rfl) (wd hw 73 rfl) (by decide) (W := 0) (rmIL1 l Z a0 hw [] x G fv h0 n0 Z0 Fc W0 O0) (by decide) (by decide) e0 (by decide) (by decide) Ex go1 hml.symm (argsL := []) (rest := []) (lenOf pd_18 rfl) rfl rfl rfl (D 1 rfl)
  obtain ⟨rfl, rfl, e2⟩ := hQ2
  have N2 := Fr.app N0 (Fr.nil n0)
  have go3 : Go p e below E0 T2 m 17 #[(sr x), (si i)] [(.ref x)] := fun tgt kq => go2 tgt (by
    refine XS.ifYes X2.here hx rfl (pc0 := 4) (pc' := 16) rfl (D 2 rfl) rfl ((if0 _ _).trans (teq rfl).1) (by decide) (by decide) ?_; refine XS.aloadN X2.here hx rfl (D 3 rfl) rfl rfl ?_; exact kq)
  obtain ⟨T4, X4, e4, go4⟩ := own_gF X2 hx hZ hown (wd hw 37 rfl) e2 Fv go3 (D 4 rfl)
  have go5 : Go p e below E0 T4 m 21 #[(sr x), (si i)] [(.int i), (.ref t)] := fun tgt kq => go4 tgt (by
    refine XS.iloadN X4.here hx rfl (D 5 rfl) rfl ?_; exact kq)
  obtain ⟨_, T6, L6, X6, hQ6, go6⟩ := own_cS X4 hx hZ hown (wd hw 284 rfl) (wd hw 285 rfl) (wd hw 26 rfl) (wd hw 286 rfl) (by decide) (W := 0) (rmUA l Z a0 hw [] t kb zl bs zn i q0 q1 ch G fv h0 n0 Z0 A0 j0 t0 j1 t1 hc hz h1 h2 hn W0 O0) (by decide) (by decide) e4 (by decide) (by decide) go5 hml.symm (argsL := [(.ref t), (.int i)]) (rest := []) (lenOf pd_6 rfl) rfl rfl rfl (D 6 rfl)
  obtain ⟨rfl, rfl, e6⟩ := hQ6
  have N6 := Fr.app N2 (Fr.nil n0)
  obtain ⟨fs, hr, hrun, hended, hW, hsame⟩ := X6.leave (v := some (.int (nar .char ch))) (fun h => by rw [Bd.returns] at h; cases h)
  refine ⟨_, _, go6 _ ?_, hrun, hended, _, _, rfl, ?_, ⟨_, rfl⟩, hW, hsame.mono (by decide) (by decide)⟩
  · exact retN X6 hx (t := .char) Bd.returns (by simp) (D 7 rfl) hr
  · show QCB Z x t kb zl bs zn i q0 q1 ch G fv h0 n0 _ T6.heap _
    rw [e6]
    exact ⟨by rw [hn], rfl, rfl⟩
def QCA (Z : State) (x : Addr) (t : Addr) (kb : ClassId) (zl : Int32) (bs : List Value) (i : Int32) (b : Int32) (ch : Int32) (G : Int32) (fv : Value) (h0 : Heap) (n0 : Nat) (v : Option Value) (h : Heap) (L : List Loc) : Prop := v = some (.int ch) ∧ L = [] ∧ h = h0
abbrev RmCA : Room := ({ frames := 4, cells := 0, slots := 0, locals := 53 } : Room)
theorem rmCA (l : Launch) (Z : State) (a0 : Array Value) (hw : Tb a0 Z) (ws : List Jvm.Cond) (x : Addr) (t : Addr) (kb : ClassId) (zl : Int32) (bs : List Value) (i : Int32) (b : Int32) (ch : Int32) (G : Int32) (fv : Value) (h0 : Heap) (n0 : Nat) (Z0 : n0 ≤ h0.size) (Ex : E1_ Z h0 x) (Fv : F6_ Z h0 x (.ref t)) (Fc : F5_ Z h0 x (.int (0 : Int32))) (A0 : Yb Z h0 t kb zl bs) (h1 : ¬ i < 0) (h2 : i < zl) (hb_ : bs.getD i.toNatClampNeg (.int (0 : Int32)) = .int b) (hc : nar .char ((b &&& (255 : Int32)).toUInt32.toUInt16.toUInt32.toInt32) = ch) (hn : nar .char ch = ch) (W0 : own_W Z G fv) (O0 : own_O Z n0 h0) :
    Met l Z h0 y1_ jdk_42_method_56_code 2 (some .char) RmCA ws #[(.ref x), (.int i)] (QCA Z x t kb zl bs i b ch G fv h0 n0) := by
  refine MetFree.of_bodySF (plainFor_of_name pn_8) hisR ?_
  intro p e s m args below meth c s₁ Bd hml0 hP hK
  obtain ⟨rfl, hZ, hh⟩ := hP
  have hx := Bd.exec
  have hby := Bd.bytes
  have D := dl hby d20_
  have hml : c.maxLocals = 2 := hml0
  have hown : s.vm.findClass "java/lang/String" = some m.cls := findClass_of_methodNamed Bd.named
  have hnm := (name_of_methodNamed Bd.named Bd.method).1
  have X0 : Stand p l e RmCA s m #[(.ref x), (.int i)] below meth c s₁ [] 0 0 := Stand.of_body Bd
  have e0 : s₁.heap = h0 := by rw [← hh, Bd.state]; rfl
  have N0 := Fr.nil n0
  obtain ⟨E0, hE0⟩ : ∃ z, z = s₁.setTop (entryFrame m #[(.ref x), (.int i)] 2) := ⟨_, rfl⟩
  rw [← hE0]
  have go0 : Go p e below E0 s₁ m 0 #[(sr x), (si i)] [] := fun tgt kq => by rw [hE0]; exact castTop (ef_GC m x i) kq
  have go1 : Go p e below E0 s₁ m 1 #[(sr x), (si i)] [(.ref x)] := fun tgt kq => go0 tgt (by
    refine XS.aloadN X0.here hx rfl (D 0 rfl) rfl rfl ?_; exact kq)
  obtain ⟨_, T2, L2, X2, hQ2, go2⟩ := own_cV X0 hx hZ hown (wd hw 69 rfl) (wd hw 70 rfl) (wd hw 72 rfl) (wd hw 71 rfl) (wd hw 11 rfl) (wd hw 73 rfl) (by decide) (W := 0) (rmIL0 l Z a0 hw [] x G fv h0 n0 Z0 Fc W0 O0) (by decide) (by decide) e0 (by decide) (by decide) Ex go1 hml.symm (argsL := []) (rest := []) (lenOf pd_18 rfl) rfl rfl rfl (D 1 rfl)
  obtain ⟨rfl, rfl, e2⟩ := hQ2
  have N2 := Fr.app N0 (Fr.nil n0)
  have go3 : Go p e below E0 T2 m 8 #[(sr x), (si i)] [(.ref x)] := fun tgt kq => go2 tgt (by
    refine XS.ifNo X2.here hx rfl (D 2 rfl) rfl ((if0 _ _).trans (feq (by decide)).1) ?_; refine XS.aloadN X2.here hx rfl (D 8 rfl) rfl rfl ?_; exact kq)
  obtain ⟨T4, X4, e4, go4⟩ := own_gF X2 hx hZ hown (wd hw 37 rfl) e2 Fv go3 (D 9 rfl)
  have go5 : Go p e below E0 T4 m 12 #[(sr x), (si i)] [(.int i), (.ref t)] := fun tgt kq => go4 tgt (by
    refine XS.iloadN X4.here hx rfl (D 10 rfl) rfl ?_; exact kq)
  obtain ⟨_, T6, L6, X6, hQ6, go6⟩ := own_cS X4 hx hZ hown (wd hw 74 rfl) (wd hw 75 rfl) (wd hw 76 rfl) (wd hw 77 rfl) (by decide) (W := 0) (rmLC l Z a0 hw [] t kb zl bs i b ch G fv h0 n0 Z0 A0 h1 h2 hb_ hc W0 O0) (by decide) (by decide) e4 (by decide) (by decide) go5 hml.symm (argsL := [(.ref t), (.int i)]) (rest := []) (lenOf pd_6 rfl) rfl rfl rfl (D 11 rfl)
  obtain ⟨rfl, rfl, e6⟩ := hQ6
  have N6 := Fr.app N2 (Fr.nil n0)
  obtain ⟨fs, hr, hrun, hended, hW, hsame⟩ := X6.leave (v := some (.int (nar .char ch))) (fun h => by rw [Bd.returns] at h; cases h)
  refine ⟨_, _, go6 _ ?_, hrun, hended, _, _, rfl, ?_, ⟨_, rfl⟩, hW, hsame.mono (by decide) (by decide)⟩
  · exact retN X6 hx (t := .char) Bd.returns (by simp) (D 12 rfl) hr
  · show QCA Z x t kb zl bs i b ch G fv h0 n0 _ T6.heap _
    rw [e6]
    exact ⟨by rw [hn], rfl, rfl⟩
def QCH (Z : State) (x : Addr) (t : Addr) (kx : ClassId) (cs : List Int32) (k : Nat) (cc : Int32) (G : Int32) (fv : Value) (h0 : Heap) (n0 : Nat) (v : Option Value) (h : Heap) (L : List Loc) : Prop := v = some (.int cc) ∧ L = [] ∧ h = h0
theorem rmCH (l : Launch) (Z : State) (a0 : Array Value) (hw : Tb a0 Z) (ws : List Jvm.Cond) (x : Addr) (t : Addr) (kx : ClassId) (cs : List Int32) (k : Nat) (cc : Int32) (G : Int32) (fv : Value) (h0 : Heap) (n0 : Nat) (Z0 : n0 ≤ h0.size) (Ex : E1_ Z h0 x) (Fv : F6_ Z h0 x (.ref t)) (Fc : F5_ Z h0 x (.int (own_co cs))) (Ax : Yb Z h0 t kx (Int32.ofNat (own_k cs * cs.length)) (own_by cs)) (hcc : cs[k]? = some cc) (hl : cs.length ≤ 520) (hwf : ∀ c ∈ cs, own_ch c) (W0 : own_W Z G fv) (O0 : own_O Z n0 h0) :
    Met l Z h0 y1_ jdk_42_method_56_code 2 (some .char) ({ frames := 4, cells := 0, slots := 0, locals := 53 } : Room) ws #[(.ref x), (.int (Int32.ofNat k))] (QCH Z x t kx cs k cc G fv h0 n0) := by
  have hlt : k < cs.length := (List.getElem?_eq_some_iff.mp hcc).1
  have hm := List.mem_of_getElem? hcc
  by_cases h1 : own_l1 cs = true
  · rw [own_c0 h1] at Fc; rw [own_by0 h1, own_k0 h1, Nat.one_mul] at Ax
    exact rmCA l Z a0 hw ws x t kx (Int32.ofNat cs.length) (own_lats cs) (Int32.ofNat k) (own_lo cc) cc G fv h0 n0 Z0 Ex Fv Fc Ax (own_nn (by omega)) (own_lt (by omega) hlt) (by rw [own_cl (by omega)]; exact own_lats_at hcc) (own_lat (hwf _ hm).1 (own_l1_iff.mp h1 _ hm)) (hwf _ hm).2.2 W0 O0
  · rw [own_c1 h1] at Fc; rw [own_by1 h1, own_k1 h1] at Ax
    exact rmCB l Z a0 hw ws x t kx (Int32.ofNat (2 * cs.length)) (own_flat cs) (Int32.ofNat cs.length) (Int32.ofNat k) (own_b0 cc) (own_b1 cc) cc G fv h0 n0 Z0 Ex Fv Fc Ax (by rw [own_shl (by omega)]; exact ⟨own_nn (by omega), own_lt (by omega) (by omega)⟩) (by rw [own_shl (by omega), own_cl (by omega)]; exact (own_flat_at hcc).1) (by rw [own_shl (by omega), own_succ]; exact ⟨own_nn (by omega), own_lt (by omega) (by omega)⟩) (by rw [own_shl (by omega), own_succ, own_cl (by omega)]; exact (own_flat_at hcc).2) (own_utfc (hwf _ (List.mem_of_getElem? hcc))) (own_shr (by omega)) (own_nn (by omega)) (own_lt (by omega) hlt) (hwf _ hm).2.2 W0 O0
theorem pn_19 : plainName "com/example/portunus/portunus/core/KeySpaceLockKeyPinLaw" = true := by first | (simp [plainName, overriddenIn]; done) | decide +kernel
theorem ef_PH (m : MethodId) (x0 : Int32) : entryFrame m #[(.int x0)] 2 = mkF m 0 #[.val (.int x0), .unset] [] := by first | (simp [entryFrame, mkF, argsToLocals, Value.category, maxLocals]; done) | rfl
def QPH (Z : State) (q : Int32) (h0 : Heap) (n0 : Nat) (v : Option Value) (h : Heap) (L : List Loc) : Prop := ∃ r : Int32, v = some (.int r) ∧ L = [] ∧ h = h0 ∧ own_pch r
abbrev RmPH : Room := ({ frames := 0, cells := 0, slots := 0, locals := 0 } : Room)
theorem rmPH (l : Launch) (Z : State) (a0 : Array Value) (hw : Tb a0 Z) (ws : List Jvm.Cond) (q : Int32) (h0 : Heap) (n0 : Nat) (Z0 : n0 ≤ h0.size) :
    Met l Z h0 (⟨"com/example/portunus/portunus/core/KeySpaceLockKeyPinLaw", "pc", "(I)C"⟩ : MethodName) method_2_code 2 (some .char) RmPH ws #[(.int q)] (QPH Z q h0 n0) := by
  refine MetFree.of_bodySF (plainFor_of_name pn_19) hisR ?_
  intro p e s m args below meth c s₁ Bd hml0 hP hK
  obtain ⟨rfl, hZ, hh⟩ := hP
  have hx := Bd.exec
  have hby := Bd.bytes
  have D := dl hby d21_
  have hml : c.maxLocals = 2 := hml0
  have hown : s.vm.findClass "com/example/portunus/portunus/core/KeySpaceLockKeyPinLaw" = some m.cls := findClass_of_methodNamed Bd.named
  have hnm := (name_of_methodNamed Bd.named Bd.method).1
  have X0 : Stand p l e RmPH s m #[(.int q)] below meth c s₁ [] 0 0 := Stand.of_body Bd
  have e0 : s₁.heap = h0 := by rw [← hh, Bd.state]; rfl
  have N0 := Fr.nil n0
  obtain ⟨E0, hE0⟩ : ∃ z, z = s₁.setTop (entryFrame m #[(.int q)] 2) := ⟨_, rfl⟩
  rw [← hE0]
  have go0 : Go p e below E0 s₁ m 0 #[(si q), .unset] [] := fun tgt kq => by rw [hE0]; exact castTop (ef_PH m q) kq
  obtain ⟨v1, hv1⟩ : ∃ z : Int32, z = (q &&& (65535 : Int32)) := ⟨_, rfl⟩
  have go1 : Go p e below E0 s₁ m 5 #[(si q), (si v1)] [] := fun tgt kq => go0 tgt (by
    rw [hv1] at kq
    refine XS.iloadN X0.here hx rfl (D 0 rfl) rfl ?_; refine X0.ldcInt hx hown (wm hw hZ 4 rfl) (g := (mkF m 1 #[(si q), .unset] [(.int q)])) rfl (D 1 rfl) _ ?_; refine XS.iand X0.here hx rfl (D 2 rfl) rfl ?_; refine XS.istoreN X0.here hx rfl (D 3 rfl) rfl (l' := #[(si q), (si (q &&& (65535 : Int32)))]) rfl ?_; exact kq)
  have b1 := own_m16 q
  rw [← hv1] at b1
  have b2 := own_m8 v1
  have go2 : Go p e below E0 s₁ m 8 #[(si q), (si v1)] [(.int 55296), (.int v1)] := fun tgt kq => go1 tgt (by
    refine XS.iloadN X0.here hx rfl (D 4 rfl) rfl ?_; refine X0.ldcInt hx hown (wm hw hZ 5 rfl) (g := (mkF m 6 #[(si q), (si v1)] [(.int v1)])) rfl (D 5 rfl) _ ?_; exact kq)
  by_cases u0 : v1 < (55296 : Int32)
  · have go3 : Go p e below E0 s₁ m 26 #[(si q), (si v1)] [(.int 123), (.int v1)] := fun tgt kq => go2 tgt (by
      refine XS.icmpYes X0.here hx rfl (pc0 := 8) (pc' := 23) rfl (D 6 rfl) rfl (tlt u0).1 (by decide) (by decide) ?_; refine XS.iloadN X0.here hx rfl (D 7 rfl) rfl ?_; refine XS.bipush X0.here hx rfl (D 8 rfl) ?_; exact kq)
    by_cases u1 : v1 = (123 : Int32)
    · have go4 : Go p e below E0 s₁ m 40 #[(si q), (si 112)] [(.int ((112 : Int32).toUInt32.toUInt16.toUInt32.toInt32))] := fun tgt kq => go3 tgt (by
        refine XS.icmpYes X0.here hx rfl (pc0 := 26) (pc' := 35) rfl (D 9 rfl) rfl (teq u1).1 (by decide) (by decide) ?_; refine XS.bipush X0.here hx rfl (D 10 rfl) ?_; refine XS.istoreN X0.here hx rfl (D 11 rfl) rfl (l' := #[(si q), (si 112)]) rfl ?_; refine XS.iloadN X0.here hx rfl (D 12 rfl) rfl ?_; refine XS.i2c X0.here hx rfl (D 13 rfl) rfl ?_; exact kq)
      obtain ⟨fs, hr, hrun, hended, hW, hsame⟩ := X0.leave (v := some (.int (nar .char ((112 : Int32).toUInt32.toUInt16.toUInt32.toInt32)))) (fun h => by rw [Bd.returns] at h; cases h)
      refine ⟨_, _, go4 _ ?_, hrun, hended, _, _, rfl, ?_, ⟨_, rfl⟩, hW, hsame.mono (by decide) (by decide)⟩
      · exact retN X0 hx (t := .char) Bd.returns (by simp) (D 14 rfl) hr
      · show QPH Z q h0 n0 _ s₁.heap _
        rw [e0]
        exact ⟨(112 : Int32), congrArg (fun q => some (Value.int q)) (own_i2c (own_ch_of (by first | decide | (simp only [own_ns, Int32.lt_iff_toInt_lt, ← Int32.toInt_inj, Int32.reduceToInt] at b1 b2 u0 u1 ⊢ <;> omega)) (by first | decide | (simp only [own_ns, Int32.lt_iff_toInt_lt, ← Int32.toInt_inj, Int32.reduceToInt] at b1 b2 u0 u1 ⊢ <;> omega))).2.2), rfl, rfl, own_ch_of (by first | decide | (simp only [own_ns, Int32.lt_iff_toInt_lt, ← Int32.toInt_inj, Int32.reduceToInt] at b1 b2 u0 u1 ⊢ <;> omega)) (by first | decide | (simp only [own_ns, Int32.lt_iff_toInt_lt, ← Int32.toInt_inj, Int32.reduceToInt] at b1 b2 u0 u1 ⊢ <;> omega)), (by first | decide | (simp only [own_ns, Int32.lt_iff_toInt_lt, ← Int32.toInt_inj, Int32.reduceToInt] at b1 b2 u0 u1 ⊢ <;> omega)), (by first | decide | (simp only [own_ns, Int32.lt_iff_toInt_lt, ← Int32.toInt_inj, Int32.reduceToInt] at b1 b2 u0 u1 ⊢ <;> omega)), (by first | decide | (simp only [own_ns, Int32.lt_iff_toInt_lt, ← Int32.toInt_inj, Int32.reduceToInt] at b1 b2 u0 u1 ⊢ <;> omega))⟩
    · have go5 : Go p e below E0 s₁ m 32 #[(si q), (si v1)] [(.int 125), (.int v1)] := fun tgt kq => go3 tgt (by
        refine XS.icmpNo X0.here hx rfl (D 9 rfl) rfl (feq u1).1 ?_; refine XS.iloadN X0.here hx rfl (D 15 rfl) rfl ?_; refine XS.bipush X0.here hx rfl (D 16 rfl) ?_; exact kq)
      by_cases u2 : v1 = (125 : Int32)
      · have go6 : Go p e below E0 s₁ m 40 #[(si q), (si 112)] [(.int ((112 : Int32).toUInt32.toUInt16.toUInt32.toInt32))] := fun tgt kq => go5 tgt (by
          refine XS.icmpNo X0.here hx rfl (D 17 rfl) rfl (teq u2).2 ?_; refine XS.bipush X0.here hx rfl (D 10 rfl) ?_; refine XS.istoreN X0.here hx rfl (D 11 rfl) rfl (l' := #[(si q), (si 112)]) rfl ?_; refine XS.iloadN X0.here hx rfl (D 12 rfl) rfl ?_; refine XS.i2c X0.here hx rfl (D 13 rfl) rfl ?_; exact kq)
        obtain ⟨fs, hr, hrun, hended, hW, hsame⟩ := X0.leave (v := some (.int (nar .char ((112 : Int32).toUInt32.toUInt16.toUInt32.toInt32)))) (fun h => by rw [Bd.returns] at h; cases h)
        refine ⟨_, _, go6 _ ?_, hrun, hended, _, _, rfl, ?_, ⟨_, rfl⟩, hW, hsame.mono (by decide) (by decide)⟩
        · exact retN X0 hx (t := .char) Bd.returns (by simp) (D 14 rfl) hr
        · show QPH Z q h0 n0 _ s₁.heap _
          rw [e0]
          exact ⟨(112 : Int32), congrArg (fun q => some (Value.int q)) (own_i2c (own_ch_of (by first | decide | (simp only [own_ns, Int32.lt_iff_toInt_lt, ← Int32.toInt_inj, Int32.reduceToInt] at b1 b2 u0 u1 u2 ⊢ <;> omega)) (by first | decide | (simp only [own_ns, Int32.lt_iff_toInt_lt, ← Int32.toInt_inj, Int32.reduceToInt] at b1 b2 u0 u1 u2 ⊢ <;> omega))).2.2), rfl, rfl, own_ch_of (by first | decide | (simp only [own_ns, Int32.lt_iff_toInt_lt, ← Int32.toInt_inj, Int32.reduceToInt] at b1 b2 u0 u1 u2 ⊢ <;> omega)) (by first | decide | (simp only [own_ns, Int32.lt_iff_toInt_lt, ← Int32.toInt_inj, Int32.reduceToInt] at b1 b2 u0 u1 u2 ⊢ <;> omega)), (by first | decide | (simp only [own_ns, Int32.lt_iff_toInt_lt, ← Int32.toInt_inj, Int32.reduceToInt] at b1 b2 u0 u1 u2 ⊢ <;> omega)), (by first | decide | (simp only [own_ns, Int32.lt_iff_toInt_lt, ← Int32.toInt_inj, Int32.reduceToInt] at b1 b2 u0 u1 u2 ⊢ <;> omega)), (by first | decide | (simp only [own_ns, Int32.lt_iff_toInt_lt, ← Int32.toInt_inj, Int32.reduceToInt] at b1 b2 u0 u1 u2 ⊢ <;> omega))⟩
      · have go7 : Go p e below E0 s₁ m 40 #[(si q), (si v1)] [(.int (v1.toUInt32.toUInt16.toUInt32.toInt32))] := fun tgt kq => go5 tgt (by
          refine XS.icmpYes X0.here hx rfl (pc0 := 32) (pc' := 38) rfl (D 17 rfl) rfl (feq u2).2 (by decide) (by decide) ?_; refine XS.iloadN X0.here hx rfl (D 12 rfl) rfl ?_; refine XS.i2c X0.here hx rfl (D 13 rfl) rfl ?_; exact kq)
        obtain ⟨fs, hr, hrun, hended, hW, hsame⟩ := X0.leave (v := some (.int (nar .char (v1.toUInt32.toUInt16.toUInt32.toInt32)))) (fun h => by rw [Bd.returns] at h; cases h)
        refine ⟨_, _, go7 _ ?_, hrun, hended, _, _, rfl, ?_, ⟨_, rfl⟩, hW, hsame.mono (by decide) (by decide)⟩
        · exact retN X0 hx (t := .char) Bd.returns (by simp) (D 14 rfl) hr
        · show QPH Z q h0 n0 _ s₁.heap _
          rw [e0]
          exact ⟨v1, congrArg (fun q => some (Value.int q)) (own_i2c (own_ch_of (by first | decide | (simp only [own_ns, Int32.lt_iff_toInt_lt, ← Int32.toInt_inj, Int32.reduceToInt] at b1 b2 u0 u1 u2 ⊢ <;> omega)) (by first | decide | (simp only [own_ns, Int32.lt_iff_toInt_lt, ← Int32.toInt_inj, Int32.reduceToInt] at b1 b2 u0 u1 u2 ⊢ <;> omega))).2.2), rfl, rfl, own_ch_of (by first | decide | (simp only [own_ns, Int32.lt_iff_toInt_lt, ← Int32.toInt_inj, Int32.reduceToInt] at b1 b2 u0 u1 u2 ⊢ <;> omega)) (by first | decide | (simp only [own_ns, Int32.lt_iff_toInt_lt, ← Int32.toInt_inj, Int32.reduceToInt] at b1 b2 u0 u1 u2 ⊢ <;> omega)), (by first | decide | (simp only [own_ns, Int32.lt_iff_toInt_lt, ← Int32.toInt_inj, Int32.reduceToInt] at b1 b2 u0 u1 u2 ⊢ <;> omega)), (by first | decide | (simp only [own_ns, Int32.lt_iff_toInt_lt, ← Int32.toInt_inj, Int32.reduceToInt] at b1 b2 u0 u1 u2 ⊢ <;> omega)), (by first | decide | (simp only [own_ns, Int32.lt_iff_toInt_lt, ← Int32.toInt_inj, Int32.reduceToInt] at b1 b2 u0 u1 u2 ⊢ <;> omega))⟩
  · have go8 : Go p e below E0 s₁ m 14 #[(si q), (si v1)] [(.int 57343), (.int v1)] := fun tgt kq => go2 tgt (by
      refine XS.icmpNo X0.here hx rfl (D 6 rfl) rfl (flt u0).1 ?_; refine XS.iloadN X0.here hx rfl (D 18 rfl) rfl ?_; refine X0.ldcInt hx hown (wm hw hZ 264 rfl) (g := (mkF m 12 #[(si q), (si v1)] [(.int v1)])) rfl (D 19 rfl) _ ?_; exact kq)
    by_cases u1 : (57343 : Int32) < v1
    · have go9 : Go p e below E0 s₁ m 40 #[(si q), (si v1)] [(.int (v1.toUInt32.toUInt16.toUInt32.toInt32))] := fun tgt kq => go8 tgt (by
        refine XS.icmpYes X0.here hx rfl (pc0 := 14) (pc' := 23) rfl (D 20 rfl) rfl (tlt u1).2.2.1 (by decide) (by decide) ?_; refine XS.iloadN X0.here hx rfl (D 7 rfl) rfl ?_; refine XS.bipush X0.here hx rfl (D 8 rfl) ?_; refine XS.icmpNo X0.here hx rfl (D 9 rfl) rfl (feq (by simp only [Int32.lt_iff_toInt_lt, ← Int32.toInt_inj, Int32.reduceToInt] at b1 b2 u0 u1 ⊢; omega : ¬ v1 = (123 : Int32))).1 ?_; refine XS.iloadN X0.here hx rfl (D 15 rfl) rfl ?_; refine XS.bipush X0.here hx rfl (D 16 rfl) ?_; refine XS.icmpYes X0.here hx rfl (pc0 := 32) (pc' := 38) rfl (D 17 rfl) rfl (feq (by simp only [Int32.lt_iff_toInt_lt, ← Int32.toInt_inj, Int32.reduceToInt] at b1 b2 u0 u1 ⊢; omega : ¬ v1 = (125 : Int32))).2 (by decide) (by decide) ?_; refine XS.iloadN X0.here hx rfl (D 12 rfl) rfl ?_; refine XS.i2c X0.here hx rfl (D 13 rfl) rfl ?_; exact kq)
      obtain ⟨fs, hr, hrun, hended, hW, hsame⟩ := X0.leave (v := some (.int (nar .char (v1.toUInt32.toUInt16.toUInt32.toInt32)))) (fun h => by rw [Bd.returns] at h; cases h)
      refine ⟨_, _, go9 _ ?_, hrun, hended, _, _, rfl, ?_, ⟨_, rfl⟩, hW, hsame.mono (by decide) (by decide)⟩
      · exact retN X0 hx (t := .char) Bd.returns (by simp) (D 14 rfl) hr
      · show QPH Z q h0 n0 _ s₁.heap _
        rw [e0]
        exact ⟨v1, congrArg (fun q => some (Value.int q)) (own_i2c (own_ch_of (by first | decide | (simp only [own_ns, Int32.lt_iff_toInt_lt, ← Int32.toInt_inj, Int32.reduceToInt] at b1 b2 u0 u1 ⊢ <;> omega)) (by first | decide | (simp only [own_ns, Int32.lt_iff_toInt_lt, ← Int32.toInt_inj, Int32.reduceToInt] at b1 b2 u0 u1 ⊢ <;> omega))).2.2), rfl, rfl, own_ch_of (by first | decide | (simp only [own_ns, Int32.lt_iff_toInt_lt, ← Int32.toInt_inj, Int32.reduceToInt] at b1 b2 u0 u1 ⊢ <;> omega)) (by first | decide | (simp only [own_ns, Int32.lt_iff_toInt_lt, ← Int32.toInt_inj, Int32.reduceToInt] at b1 b2 u0 u1 ⊢ <;> omega)), (by first | decide | (simp only [own_ns, Int32.lt_iff_toInt_lt, ← Int32.toInt_inj, Int32.reduceToInt] at b1 b2 u0 u1 ⊢ <;> omega)), (by first | decide | (simp only [own_ns, Int32.lt_iff_toInt_lt, ← Int32.toInt_inj, Int32.reduceToInt] at b1 b2 u0 u1 ⊢ <;> omega)), (by first | decide | (simp only [own_ns, Int32.lt_iff_toInt_lt, ← Int32.toInt_inj, Int32.reduceToInt] at b1 b2 u0 u1 ⊢ <;> omega))⟩
    · have go10 : Go p e below E0 s₁ m 26 #[(si q), (si (v1 &&& (255 : Int32)))] [(.int 123), (.int (v1 &&& (255 : Int32)))] := fun tgt kq => go8 tgt (by
        refine XS.icmpNo X0.here hx rfl (D 20 rfl) rfl (flt u1).2.2.1 ?_; refine XS.iloadN X0.here hx rfl (D 21 rfl) rfl ?_; refine XS.sipush X0.here hx rfl (D 22 rfl) ?_; refine XS.iand X0.here hx rfl (D 23 rfl) rfl ?_; refine XS.istoreN X0.here hx rfl (D 24 rfl) rfl (l' := #[(si q), (si (v1 &&& (255 : Int32)))]) rfl ?_; refine XS.iloadN X0.here hx rfl (D 7 rfl) rfl ?_; refine XS.bipush X0.here hx rfl (D 8 rfl) ?_; exact kq)
      by_cases u2 : (v1 &&& (255 : Int32)) = (123 : Int32)
      · have go11 : Go p e below E0 s₁ m 40 #[(si q), (si 112)] [(.int ((112 : Int32).toUInt32.toUInt16.toUInt32.toInt32))] := fun tgt kq => go10 tgt (by
          refine XS.icmpYes X0.here hx rfl (pc0 := 26) (pc' := 35) rfl (D 9 rfl) rfl (teq u2).1 (by decide) (by decide) ?_; refine XS.bipush X0.here hx rfl (D 10 rfl) ?_; refine XS.istoreN X0.here hx rfl (D 11 rfl) rfl (l' := #[(si q), (si 112)]) rfl ?_; refine XS.iloadN X0.here hx rfl (D 12 rfl) rfl ?_; refine XS.i2c X0.here hx rfl (D 13 rfl) rfl ?_; exact kq)
        obtain ⟨fs, hr, hrun, hended, hW, hsame⟩ := X0.leave (v := some (.int (nar .char ((112 : Int32).toUInt32.toUInt16.toUInt32.toInt32)))) (fun h => by rw [Bd.returns] at h; cases h)
        refine ⟨_, _, go11 _ ?_, hrun, hended, _, _, rfl, ?_, ⟨_, rfl⟩, hW, hsame.mono (by decide) (by decide)⟩
        · exact retN X0 hx (t := .char) Bd.returns (by simp) (D 14 rfl) hr
        · show QPH Z q h0 n0 _ s₁.heap _
          rw [e0]
          exact ⟨(112 : Int32), congrArg (fun q => some (Value.int q)) (own_i2c (own_ch_of (by first | decide | (simp only [own_ns, Int32.lt_iff_toInt_lt, ← Int32.toInt_inj, Int32.reduceToInt] at b1 b2 u0 u1 u2 ⊢ <;> omega)) (by first | decide | (simp only [own_ns, Int32.lt_iff_toInt_lt, ← Int32.toInt_inj, Int32.reduceToInt] at b1 b2 u0 u1 u2 ⊢ <;> omega))).2.2), rfl, rfl, own_ch_of (by first | decide | (simp only [own_ns, Int32.lt_iff_toInt_lt, ← Int32.toInt_inj, Int32.reduceToInt] at b1 b2 u0 u1 u2 ⊢ <;> omega)) (by first | decide | (simp only [own_ns, Int32.lt_iff_toInt_lt, ← Int32.toInt_inj, Int32.reduceToInt] at b1 b2 u0 u1 u2 ⊢ <;> omega)), (by first | decide | (simp only [own_ns, Int32.lt_iff_toInt_lt, ← Int32.toInt_inj, Int32.reduceToInt] at b1 b2 u0 u1 u2 ⊢ <;> omega)), (by first | decide | (simp only [own_ns, Int32.lt_iff_toInt_lt, ← Int32.toInt_inj, Int32.reduceToInt] at b1 b2 u0 u1 u2 ⊢ <;> omega)), (by first | decide | (simp only [own_ns, Int32.lt_iff_toInt_lt, ← Int32.toInt_inj, Int32.reduceToInt] at b1 b2 u0 u1 u2 ⊢ <;> omega))⟩
      · have go12 : Go p e below E0 s₁ m 32 #[(si q), (si (v1 &&& (255 : Int32)))] [(.int 125), (.int (v1 &&& (255 : Int32)))] := fun tgt kq => go10 tgt (by
          refine XS.icmpNo X0.here hx rfl (D 9 rfl) rfl (feq u2).1 ?_; refine XS.iloadN X0.here hx rfl (D 15 rfl) rfl ?_; refine XS.bipush X0.here hx rfl (D 16 rfl) ?_; exact kq)
        by_cases u3 : (v1 &&& (255 : Int32)) = (125 : Int32)
        · have go13 : Go p e below E0 s₁ m 40 #[(si q), (si 112)] [(.int ((112 : Int32).toUInt32.toUInt16.toUInt32.toInt32))] := fun tgt kq => go12 tgt (by
            refine XS.icmpNo X0.here hx rfl (D 17 rfl) rfl (teq u3).2 ?_; refine XS.bipush X0.here hx rfl (D 10 rfl) ?_; refine XS.istoreN X0.here hx rfl (D 11 rfl) rfl (l' := #[(si q), (si 112)]) rfl ?_; refine XS.iloadN X0.here hx rfl (D 12 rfl) rfl ?_; refine XS.i2c X0.here hx rfl (D 13 rfl) rfl ?_; exact kq)
          obtain ⟨fs, hr, hrun, hended, hW, hsame⟩ := X0.leave (v := some (.int (nar .char ((112 : Int32).toUInt32.toUInt16.toUInt32.toInt32)))) (fun h => by rw [Bd.returns] at h; cases h)
          refine ⟨_, _, go13 _ ?_, hrun, hended, _, _, rfl, ?_, ⟨_, rfl⟩, hW, hsame.mono (by decide) (by decide)⟩
          · exact retN X0 hx (t := .char) Bd.returns (by simp) (D 14 rfl) hr
          · show QPH Z q h0 n0 _ s₁.heap _
            rw [e0]
            exact ⟨(112 : Int32), congrArg (fun q => some (Value.int q)) (own_i2c (own_ch_of (by first | decide | (simp only [own_ns, Int32.lt_iff_toInt_lt, ← Int32.toInt_inj, Int32.reduceToInt] at b1 b2 u0 u1 u2 u3 ⊢ <;> omega)) (by first | decide | (simp only [own_ns, Int32.lt_iff_toInt_lt, ← Int32.toInt_inj, Int32.reduceToInt] at b1 b2 u0 u1 u2 u3 ⊢ <;> omega))).2.2), rfl, rfl, own_ch_of (by first | decide | (simp only [own_ns, Int32.lt_iff_toInt_lt, ← Int32.toInt_inj, Int32.reduceToInt] at b1 b2 u0 u1 u2 u3 ⊢ <;> omega)) (by first | decide | (simp only [own_ns, Int32.lt_iff_toInt_lt, ← Int32.toInt_inj, Int32.reduceToInt] at b1 b2 u0 u1 u2 u3 ⊢ <;> omega)), (by first | decide | (simp only [own_ns, Int32.lt_iff_toInt_lt, ← Int32.toInt_inj, Int32.reduceToInt] at b1 b2 u0 u1 u2 u3 ⊢ <;> omega)), (by first | decide | (simp only [own_ns, Int32.lt_iff_toInt_lt, ← Int32.toInt_inj, Int32.reduceToInt] at b1 b2 u0 u1 u2 u3 ⊢ <;> omega)), (by first | decide | (simp only [own_ns, Int32.lt_iff_toInt_lt, ← Int32.toInt_inj, Int32.reduceToInt] at b1 b2 u0 u1 u2 u3 ⊢ <;> omega))⟩
        · have go14 : Go p e below E0 s₁ m 40 #[(si q), (si (v1 &&& (255 : Int32)))] [(.int ((v1 &&& (255 : Int32)).toUInt32.toUInt16.toUInt32.toInt32))] := fun tgt kq => go12 tgt (by
            refine XS.icmpYes X0.here hx rfl (pc0 := 32) (pc' := 38) rfl (D 17 rfl) rfl (feq u3).2 (by decide) (by decide) ?_; refine XS.iloadN X0.here hx rfl (D 12 rfl) rfl ?_; refine XS.i2c X0.here hx rfl (D 13 rfl) rfl ?_; exact kq)
          obtain ⟨fs, hr, hrun, hended, hW, hsame⟩ := X0.leave (v := some (.int (nar .char ((v1 &&& (255 : Int32)).toUInt32.toUInt16.toUInt32.toInt32)))) (fun h => by rw [Bd.returns] at h; cases h)
          refine ⟨_, _, go14 _ ?_, hrun, hended, _, _, rfl, ?_, ⟨_, rfl⟩, hW, hsame.mono (by decide) (by decide)⟩
          · exact retN X0 hx (t := .char) Bd.returns (by simp) (D 14 rfl) hr
          · show QPH Z q h0 n0 _ s₁.heap _
            rw [e0]
            exact ⟨(v1 &&& (255 : Int32)), congrArg (fun q => some (Value.int q)) (own_i2c (own_ch_of (by first | decide | (simp only [own_ns, Int32.lt_iff_toInt_lt, ← Int32.toInt_inj, Int32.reduceToInt] at b1 b2 u0 u1 u2 u3 ⊢ <;> omega)) (by first | decide | (simp only [own_ns, Int32.lt_iff_toInt_lt, ← Int32.toInt_inj, Int32.reduceToInt] at b1 b2 u0 u1 u2 u3 ⊢ <;> omega))).2.2), rfl, rfl, own_ch_of (by first | decide | (simp only [own_ns, Int32.lt_iff_toInt_lt, ← Int32.toInt_inj, Int32.reduceToInt] at b1 b2 u0 u1 u2 u3 ⊢ <;> omega)) (by first | decide | (simp only [own_ns, Int32.lt_iff_toInt_lt, ← Int32.toInt_inj, Int32.reduceToInt] at b1 b2 u0 u1 u2 u3 ⊢ <;> omega)), (by first | decide | (simp only [own_ns, Int32.lt_iff_toInt_lt, ← Int32.toInt_inj, Int32.reduceToInt] at b1 b2 u0 u1 u2 u3 ⊢ <;> omega)), (by first | decide | (simp only [own_ns, Int32.lt_iff_toInt_lt, ← Int32.toInt_inj, Int32.reduceToInt] at b1 b2 u0 u1 u2 u3 ⊢ <;> omega)), (by first | decide | (simp only [own_ns, Int32.lt_iff_toInt_lt, ← Int32.toInt_inj, Int32.reduceToInt] at b1 b2 u0 u1 u2 u3 ⊢ <;> omega))⟩
def QNH (Z : State) (q : Int32) (h0 : Heap) (n0 : Nat) (v : Option Value) (h : Heap) (L : List Loc) : Prop := ∃ r : Int32, v = some (.int r) ∧ L = [] ∧ h = h0 ∧ own_nch r
abbrev RmNH : Room := ({ frames := 0, cells := 0, slots := 0, locals := 0 } : Room)
theorem rmNH (l : Launch) (Z : State) (a0 : Array Value) (hw : Tb a0 Z) (ws : List Jvm.Cond) (q : Int32) (h0 : Heap) (n0 : Nat) (Z0 : n0 ≤ h0.size) :
    Met l Z h0 (⟨"com/example/portunus/portunus/core/KeySpaceLockKeyPinLaw", "nc", "(I)C"⟩ : MethodName) method_3_code 2 (some .char) RmNH ws #[(.int q)] (QNH Z q h0 n0) := by
  refine MetFree.of_bodySF (plainFor_of_name pn_19) hisR ?_
  intro p e s m args below meth c s₁ Bd hml0 hP hK
  obtain ⟨rfl, hZ, hh⟩ := hP
  have hx := Bd.exec
  have hby := Bd.bytes
  have D := dl hby d22_
  have hml : c.maxLocals = 2 := hml0
  have hown : s.vm.findClass "com/example/portunus/portunus/core/KeySpaceLockKeyPinLaw" = some m.cls := findClass_of_methodNamed Bd.named
  have hnm := (name_of_methodNamed Bd.named Bd.method).1
  have X0 : Stand p l e RmNH s m #[(.int q)] below meth c s₁ [] 0 0 := Stand.of_body Bd
  have e0 : s₁.heap = h0 := by rw [← hh, Bd.state]; rfl
  have N0 := Fr.nil n0
  obtain ⟨E0, hE0⟩ : ∃ z, z = s₁.setTop (entryFrame m #[(.int q)] 2) := ⟨_, rfl⟩
  rw [← hE0]
  have go0 : Go p e below E0 s₁ m 0 #[(si q), .unset] [] := fun tgt kq => by rw [hE0]; exact castTop (ef_PH m q) kq
  obtain ⟨v1, hv1⟩ : ∃ z : Int32, z = (q &&& (65535 : Int32)) := ⟨_, rfl⟩
  have go1 : Go p e below E0 s₁ m 5 #[(si q), (si v1)] [] := fun tgt kq => go0 tgt (by
    rw [hv1] at kq
    refine XS.iloadN X0.here hx rfl (D 0 rfl) rfl ?_; refine X0.ldcInt hx hown (wm hw hZ 4 rfl) (g := (mkF m 1 #[(si q), .unset] [(.int q)])) rfl (D 1 rfl) _ ?_; refine XS.iand X0.here hx rfl (D 2 rfl) rfl ?_; refine XS.istoreN X0.here hx rfl (D 3 rfl) rfl (l' := #[(si q), (si (q &&& (65535 : Int32)))]) rfl ?_; exact kq)
  have b1 := own_m16 q
  rw [← hv1] at b1
  have b2 := own_m8 v1
  have go2 : Go p e below E0 s₁ m 8 #[(si q), (si v1)] [(.int 55296), (.int v1)] := fun tgt kq => go1 tgt (by
    refine XS.iloadN X0.here hx rfl (D 4 rfl) rfl ?_; refine X0.ldcInt hx hown (wm hw hZ 5 rfl) (g := (mkF m 6 #[(si q), (si v1)] [(.int v1)])) rfl (D 5 rfl) _ ?_; exact kq)
  by_cases u0 : v1 < (55296 : Int32)
  · have go3 : Go p e below E0 s₁ m 25 #[(si q), (si v1)] [(.int (v1.toUInt32.toUInt16.toUInt32.toInt32))] := fun tgt kq => go2 tgt (by
      refine XS.icmpYes X0.here hx rfl (pc0 := 8) (pc' := 23) rfl (D 6 rfl) rfl (tlt u0).1 (by decide) (by decide) ?_; refine XS.iloadN X0.here hx rfl (D 7 rfl) rfl ?_; refine XS.i2c X0.here hx rfl (D 8 rfl) rfl ?_; exact kq)
    obtain ⟨fs, hr, hrun, hended, hW, hsame⟩ := X0.leave (v := some (.int (nar .char (v1.toUInt32.toUInt16.toUInt32.toInt32)))) (fun h => by rw [Bd.returns] at h; cases h)
    refine ⟨_, _, go3 _ ?_, hrun, hended, _, _, rfl, ?_, ⟨_, rfl⟩, hW, hsame.mono (by decide) (by decide)⟩
    · exact retN X0 hx (t := .char) Bd.returns (by simp) (D 9 rfl) hr
    · show QNH Z q h0 n0 _ s₁.heap _
      rw [e0]
      exact ⟨v1, congrArg (fun q => some (Value.int q)) (own_i2c (own_ch_of (by first | decide | (simp only [own_ns, Int32.lt_iff_toInt_lt, ← Int32.toInt_inj, Int32.reduceToInt] at b1 b2 u0 ⊢ <;> omega)) (by first | decide | (simp only [own_ns, Int32.lt_iff_toInt_lt, ← Int32.toInt_inj, Int32.reduceToInt] at b1 b2 u0 ⊢ <;> omega))).2.2), rfl, rfl, own_ch_of (by first | decide | (simp only [own_ns, Int32.lt_iff_toInt_lt, ← Int32.toInt_inj, Int32.reduceToInt] at b1 b2 u0 ⊢ <;> omega)) (by first | decide | (simp only [own_ns, Int32.lt_iff_toInt_lt, ← Int32.toInt_inj, Int32.reduceToInt] at b1 b2 u0 ⊢ <;> omega)), (by first | decide | (simp only [own_ns, Int32.lt_iff_toInt_lt, ← Int32.toInt_inj, Int32.reduceToInt] at b1 b2 u0 ⊢ <;> omega))⟩
  · have go4 : Go p e below E0 s₁ m 14 #[(si q), (si v1)] [(.int 57343), (.int v1)] := fun tgt kq => go2 tgt (by
      refine XS.icmpNo X0.here hx rfl (D 6 rfl) rfl (flt u0).1 ?_; refine XS.iloadN X0.here hx rfl (D 10 rfl) rfl ?_; refine X0.ldcInt hx hown (wm hw hZ 264 rfl) (g := (mkF m 12 #[(si q), (si v1)] [(.int v1)])) rfl (D 11 rfl) _ ?_; exact kq)
    by_cases u1 : (57343 : Int32) < v1
    · have go5 : Go p e below E0 s₁ m 25 #[(si q), (si v1)] [(.int (v1.toUInt32.toUInt16.toUInt32.toInt32))] := fun tgt kq => go4 tgt (by
        refine XS.icmpYes X0.here hx rfl (pc0 := 14) (pc' := 23) rfl (D 12 rfl) rfl (tlt u1).2.2.1 (by decide) (by decide) ?_; refine XS.iloadN X0.here hx rfl (D 7 rfl) rfl ?_; refine XS.i2c X0.here hx rfl (D 8 rfl) rfl ?_; exact kq)
      obtain ⟨fs, hr, hrun, hended, hW, hsame⟩ := X0.leave (v := some (.int (nar .char (v1.toUInt32.toUInt16.toUInt32.toInt32)))) (fun h => by rw [Bd.returns] at h; cases h)
      refine ⟨_, _, go5 _ ?_, hrun, hended, _, _, rfl, ?_, ⟨_, rfl⟩, hW, hsame.mono (by decide) (by decide)⟩
      · exact retN X0 hx (t := .char) Bd.returns (by simp) (D 9 rfl) hr
      · show QNH Z q h0 n0 _ s₁.heap _
        rw [e0]
        exact ⟨v1, congrArg (fun q => some (Value.int q)) (own_i2c (own_ch_of (by first | decide | (simp only [own_ns, Int32.lt_iff_toInt_lt, ← Int32.toInt_inj, Int32.reduceToInt] at b1 b2 u0 u1 ⊢ <;> omega)) (by first | decide | (simp only [own_ns, Int32.lt_iff_toInt_lt, ← Int32.toInt_inj, Int32.reduceToInt] at b1 b2 u0 u1 ⊢ <;> omega))).2.2), rfl, rfl, own_ch_of (by first | decide | (simp only [own_ns, Int32.lt_iff_toInt_lt, ← Int32.toInt_inj, Int32.reduceToInt] at b1 b2 u0 u1 ⊢ <;> omega)) (by first | decide | (simp only [own_ns, Int32.lt_iff_toInt_lt, ← Int32.toInt_inj, Int32.reduceToInt] at b1 b2 u0 u1 ⊢ <;> omega)), (by first | decide | (simp only [own_ns, Int32.lt_iff_toInt_lt, ← Int32.toInt_inj, Int32.reduceToInt] at b1 b2 u0 u1 ⊢ <;> omega))⟩
    · have go6 : Go p e below E0 s₁ m 25 #[(si q), (si (v1 &&& (255 : Int32)))] [(.int ((v1 &&& (255 : Int32)).toUInt32.toUInt16.toUInt32.toInt32))] := fun tgt kq => go4 tgt (by
        refine XS.icmpNo X0.here hx rfl (D 12 rfl) rfl (flt u1).2.2.1 ?_; refine XS.iloadN X0.here hx rfl (D 13 rfl) rfl ?_; refine XS.sipush X0.here hx rfl (D 14 rfl) ?_; refine XS.iand X0.here hx rfl (D 15 rfl) rfl ?_; refine XS.istoreN X0.here hx rfl (D 16 rfl) rfl (l' := #[(si q), (si (v1 &&& (255 : Int32)))]) rfl ?_; refine XS.iloadN X0.here hx rfl (D 7 rfl) rfl ?_; refine XS.i2c X0.here hx rfl (D 8 rfl) rfl ?_; exact kq)
      obtain ⟨fs, hr, hrun, hended, hW, hsame⟩ := X0.leave (v := some (.int (nar .char ((v1 &&& (255 : Int32)).toUInt32.toUInt16.toUInt32.toInt32)))) (fun h => by rw [Bd.returns] at h; cases h)
      refine ⟨_, _, go6 _ ?_, hrun, hended, _, _, rfl, ?_, ⟨_, rfl⟩, hW, hsame.mono (by decide) (by decide)⟩
      · exact retN X0 hx (t := .char) Bd.returns (by simp) (D 9 rfl) hr
      · show QNH Z q h0 n0 _ s₁.heap _
        rw [e0]
        exact ⟨(v1 &&& (255 : Int32)), congrArg (fun q => some (Value.int q)) (own_i2c (own_ch_of (by first | decide | (simp only [own_ns, Int32.lt_iff_toInt_lt, ← Int32.toInt_inj, Int32.reduceToInt] at b1 b2 u0 u1 ⊢ <;> omega)) (by first | decide | (simp only [own_ns, Int32.lt_iff_toInt_lt, ← Int32.toInt_inj, Int32.reduceToInt] at b1 b2 u0 u1 ⊢ <;> omega))).2.2), rfl, rfl, own_ch_of (by first | decide | (simp only [own_ns, Int32.lt_iff_toInt_lt, ← Int32.toInt_inj, Int32.reduceToInt] at b1 b2 u0 u1 ⊢ <;> omega)) (by first | decide | (simp only [own_ns, Int32.lt_iff_toInt_lt, ← Int32.toInt_inj, Int32.reduceToInt] at b1 b2 u0 u1 ⊢ <;> omega)), (by first | decide | (simp only [own_ns, Int32.lt_iff_toInt_lt, ← Int32.toInt_inj, Int32.reduceToInt] at b1 b2 u0 u1 ⊢ <;> omega))⟩
theorem pn_20 : plainName "java/lang/Character" = true := by first | (simp [plainName, overriddenIn]; done) | decide +kernel
def QHI1 (Z : State) (cc : Int32) (h0 : Heap) (n0 : Nat) (v : Option Value) (h : Heap) (L : List Loc) : Prop := v = some (.int (1 : Int32)) ∧ L = [] ∧ h = h0
abbrev RmHI1 : Room := ({ frames := 0, cells := 0, slots := 0, locals := 0 } : Room)
theorem rmHI1 (l : Launch) (Z : State) (a0 : Array Value) (hw : Tb a0 Z) (ws : List Jvm.Cond) (cc : Int32) (h0 : Heap) (n0 : Nat) (Z0 : n0 ≤ h0.size) (hc : own_hs cc) :
    Met l Z h0 y7_ jdk_89_method_14_code 1 (some .boolean) RmHI1 ws #[(.int cc)] (QHI1 Z cc h0 n0) := by
  refine MetFree.of_bodySF (plainFor_of_name pn_20) hisR ?_
  intro p e s m args below meth c s₁ Bd hml0 hP hK
  obtain ⟨rfl, hZ, hh⟩ := hP
  have hx := Bd.exec
  have hby := Bd.bytes
  have D := dl hby d23_
  have hml : c.maxLocals = 1 := hml0
  have hown : s.vm.findClass "java/lang/Character" = some m.cls := findClass_of_methodNamed Bd.named
  have hnm := (name_of_methodNamed Bd.named Bd.method).1
  have X0 : Stand p l e RmHI1 s m #[(.int cc)] below meth c s₁ [] 0 0 := Stand.of_body Bd
  have e0 : s₁.heap = h0 := by rw [← hh, Bd.state]; rfl
  have N0 := Fr.nil n0
  obtain ⟨E0, hE0⟩ : ∃ z, z = s₁.setTop (entryFrame m #[(.int cc)] 1) := ⟨_, rfl⟩
  rw [← hE0]
  have go0 : Go p e below E0 s₁ m 0 #[(si cc)] [] := fun tgt kq => by rw [hE0]; exact castTop (ef_NL520 m cc) kq
  have go1 : Go p e below E0 s₁ m 17 #[(si cc)] [(.int 1)] := fun tgt kq => go0 tgt (by
    refine XS.iloadN X0.here hx rfl (D 0 rfl) rfl ?_; refine X0.ldcInt hx hown (wm hw hZ 90 rfl) (g := (mkF m 1 #[(si cc)] [(.int cc)])) rfl (D 1 rfl) _ ?_; refine XS.icmpNo X0.here hx rfl (D 2 rfl) rfl (flt hc.1).1 ?_; refine XS.iloadN X0.here hx rfl (D 3 rfl) rfl ?_; refine X0.ldcInt hx hown (wm hw hZ 294 rfl) (g := (mkF m 7 #[(si cc)] [(.int cc)])) rfl (D 4 rfl) _ ?_; refine XS.icmpNo X0.here hx rfl (D 5 rfl) rfl (tlt hc.2).2.1 ?_; refine XS.iconst X0.here hx rfl (D 6 rfl) ?_; refine XS.goto X0.here hx rfl (pc0 := 13) (pc' := 17) rfl (D 7 rfl) (by decide) (by decide) ?_; exact kq)
  obtain ⟨fs, hr, hrun, hended, hW, hsame⟩ := X0.leave (v := some (.int (1 : Int32))) (fun h => by rw [Bd.returns] at h; cases h)
  refine ⟨_, _, go1 _ ?_, hrun, hended, _, _, rfl, ?_, ⟨_, rfl⟩, hW, hsame.mono (by decide) (by decide)⟩
  · exact retN X0 hx (t := .boolean) Bd.returns (by simp) (D 8 rfl) hr
  · show QHI1 Z cc h0 n0 _ s₁.heap _
    rw [e0]
    exact ⟨rfl, rfl, rfl⟩
def QLO1 (Z : State) (cc : Int32) (h0 : Heap) (n0 : Nat) (v : Option Value) (h : Heap) (L : List Loc) : Prop := v = some (.int (1 : Int32)) ∧ L = [] ∧ h = h0
abbrev RmLO1 : Room := ({ frames := 0, cells := 0, slots := 0, locals := 0 } : Room)
theorem rmLO1 (l : Launch) (Z : State) (a0 : Array Value) (hw : Tb a0 Z) (ws : List Jvm.Cond) (cc : Int32) (h0 : Heap) (n0 : Nat) (Z0 : n0 ≤ h0.size) (hc : own_ls cc) :
    Met l Z h0 (⟨"java/lang/Character", "isLowSurrogate", "(C)Z"⟩ : MethodName) jdk_89_method_15_code 1 (some .boolean) RmLO1 ws #[(.int cc)] (QLO1 Z cc h0 n0) := by
  refine MetFree.of_bodySF (plainFor_of_name pn_20) hisR ?_
  intro p e s m args below meth c s₁ Bd hml0 hP hK
  obtain ⟨rfl, hZ, hh⟩ := hP
  have hx := Bd.exec
  have hby := Bd.bytes
  have D := dl hby d24_
  have hml : c.maxLocals = 1 := hml0
  have hown : s.vm.findClass "java/lang/Character" = some m.cls := findClass_of_methodNamed Bd.named
  have hnm := (name_of_methodNamed Bd.named Bd.method).1
  have X0 : Stand p l e RmLO1 s m #[(.int cc)] below meth c s₁ [] 0 0 := Stand.of_body Bd
  have e0 : s₁.heap = h0 := by rw [← hh, Bd.state]; rfl
  have N0 := Fr.nil n0
  obtain ⟨E0, hE0⟩ : ∃ z, z = s₁.setTop (entryFrame m #[(.int cc)] 1) := ⟨_, rfl⟩
  rw [← hE0]
  have go0 : Go p e below E0 s₁ m 0 #[(si cc)] [] := fun tgt kq => by rw [hE0]; exact castTop (ef_NL520 m cc) kq
  have go1 : Go p e below E0 s₁ m 17 #[(si cc)] [(.int 1)] := fun tgt kq => go0 tgt (by
    refine XS.iloadN X0.here hx rfl (D 0 rfl) rfl ?_; refine X0.ldcInt hx hown (wm hw hZ 294 rfl) (g := (mkF m 1 #[(si cc)] [(.int cc)])) rfl (D 1 rfl) _ ?_; refine XS.icmpNo X0.here hx rfl (D 2 rfl) rfl (flt hc.1).1 ?_; refine XS.iloadN X0.here hx rfl (D 3 rfl) rfl ?_; refine X0.ldcInt hx hown (wm hw hZ 295 rfl) (g := (mkF m 7 #[(si cc)] [(.int cc)])) rfl (D 4 rfl) _ ?_; refine XS.icmpNo X0.here hx rfl (D 5 rfl) rfl (tlt hc.2).2.1 ?_; refine XS.iconst X0.here hx rfl (D 6 rfl) ?_; refine XS.goto X0.here hx rfl (pc0 := 13) (pc' := 17) rfl (D 7 rfl) (by decide) (by decide) ?_; exact kq)
  obtain ⟨fs, hr, hrun, hended, hW, hsame⟩ := X0.leave (v := some (.int (1 : Int32))) (fun h => by rw [Bd.returns] at h; cases h)
  refine ⟨_, _, go1 _ ?_, hrun, hended, _, _, rfl, ?_, ⟨_, rfl⟩, hW, hsame.mono (by decide) (by decide)⟩
  · exact retN X0 hx (t := .boolean) Bd.returns (by simp) (D 8 rfl) hr
  · show QLO1 Z cc h0 n0 _ s₁.heap _
    rw [e0]
    exact ⟨rfl, rfl, rfl⟩
def QHI0 (Z : State) (cc : Int32) (h0 : Heap) (n0 : Nat) (v : Option Value) (h : Heap) (L : List Loc) : Prop := v = some (.int (0 : Int32)) ∧ L = [] ∧ h = h0
abbrev RmHI0 : Room := ({ frames := 0, cells := 0, slots := 0, locals := 0 } : Room)
theorem rmHI0 (l : Launch) (Z : State) (a0 : Array Value) (hw : Tb a0 Z) (ws : List Jvm.Cond) (cc : Int32) (h0 : Heap) (n0 : Nat) (Z0 : n0 ≤ h0.size) (hc : own_ns cc) :
    Met l Z h0 y7_ jdk_89_method_14_code 1 (some .boolean) RmHI0 ws #[(.int cc)] (QHI0 Z cc h0 n0) := by
  refine MetFree.of_bodySF (plainFor_of_name pn_20) hisR ?_
  intro p e s m args below meth c s₁ Bd hml0 hP hK
  obtain ⟨rfl, hZ, hh⟩ := hP
  have hx := Bd.exec
  have hby := Bd.bytes
  have D := dl hby d23_
  have hml : c.maxLocals = 1 := hml0
  have hown : s.vm.findClass "java/lang/Character" = some m.cls := findClass_of_methodNamed Bd.named
  have hnm := (name_of_methodNamed Bd.named Bd.method).1
  have X0 : Stand p l e RmHI0 s m #[(.int cc)] below meth c s₁ [] 0 0 := Stand.of_body Bd
  have e0 : s₁.heap = h0 := by rw [← hh, Bd.state]; rfl
  have N0 := Fr.nil n0
  obtain ⟨E0, hE0⟩ : ∃ z, z = s₁.setTop (entryFrame m #[(.int cc)] 1) := ⟨_, rfl⟩
  rw [← hE0]
  have go0 : Go p e below E0 s₁ m 0 #[(si cc)] [] := fun tgt kq => by rw [hE0]; exact castTop (ef_NL520 m cc) kq
  have go1 : Go p e below E0 s₁ m 3 #[(si cc)] [(.int 55296), (.int cc)] := fun tgt kq => go0 tgt (by
    refine XS.iloadN X0.here hx rfl (D 0 rfl) rfl ?_; refine X0.ldcInt hx hown (wm hw hZ 90 rfl) (g := (mkF m 1 #[(si cc)] [(.int cc)])) rfl (D 1 rfl) _ ?_; exact kq)
  by_cases u0 : cc < (55296 : Int32)
  · have go2 : Go p e below E0 s₁ m 17 #[(si cc)] [(.int 0)] := fun tgt kq => go1 tgt (by
      refine XS.icmpYes X0.here hx rfl (pc0 := 3) (pc' := 16) rfl (D 2 rfl) rfl (tlt u0).1 (by decide) (by decide) ?_; refine XS.iconst X0.here hx rfl (D 9 rfl) ?_; exact kq)
    obtain ⟨fs, hr, hrun, hended, hW, hsame⟩ := X0.leave (v := some (.int (0 : Int32))) (fun h => by rw [Bd.returns] at h; cases h)
    refine ⟨_, _, go2 _ ?_, hrun, hended, _, _, rfl, ?_, ⟨_, rfl⟩, hW, hsame.mono (by decide) (by decide)⟩
    · exact retN X0 hx (t := .boolean) Bd.returns (by simp) (D 8 rfl) hr
    · show QHI0 Z cc h0 n0 _ s₁.heap _
      rw [e0]
      exact ⟨rfl, rfl, rfl⟩
  · have go3 : Go p e below E0 s₁ m 17 #[(si cc)] [(.int 0)] := fun tgt kq => go1 tgt (by
      refine XS.icmpNo X0.here hx rfl (D 2 rfl) rfl (flt u0).1 ?_; refine XS.iloadN X0.here hx rfl (D 3 rfl) rfl ?_; refine X0.ldcInt hx hown (wm hw hZ 294 rfl) (g := (mkF m 7 #[(si cc)] [(.int cc)])) rfl (D 4 rfl) _ ?_; refine XS.icmpYes X0.here hx rfl (pc0 := 9) (pc' := 16) rfl (D 5 rfl) rfl (flt (by have q := hc; simp only [own_ns, Int32.lt_iff_toInt_lt, Int32.reduceToInt] at q u0 ⊢; omega)).2.1 (by decide) (by decide) ?_; refine XS.iconst X0.here hx rfl (D 9 rfl) ?_; exact kq)
    obtain ⟨fs, hr, hrun, hended, hW, hsame⟩ := X0.leave (v := some (.int (0 : Int32))) (fun h => by rw [Bd.returns] at h; cases h)
    refine ⟨_, _, go3 _ ?_, hrun, hended, _, _, rfl, ?_, ⟨_, rfl⟩, hW, hsame.mono (by decide) (by decide)⟩
    · exact retN X0 hx (t := .boolean) Bd.returns (by simp) (D 8 rfl) hr
    · show QHI0 Z cc h0 n0 _ s₁.heap _
      rw [e0]
      exact ⟨rfl, rfl, rfl⟩
def QSU0 (Z : State) (cc : Int32) (h0 : Heap) (n0 : Nat) (v : Option Value) (h : Heap) (L : List Loc) : Prop := v = some (.int (0 : Int32)) ∧ L = [] ∧ h = h0
abbrev RmSU0 : Room := ({ frames := 0, cells := 0, slots := 0, locals := 0 } : Room)
theorem rmSU0 (l : Launch) (Z : State) (a0 : Array Value) (hw : Tb a0 Z) (ws : List Jvm.Cond) (cc : Int32) (h0 : Heap) (n0 : Nat) (Z0 : n0 ≤ h0.size) (hc : own_ns cc) :
    Met l Z h0 (⟨"java/lang/Character", "isSurrogate", "(C)Z"⟩ : MethodName) jdk_89_method_16_code 1 (some .boolean) RmSU0 ws #[(.int cc)] (QSU0 Z cc h0 n0) := by
  refine MetFree.of_bodySF (plainFor_of_name pn_20) hisR ?_
  intro p e s m args below meth c s₁ Bd hml0 hP hK
  obtain ⟨rfl, hZ, hh⟩ := hP
  have hx := Bd.exec
  have hby := Bd.bytes
  have D := dl hby d25_
  have hml : c.maxLocals = 1 := hml0
  have hown : s.vm.findClass "java/lang/Character" = some m.cls := findClass_of_methodNamed Bd.named
  have hnm := (name_of_methodNamed Bd.named Bd.method).1
  have X0 : Stand p l e RmSU0 s m #[(.int cc)] below meth c s₁ [] 0 0 := Stand.of_body Bd
  have e0 : s₁.heap = h0 := by rw [← hh, Bd.state]; rfl
  have N0 := Fr.nil n0
  obtain ⟨E0, hE0⟩ : ∃ z, z = s₁.setTop (entryFrame m #[(.int cc)] 1) := ⟨_, rfl⟩
  rw [← hE0]
  have go0 : Go p e below E0 s₁ m 0 #[(si cc)] [] := fun tgt kq => by rw [hE0]; exact castTop (ef_NL520 m cc) kq
  have go1 : Go p e below E0 s₁ m 3 #[(si cc)] [(.int 55296), (.int cc)] := fun tgt kq => go0 tgt (by
    refine XS.iloadN X0.here hx rfl (D 0 rfl) rfl ?_; refine X0.ldcInt hx hown (wm hw hZ 90 rfl) (g := (mkF m 1 #[(si cc)] [(.int cc)])) rfl (D 1 rfl) _ ?_; exact kq)
  by_cases u0 : cc < (55296 : Int32)
  · have go2 : Go p e below E0 s₁ m 17 #[(si cc)] [(.int 0)] := fun tgt kq => go1 tgt (by
      refine XS.icmpYes X0.here hx rfl (pc0 := 3) (pc' := 16) rfl (D 2 rfl) rfl (tlt u0).1 (by decide) (by decide) ?_; refine XS.iconst X0.here hx rfl (D 3 rfl) ?_; exact kq)
    obtain ⟨fs, hr, hrun, hended, hW, hsame⟩ := X0.leave (v := some (.int (0 : Int32))) (fun h => by rw [Bd.returns] at h; cases h)
    refine ⟨_, _, go2 _ ?_, hrun, hended, _, _, rfl, ?_, ⟨_, rfl⟩, hW, hsame.mono (by decide) (by decide)⟩
    · exact retN X0 hx (t := .boolean) Bd.returns (by simp) (D 4 rfl) hr
    · show QSU0 Z cc h0 n0 _ s₁.heap _
      rw [e0]
      exact ⟨rfl, rfl, rfl⟩
  · have go3 : Go p e below E0 s₁ m 17 #[(si cc)] [(.int 0)] := fun tgt kq => go1 tgt (by
      refine XS.icmpNo X0.here hx rfl (D 2 rfl) rfl (flt u0).1 ?_; refine XS.iloadN X0.here hx rfl (D 5 rfl) rfl ?_; refine X0.ldcInt hx hown (wm hw hZ 295 rfl) (g := (mkF m 7 #[(si cc)] [(.int cc)])) rfl (D 6 rfl) _ ?_; refine XS.icmpYes X0.here hx rfl (pc0 := 9) (pc' := 16) rfl (D 7 rfl) rfl (flt (by have q := hc; simp only [own_ns, Int32.lt_iff_toInt_lt, Int32.reduceToInt] at q u0 ⊢; omega)).2.1 (by decide) (by decide) ?_; refine XS.iconst X0.here hx rfl (D 3 rfl) ?_; exact kq)
    obtain ⟨fs, hr, hrun, hended, hW, hsame⟩ := X0.leave (v := some (.int (0 : Int32))) (fun h => by rw [Bd.returns] at h; cases h)
    refine ⟨_, _, go3 _ ?_, hrun, hended, _, _, rfl, ?_, ⟨_, rfl⟩, hW, hsame.mono (by decide) (by decide)⟩
    · exact retN X0 hx (t := .boolean) Bd.returns (by simp) (D 4 rfl) hr
    · show QSU0 Z cc h0 n0 _ s₁.heap _
      rw [e0]
      exact ⟨rfl, rfl, rfl⟩
theorem pd_21 : parseMethodDescriptor "()I" = some ⟨[], some .int⟩ := by decide +kernel
theorem pd_22 : parseMethodDescriptor "(I)C" = some ⟨[.int], some .char⟩ := by decide +kernel
theorem pd_23 : parseMethodDescriptor "(C)Z" = some ⟨[.char], some .boolean⟩ := by decide +kernel
theorem pn_24 : plainName "com/example/portunus/portunus/core/KeySpace" = true := by first | (simp [plainName, overriddenIn]; done) | decide +kernel
theorem ef_CT1 (m : MethodId) (x0 : Addr) (x1 : Addr) (x2 : Int32) : entryFrame m #[(.ref x0), (.ref x1), (.int x2)] 6 = mkF m 0 #[.val (.ref x0), .val (.ref x1), .val (.int x2), .unset, .unset, .unset] [] := by first | (simp [entryFrame, mkF, argsToLocals, Value.category, maxLocals]; done) | rfl
def QCT1 (Z : State) (nx : Addr) (x : Addr) (t : Addr) (kx : ClassId) (cs : List Int32) (mx : Nat) (q0 : Int32) (q1 : Int32) (G : Int32) (fv : Value) (h0 : Heap) (n0 : Nat) (v : Option Value) (h : Heap) (L : List Loc) : Prop := v = none ∧ Fr n0 L ∧ Keep h0 h []
abbrev RmCT1 : Room := ({ frames := 5, cells := 0, slots := 0, locals := 66 } : Room)
theorem rmCT1 (l : Launch) (Z : State) (a0 : Array Value) (hw : Tb a0 Z) (ws : List Jvm.Cond) (nx : Addr) (x : Addr) (t : Addr) (kx : ClassId) (cs : List Int32) (mx : Nat) (q0 : Int32) (q1 : Int32) (G : Int32) (fv : Value) (h0 : Heap) (n0 : Nat) (Z0 : n0 ≤ h0.size) (Ex : E1_ Z h0 x) (Fv : F6_ Z h0 x (.ref t)) (Fc : F5_ Z h0 x (.int (own_co cs))) (Ax : Yb Z h0 t kx (Int32.ofNat (own_k cs * cs.length)) (own_by cs)) (hl : cs.length ≤ 520) (hwf : ∀ c ∈ cs, own_ch c) (hmx : mx ≤ 600) (hp : 2 ≤ cs.length) (hm : cs.length ≤ mx + 1) (hns : ∀ i q, 2 ≤ i → cs[i]? = some q → own_ns q) (e0_ : cs[0]? = some q0) (e1_ : cs[1]? = some q1) (hq0 : own_hs q0) (hq1 : own_ls q1) (W0 : own_W Z G fv) (O0 : own_O Z n0 h0) :
    Met l Z h0 y2_ prog_7_method_6_code 6 none RmCT1 ws #[(.ref nx), (.ref x), (.int (Int32.ofNat mx))] (QCT1 Z nx x t kx cs mx q0 q1 G fv h0 n0) := by
  refine MetFree.of_bodySF (plainFor_of_name pn_24) hisR ?_
  intro p e s m args below meth c s₁ Bd hml0 hP hK
  obtain ⟨rfl, hZ, hh⟩ := hP
  have hx := Bd.exec
  have hby := Bd.bytes
  have D := dl hby d26_
  have hml : c.maxLocals = 6 := hml0
  have hown : s.vm.findClass "com/example/portunus/portunus/core/KeySpace" = some m.cls := findClass_of_methodNamed Bd.named
  have hnm := (name_of_methodNamed Bd.named Bd.method).1
  have X0 : Stand p l e RmCT1 s m #[(.ref nx), (.ref x), (.int (Int32.ofNat mx))] below meth c s₁ [] 0 0 := Stand.of_body Bd
  have e0 : s₁.heap = h0 := by rw [← hh, Bd.state]; rfl
  have N0 := Fr.nil n0
  obtain ⟨E0, hE0⟩ : ∃ z, z = s₁.setTop (entryFrame m #[(.ref nx), (.ref x), (.int (Int32.ofNat mx))] 6) := ⟨_, rfl⟩
  rw [← hE0]
  have go0 : Go p e below E0 s₁ m 0 #[(sr nx), (sr x), (si (Int32.ofNat mx)), .unset, .unset, .unset] [] := fun tgt kq => by rw [hE0]; exact castTop (ef_CT1 m nx x (Int32.ofNat mx)) kq
  have go1 : Go p e below E0 s₁ m 39 #[(sr nx), (sr x), (si (Int32.ofNat mx)), (si 0), (si 0), .unset] [(.ref x), (.int 0)] := fun tgt kq => go0 tgt (by
    refine XS.aloadN X0.here hx rfl (D 0 rfl) rfl rfl ?_; refine XS.ifnonnullYes X0.here hx rfl (pc0 := 1) (pc' := 31) rfl (D 1 rfl) rfl (by decide) (by decide) ?_; refine XS.iconst X0.here hx rfl (D 2 rfl) ?_; refine XS.istoreN X0.here hx rfl (D 3 rfl) rfl (l' := #[(sr nx), (sr x), (si (Int32.ofNat mx)), (si 0), .unset, .unset]) rfl ?_; refine XS.iconst X0.here hx rfl (D 4 rfl) ?_; refine XS.istore X0.here hx rfl (D 5 rfl) rfl (l' := #[(sr nx), (sr x), (si (Int32.ofNat mx)), (si 0), (si 0), .unset]) rfl ?_; refine XS.iload X0.here hx rfl (D 6 rfl) rfl ?_; refine XS.aloadN X0.here hx rfl (D 7 rfl) rfl rfl ?_; exact kq)
  obtain ⟨_, T2, L2, X2, hQ2, go2⟩ := own_cV X0 hx hZ hown (wd hw 54 rfl) (wd hw 55 rfl) (wd hw 57 rfl) (wd hw 56 rfl) (wd hw 11 rfl) (wd hw 58 rfl) (by decide) (W := 1) (rmLN l Z a0 hw [] x t kx (Int32.ofNat (own_k cs * cs.length)) (own_by cs) (own_co cs) (Int32.ofNat cs.length) G fv h0 n0 Z0 Ex Fv Fc (own_co_nar cs) Ax (own_lenk (by omega)) W0 O0) (by decide) (by decide) e0 (by decide) (by decide) Ex go1 hml.symm (argsL := []) (rest := [(.int 0)]) (lenOf pd_21 rfl) rfl rfl rfl (D 8 rfl)
  obtain ⟨rfl, rfl, e2⟩ := hQ2
  have N2 := Fr.app N0 (Fr.nil n0)
  have go3 : Go p e below E0 T2 m 53 #[(sr nx), (sr x), (si (Int32.ofNat mx)), (si 0), (si 0), .unset] [(.int 0), (.ref x)] := fun tgt kq => go2 tgt (by
    refine XS.icmpNo X2.here hx rfl (D 9 rfl) rfl (tlt (own_lt (a := 0) (by omega) (by omega))).2.1 ?_; refine XS.iloadN X2.here hx rfl (D 10 rfl) rfl ?_; refine XS.iloadN X2.here hx rfl (D 11 rfl) rfl ?_; refine XS.icmpNo X2.here hx rfl (D 12 rfl) rfl (flt (own_nlt (b := 0) (by omega) (by omega))).2.2.1 ?_; refine XS.aloadN X2.here hx rfl (D 13 rfl) rfl rfl ?_; refine XS.iload X2.here hx rfl (D 14 rfl) rfl ?_; exact kq)
  obtain ⟨_, T4, L4, X4, hQ4, go4⟩ := own_cV X2 hx hZ hown (wd hw 64 rfl) (wd hw 65 rfl) (wd hw 67 rfl) (wd hw 66 rfl) (wd hw 11 rfl) (wd hw 68 rfl) (by decide) (W := 0) (rmCH l Z a0 hw [] x t kx cs 0 q0 G fv h0 n0 Z0 Ex Fv Fc Ax e0_ hl hwf W0 O0) (by decide) (by decide) e2 (by decide) (by decide) Ex go3 hml.symm (argsL := [(.int 0)]) (rest := []) (lenOf pd_22 rfl) rfl rfl rfl (D 15 rfl)
  obtain ⟨rfl, rfl, e4⟩ := hQ4
  have N4 := Fr.app N2 (Fr.nil n0)
  have go5 : Go p e below E0 T4 m 60 #[(sr nx), (sr x), (si (Int32.ofNat mx)), (si 0), (si 0), (si q0)] [(.int q0)] := fun tgt kq => go4 tgt (by
    refine XS.istore X4.here hx rfl (D 16 rfl) rfl (l' := #[(sr nx), (sr x), (si (Int32.ofNat mx)), (si 0), (si 0), (si q0)]) rfl ?_; refine XS.iload X4.here hx rfl (D 17 rfl) rfl ?_; exact kq)
  obtain ⟨_, T6, L6, X6, hQ6, go6⟩ := own_cS X4 hx hZ hown (wd hw 86 rfl) (wd hw 87 rfl) (wd hw 88 rfl) (wd hw 89 rfl) (by decide) (W := 0) (rmHI1 l Z a0 hw [] q0 h0 n0 Z0 hq0) (by decide) (by decide) e4 (by decide) (by decide) go5 hml.symm (argsL := [(.int q0)]) (rest := []) (lenOf pd_23 rfl) rfl rfl rfl (D 18 rfl)
  obtain ⟨rfl, rfl, e6⟩ := hQ6
  have N6 := Fr.app N4 (Fr.nil n0)
  have go7 : Go p e below E0 T6 m 71 #[(sr nx), (sr x), (si (Int32.ofNat mx)), (si 0), (si 0), (si q0)] [(.ref x), (.int 1)] := fun tgt kq => go6 tgt (by
    refine XS.ifNo X6.here hx rfl (D 19 rfl) rfl ((if0 _ _).trans (feq (by decide)).1) ?_; refine XS.iload X6.here hx rfl (D 20 rfl) rfl ?_; refine XS.iconst X6.here hx rfl (D 21 rfl) ?_; refine XS.iadd X6.here hx rfl (D 22 rfl) rfl ?_; refine XS.aloadN X6.here hx rfl (D 23 rfl) rfl rfl ?_; exact kq)
  obtain ⟨_, T8, L8, X8, hQ8, go8⟩ := own_cV X6 hx hZ hown (wd hw 54 rfl) (wd hw 55 rfl) (wd hw 57 rfl) (wd hw 56 rfl) (wd hw 11 rfl) (wd hw 58 rfl) (by decide) (W := 1) (rmLN l Z a0 hw [] x t kx (Int32.ofNat (own_k cs * cs.length)) (own_by cs) (own_co cs) (Int32.ofNat cs.length) G fv h0 n0 Z0 Ex Fv Fc (own_co_nar cs) Ax (own_lenk (by omega)) W0 O0) (by decide) (by decide) e6 (by decide) (by decide) Ex go7 hml.symm (argsL := []) (rest := [(.int 1)]) (lenOf pd_21 rfl) rfl rfl rfl (D 24 rfl)
  obtain ⟨rfl, rfl, e8⟩ := hQ8
  have N8 := Fr.app N6 (Fr.nil n0)
  have go9 : Go p e below E0 T8 m 82 #[(sr nx), (sr x), (si (Int32.ofNat mx)), (si 0), (si 0), (si q0)] [(.int 1), (.ref x)] := fun tgt kq => go8 tgt (by
    refine XS.icmpNo X8.here hx rfl (D 25 rfl) rfl (tlt (own_lt (a := 1) (by omega) (by omega))).2.1 ?_; refine XS.aloadN X8.here hx rfl (D 26 rfl) rfl rfl ?_; refine XS.iload X8.here hx rfl (D 27 rfl) rfl ?_; refine XS.iconst X8.here hx rfl (D 28 rfl) ?_; refine XS.iadd X8.here hx rfl (D 29 rfl) rfl ?_; exact kq)
  obtain ⟨_, T10, L10, X10, hQ10, go10⟩ := own_cV X8 hx hZ hown (wd hw 64 rfl) (wd hw 65 rfl) (wd hw 67 rfl) (wd hw 66 rfl) (wd hw 11 rfl) (wd hw 68 rfl) (by decide) (W := 0) (rmCH l Z a0 hw [] x t kx cs 1 q1 G fv h0 n0 Z0 Ex Fv Fc Ax e1_ hl hwf W0 O0) (by decide) (by decide) e8 (by decide) (by decide) Ex go9 hml.symm (argsL := [(.int 1)]) (rest := []) (lenOf pd_22 rfl) rfl rfl rfl (D 30 rfl)
  obtain ⟨rfl, rfl, e10⟩ := hQ10
  have N10 := Fr.app N8 (Fr.nil n0)
  obtain ⟨_, T11, L11, X11, hQ11, go11⟩ := own_cS X10 hx hZ hown (wd hw 344 rfl) (wd hw 345 rfl) (wd hw 88 rfl) (wd hw 346 rfl) (by decide) (W := 0) (rmLO1 l Z a0 hw [] q1 h0 n0 Z0 hq1) (by decide) (by decide) e10 (by decide) (by decide) go10 hml.symm (argsL := [(.int q1)]) (rest := []) (lenOf pd_23 rfl) rfl rfl rfl (D 31 rfl)
  obtain ⟨rfl, rfl, e11⟩ := hQ11
  have N11 := Fr.app N10 (Fr.nil n0)
  have go12 : Go p e below E0 T11 m 36 #[(sr nx), (sr x), (si (Int32.ofNat mx)), (si 1), (si 2), (si q0)] [] := fun tgt kq => go11 tgt (by
    refine XS.ifNo X11.here hx rfl (D 32 rfl) rfl ((if0 _ _).trans (feq (by decide)).1) ?_; refine XS.iinc X11.here hx rfl (D 33 rfl) rfl (l' := #[(sr nx), (sr x), (si (Int32.ofNat mx)), (si 0), (si 1), (si q0)]) rfl ?_; refine XS.goto X11.here hx rfl (pc0 := 94) (pc' := 137) rfl (D 34 rfl) (by decide) (by decide) ?_; refine XS.iinc X11.here hx rfl (D 35 rfl) rfl (l' := #[(sr nx), (sr x), (si (Int32.ofNat mx)), (si 0), (si 2), (si q0)]) rfl ?_; refine XS.iinc X11.here hx rfl (D 36 rfl) rfl (l' := #[(sr nx), (sr x), (si (Int32.ofNat mx)), (si 1), (si 2), (si q0)]) rfl ?_; refine XS.goto X11.here hx rfl (pc0 := 143) (pc' := 36) rfl (D 37 rfl) (by decide) (by decide) ?_; exact kq)
  obtain ⟨d, k, hk, T13, h13, l13, us5, X13, e13, N13, z13, K13, F13_0, F13_1, F13_2, F13_3, F13_4, hus5, go13⟩ : ∃ (d k : Nat), k + d = (cs.length - 2) ∧ ∃ (T13 : State) (h13 : Heap) (l13 : List Loc) (us5 : Slot), Stand p l e RmCT1 s m #[(.ref nx), (.ref x), (.int (Int32.ofNat mx))] below meth c T13 l13 0 0 ∧ T13.heap = h13 ∧ Fr n0 l13 ∧ n0 ≤ h13.size ∧ Keep h0 h13 [] ∧ own_O Z n0 h13 ∧ E1_ Z h13 x ∧ F6_ Z h13 x (.ref t) ∧ F5_ Z h13 x (.int (own_co cs)) ∧ Yb Z h13 t kx (Int32.ofNat (own_k cs * cs.length)) (own_by cs) ∧ (us5 = .unset ∨ ∃ z, us5 = si z) ∧ Go p e below E0 T13 m 36 #[(sr nx), (sr x), (si (Int32.ofNat mx)), (si (Int32.ofNat (k + 1))), (si (Int32.ofNat (k + 2))), us5] [] := ⟨(cs.length - 2), 0, Nat.zero_add _, T11, h0, _, (si q0), X11, e11, N11, Z0, (Keep.refl h0 []), O0, Ex, Fv, Fc, Ax, Or.inr ⟨_, rfl⟩, fun tgt kq => go12 tgt kq⟩
  induction d generalizing k T13 h13 l13 us5
  case zero =>
    have ek : k = cs.length - 2 := hk
    have go14 : Go p e below E0 T13 m 39 #[(sr nx), (sr x), (si (Int32.ofNat mx)), (si (Int32.ofNat (k + 1))), (si (Int32.ofNat (k + 2))), us5] [(.ref x), (.int (Int32.ofNat (k + 2)))] := fun tgt kq => go13 tgt (by
      refine XS.iload X13.here hx rfl (D 6 rfl) rfl ?_; refine XS.aloadN X13.here hx rfl (D 7 rfl) rfl rfl ?_; exact kq)
    obtain ⟨_, T15, L15, X15, hQ15, go15⟩ := own_cV X13 hx hZ hown (wd hw 54 rfl) (wd hw 55 rfl) (wd hw 57 rfl) (wd hw 56 rfl) (wd hw 11 rfl) (wd hw 58 rfl) (by decide) (W := 1) (rmLN l Z a0 hw [] x t kx (Int32.ofNat (own_k cs * cs.length)) (own_by cs) (own_co cs) (Int32.ofNat cs.length) G fv h13 n0 z13 F13_1 F13_2 F13_3 (own_co_nar cs) F13_4 (own_lenk (by omega)) W0 F13_0) (by decide) (by decide) e13 (by decide) (by decide) F13_1 go14 hml.symm (argsL := []) (rest := [(.int (Int32.ofNat (k + 2)))]) (lenOf pd_21 rfl) rfl rfl rfl (D 8 rfl)
    obtain ⟨rfl, rfl, e15⟩ := hQ15
    have N15 := Fr.app N13 (Fr.nil n0)
    have go16 : Go p e below E0 T15 m 218 #[(sr nx), (sr x), (si (Int32.ofNat mx)), (si (Int32.ofNat (k + 1))), (si (Int32.ofNat (k + 2))), us5] [] := fun tgt kq => go15 tgt (by
      refine XS.icmpYes X15.here hx rfl (pc0 := 42) (pc' := 146) rfl (D 9 rfl) rfl (flt (own_nlt (by omega) (by omega))).2.1 (by decide) (by decide) ?_; refine XS.iloadN X15.here hx rfl (D 38 rfl) rfl ?_; refine XS.ifYes X15.here hx rfl (pc0 := 147) (pc' := 177) rfl (D 39 rfl) rfl ((if0 _ _).trans (feq (own_ne (b := 0) (by omega) (by decide) (by omega))).2) (by decide) (by decide) ?_; refine XS.iloadN X15.here hx rfl (D 40 rfl) rfl ?_; refine XS.iloadN X15.here hx rfl (D 41 rfl) rfl ?_; refine XS.icmpYes X15.here hx rfl (pc0 := 179) (pc' := 218) rfl (D 42 rfl) rfl (flt (own_nlt (by omega) (by omega))).2.2.2 (by decide) (by decide) ?_; exact kq)
    obtain ⟨fs, hr, hrun, hended, hW, hsame⟩ := X15.leave (v := none) (fun _ => rfl)
    refine ⟨_, _, go16 _ ?_, hrun, hended, _, _, rfl, ?_, ⟨_, rfl⟩, hW, hsame.mono (by decide) (by decide)⟩
    · exact X15.returnOut hx Bd.returns (D 43 rfl) hr
    · show QCT1 Z nx x t kx cs mx q0 q1 G fv h0 n0 _ T15.heap _
      rw [e15]
      exact ⟨rfl, N15, K13⟩
  case succ d ih =>
    obtain ⟨cc, hcc⟩ : ∃ cc, cs[(k + 2)]? = some cc := ⟨_, List.getElem?_eq_getElem (by omega)⟩
    have hn1 : own_ns cc := hns _ _ (by omega) hcc
    have go17 : Go p e below E0 T13 m 39 #[(sr nx), (sr x), (si (Int32.ofNat mx)), (si (Int32.ofNat (k + 1))), (si (Int32.ofNat (k + 2))), us5] [(.ref x), (.int (Int32.ofNat (k + 2)))] := fun tgt kq => go13 tgt (by
      refine XS.iload X13.here hx rfl (D 6 rfl) rfl ?_; refine XS.aloadN X13.here hx rfl (D 7 rfl) rfl rfl ?_; exact kq)
    obtain ⟨_, T18, L18, X18, hQ18, go18⟩ := own_cV X13 hx hZ hown (wd hw 54 rfl) (wd hw 55 rfl) (wd hw 57 rfl) (wd hw 56 rfl) (wd hw 11 rfl) (wd hw 58 rfl) (by decide) (W := 1) (rmLN l Z a0 hw [] x t kx (Int32.ofNat (own_k cs * cs.length)) (own_by cs) (own_co cs) (Int32.ofNat cs.length) G fv h13 n0 z13 F13_1 F13_2 F13_3 (own_co_nar cs) F13_4 (own_lenk (by omega)) W0 F13_0) (by decide) (by decide) e13 (by decide) (by decide) F13_1 go17 hml.symm (argsL := []) (rest := [(.int (Int32.ofNat (k + 2)))]) (lenOf pd_21 rfl) rfl rfl rfl (D 8 rfl)
    obtain ⟨rfl, rfl, e18⟩ := hQ18
    have N18 := Fr.app N13 (Fr.nil n0)
    have go19 : Go p e below E0 T18 m 53 #[(sr nx), (sr x), (si (Int32.ofNat mx)), (si (Int32.ofNat (k + 1))), (si (Int32.ofNat (k + 2))), us5] [(.int (Int32.ofNat (k + 2))), (.ref x)] := fun tgt kq => go18 tgt (by
      refine XS.icmpNo X18.here hx rfl (D 9 rfl) rfl (tlt (own_lt (by omega) (by omega))).2.1 ?_; refine XS.iloadN X18.here hx rfl (D 10 rfl) rfl ?_; refine XS.iloadN X18.here hx rfl (D 11 rfl) rfl ?_; refine XS.icmpNo X18.here hx rfl (D 12 rfl) rfl (flt (own_nlt (by omega) (by omega))).2.2.1 ?_; refine XS.aloadN X18.here hx rfl (D 13 rfl) rfl rfl ?_; refine XS.iload X18.here hx rfl (D 14 rfl) rfl ?_; exact kq)
    obtain ⟨_, T20, L20, X20, hQ20, go20⟩ := own_cV X18 hx hZ hown (wd hw 64 rfl) (wd hw 65 rfl) (wd hw 67 rfl) (wd hw 66 rfl) (wd hw 11 rfl) (wd hw 68 rfl) (by decide) (W := 0) (rmCH l Z a0 hw [] x t kx cs (k + 2) cc G fv h13 n0 z13 F13_1 F13_2 F13_3 F13_4 hcc hl hwf W0 F13_0) (by decide) (by decide) e18 (by decide) (by decide) F13_1 go19 hml.symm (argsL := [(.int (Int32.ofNat (k + 2)))]) (rest := []) (lenOf pd_22 rfl) rfl rfl rfl (D 15 rfl)
    obtain ⟨rfl, rfl, e20⟩ := hQ20
    have N20 := Fr.app N18 (Fr.nil n0)
    have go21 : Go p e below E0 T20 m 60 #[(sr nx), (sr x), (si (Int32.ofNat mx)), (si (Int32.ofNat (k + 1))), (si (Int32.ofNat (k + 2))), (si cc)] [(.int cc)] := fun tgt kq => go20 tgt (by
      refine XS.istore X20.here hx rfl (D 16 rfl) rfl (l' := #[(sr nx), (sr x), (si (Int32.ofNat mx)), (si (Int32.ofNat (k + 1))), (si (Int32.ofNat (k + 2))), (si cc)]) (by rcases hus5 with rfl | ⟨_, rfl⟩ <;> rfl) ?_; refine XS.iload X20.here hx rfl (D 17 rfl) rfl ?_; exact kq)
    obtain ⟨_, T22, L22, X22, hQ22, go22⟩ := own_cS X20 hx hZ hown (wd hw 86 rfl) (wd hw 87 rfl) (wd hw 88 rfl) (wd hw 89 rfl) (by decide) (W := 0) (rmHI0 l Z a0 hw [] cc h13 n0 z13 hn1) (by decide) (by decide) e20 (by decide) (by decide) go21 hml.symm (argsL := [(.int cc)]) (rest := []) (lenOf pd_23 rfl) rfl rfl rfl (D 18 rfl)
    obtain ⟨rfl, rfl, e22⟩ := hQ22
    have N22 := Fr.app N20 (Fr.nil n0)
    have go23 : Go p e below E0 T22 m 99 #[(sr nx), (sr x), (si (Int32.ofNat mx)), (si (Int32.ofNat (k + 1))), (si (Int32.ofNat (k + 2))), (si cc)] [(.int cc)] := fun tgt kq => go22 tgt (by
      refine XS.ifYes X22.here hx rfl (pc0 := 63) (pc' := 97) rfl (D 19 rfl) rfl ((if0 _ _).trans (teq rfl).1) (by decide) (by decide) ?_; refine XS.iload X22.here hx rfl (D 44 rfl) rfl ?_; exact kq)
    obtain ⟨_, T24, L24, X24, hQ24, go24⟩ := own_cS X22 hx hZ hown (wd hw 91 rfl) (wd hw 92 rfl) (wd hw 88 rfl) (wd hw 93 rfl) (by decide) (W := 0) (rmSU0 l Z a0 hw [] cc h13 n0 z13 hn1) (by decide) (by decide) e22 (by decide) (by decide) go23 hml.symm (argsL := [(.int cc)]) (rest := []) (lenOf pd_23 rfl) rfl rfl rfl (D 45 rfl)
    obtain ⟨rfl, rfl, e24⟩ := hQ24
    have N24 := Fr.app N22 (Fr.nil n0)
    have go25 : Go p e below E0 T24 m 36 #[(sr nx), (sr x), (si (Int32.ofNat mx)), (si ((Int32.ofNat (k + 1)) + (1 : Int32))), (si ((Int32.ofNat (k + 2)) + (1 : Int32))), (si cc)] [] := fun tgt kq => go24 tgt (by
      refine XS.ifYes X24.here hx rfl (pc0 := 102) (pc' := 137) rfl (D 46 rfl) rfl ((if0 _ _).trans (teq rfl).1) (by decide) (by decide) ?_; refine XS.iinc X24.here hx rfl (D 35 rfl) rfl (l' := #[(sr nx), (sr x), (si (Int32.ofNat mx)), (si (Int32.ofNat (k + 1))), (si ((Int32.ofNat (k + 2)) + (1 : Int32))), (si cc)]) rfl ?_; refine XS.iinc X24.here hx rfl (D 36 rfl) rfl (l' := #[(sr nx), (sr x), (si (Int32.ofNat mx)), (si ((Int32.ofNat (k + 1)) + (1 : Int32))), (si ((Int32.ofNat (k + 2)) + (1 : Int32))), (si cc)]) rfl ?_; refine XS.goto X24.here hx rfl (pc0 := 143) (pc' := 36) rfl (D 37 rfl) (by decide) (by decide) ?_; exact kq)
    exact ih (k + 1) (by omega) _ _ _ _ X24 e24 N24 z13 K13 F13_0 F13_1 F13_2 F13_3 F13_4 (Or.inr ⟨_, rfl⟩) (by rw [own_succ (k + 1), own_succ (k + 2)] at go25; exact go25)
def QCT0 (Z : State) (nx : Addr) (x : Addr) (t : Addr) (kx : ClassId) (cs : List Int32) (mx : Nat) (G : Int32) (fv : Value) (h0 : Heap) (n0 : Nat) (v : Option Value) (h : Heap) (L : List Loc) : Prop := v = none ∧ Fr n0 L ∧ Keep h0 h []
abbrev RmCT0 : Room := ({ frames := 5, cells := 0, slots := 0, locals := 66 } : Room)
theorem rmCT0 (l : Launch) (Z : State) (a0 : Array Value) (hw : Tb a0 Z) (ws : List Jvm.Cond) (nx : Addr) (x : Addr) (t : Addr) (kx : ClassId) (cs : List Int32) (mx : Nat) (G : Int32) (fv : Value) (h0 : Heap) (n0 : Nat) (Z0 : n0 ≤ h0.size) (Ex : E1_ Z h0 x) (Fv : F6_ Z h0 x (.ref t)) (Fc : F5_ Z h0 x (.int (own_co cs))) (Ax : Yb Z h0 t kx (Int32.ofNat (own_k cs * cs.length)) (own_by cs)) (hl : cs.length ≤ 520) (hwf : ∀ c ∈ cs, own_ch c) (hmx : mx ≤ 600) (hp : 1 ≤ cs.length) (hm : cs.length ≤ mx + 0) (hns : ∀ i q, 0 ≤ i → cs[i]? = some q → own_ns q) (W0 : own_W Z G fv) (O0 : own_O Z n0 h0) :
    Met l Z h0 y2_ prog_7_method_6_code 6 none RmCT0 ws #[(.ref nx), (.ref x), (.int (Int32.ofNat mx))] (QCT0 Z nx x t kx cs mx G fv h0 n0) := by
  refine MetFree.of_bodySF (plainFor_of_name pn_24) hisR ?_
  intro p e s m args below meth c s₁ Bd hml0 hP hK
  obtain ⟨rfl, hZ, hh⟩ := hP
  have hx := Bd.exec
  have hby := Bd.bytes
  have D := dl hby d26_
  have hml : c.maxLocals = 6 := hml0
  have hown : s.vm.findClass "com/example/portunus/portunus/core/KeySpace" = some m.cls := findClass_of_methodNamed Bd.named
  have hnm := (name_of_methodNamed Bd.named Bd.method).1
  have X0 : Stand p l e RmCT0 s m #[(.ref nx), (.ref x), (.int (Int32.ofNat mx))] below meth c s₁ [] 0 0 := Stand.of_body Bd
  have e0 : s₁.heap = h0 := by rw [← hh, Bd.state]; rfl
  have N0 := Fr.nil n0
  obtain ⟨E0, hE0⟩ : ∃ z, z = s₁.setTop (entryFrame m #[(.ref nx), (.ref x), (.int (Int32.ofNat mx))] 6) := ⟨_, rfl⟩
  rw [← hE0]
  have go0 : Go p e below E0 s₁ m 0 #[(sr nx), (sr x), (si (Int32.ofNat mx)), .unset, .unset, .unset] [] := fun tgt kq => by rw [hE0]; exact castTop (ef_CT1 m nx x (Int32.ofNat mx)) kq
  have go1 : Go p e below E0 s₁ m 36 #[(sr nx), (sr x), (si (Int32.ofNat mx)), (si 0), (si 0), .unset] [] := fun tgt kq => go0 tgt (by
    refine XS.aloadN X0.here hx rfl (D 0 rfl) rfl rfl ?_; refine XS.ifnonnullYes X0.here hx rfl (pc0 := 1) (pc' := 31) rfl (D 1 rfl) rfl (by decide) (by decide) ?_; refine XS.iconst X0.here hx rfl (D 2 rfl) ?_; refine XS.istoreN X0.here hx rfl (D 3 rfl) rfl (l' := #[(sr nx), (sr x), (si (Int32.ofNat mx)), (si 0), .unset, .unset]) rfl ?_; refine XS.iconst X0.here hx rfl (D 4 rfl) ?_; refine XS.istore X0.here hx rfl (D 5 rfl) rfl (l' := #[(sr nx), (sr x), (si (Int32.ofNat mx)), (si 0), (si 0), .unset]) rfl ?_; exact kq)
  obtain ⟨d, k, hk, T2, h2, l2, us5, X2, e2, N2, z2, K2, F2_0, F2_1, F2_2, F2_3, F2_4, hus5, go2⟩ : ∃ (d k : Nat), k + d = cs.length ∧ ∃ (T2 : State) (h2 : Heap) (l2 : List Loc) (us5 : Slot), Stand p l e RmCT0 s m #[(.ref nx), (.ref x), (.int (Int32.ofNat mx))] below meth c T2 l2 0 0 ∧ T2.heap = h2 ∧ Fr n0 l2 ∧ n0 ≤ h2.size ∧ Keep h0 h2 [] ∧ own_O Z n0 h2 ∧ E1_ Z h2 x ∧ F6_ Z h2 x (.ref t) ∧ F5_ Z h2 x (.int (own_co cs)) ∧ Yb Z h2 t kx (Int32.ofNat (own_k cs * cs.length)) (own_by cs) ∧ (us5 = .unset ∨ ∃ z, us5 = si z) ∧ Go p e below E0 T2 m 36 #[(sr nx), (sr x), (si (Int32.ofNat mx)), (si (Int32.ofNat k)), (si (Int32.ofNat k)), us5] [] := ⟨cs.length, 0, Nat.zero_add _, s₁, h0, _, .unset, X0, e0, N0, Z0, (Keep.refl h0 []), O0, Ex, Fv, Fc, Ax, Or.inl rfl, fun tgt kq => go1 tgt kq⟩
  induction d generalizing k T2 h2 l2 us5
  case zero =>
    have ek : k = cs.length - 0 := hk
    have go3 : Go p e below E0 T2 m 39 #[(sr nx), (sr x), (si (Int32.ofNat mx)), (si (Int32.ofNat k)), (si (Int32.ofNat k)), us5] [(.ref x), (.int (Int32.ofNat k))] := fun tgt kq => go2 tgt (by
      refine XS.iload X2.here hx rfl (D 6 rfl) rfl ?_; refine XS.aloadN X2.here hx rfl (D 7 rfl) rfl rfl ?_; exact kq)
    obtain ⟨_, T4, L4, X4, hQ4, go4⟩ := own_cV X2 hx hZ hown (wd hw 54 rfl) (wd hw 55 rfl) (wd hw 57 rfl) (wd hw 56 rfl) (wd hw 11 rfl) (wd hw 58 rfl) (by decide) (W := 1) (rmLN l Z a0 hw [] x t kx (Int32.ofNat (own_k cs * cs.length)) (own_by cs) (own_co cs) (Int32.ofNat cs.length) G fv h2 n0 z2 F2_1 F2_2 F2_3 (own_co_nar cs) F2_4 (own_lenk (by omega)) W0 F2_0) (by decide) (by decide) e2 (by decide) (by decide) F2_1 go3 hml.symm (argsL := []) (rest := [(.int (Int32.ofNat k))]) (lenOf pd_21 rfl) rfl rfl rfl (D 8 rfl)
    obtain ⟨rfl, rfl, e4⟩ := hQ4
    have N4 := Fr.app N2 (Fr.nil n0)
    have go5 : Go p e below E0 T4 m 218 #[(sr nx), (sr x), (si (Int32.ofNat mx)), (si (Int32.ofNat k)), (si (Int32.ofNat k)), us5] [] := fun tgt kq => go4 tgt (by
      refine XS.icmpYes X4.here hx rfl (pc0 := 42) (pc' := 146) rfl (D 9 rfl) rfl (flt (own_nlt (by omega) (by omega))).2.1 (by decide) (by decide) ?_; refine XS.iloadN X4.here hx rfl (D 38 rfl) rfl ?_; refine XS.ifYes X4.here hx rfl (pc0 := 147) (pc' := 177) rfl (D 39 rfl) rfl ((if0 _ _).trans (feq (own_ne (b := 0) (by omega) (by decide) (by omega))).2) (by decide) (by decide) ?_; refine XS.iloadN X4.here hx rfl (D 40 rfl) rfl ?_; refine XS.iloadN X4.here hx rfl (D 41 rfl) rfl ?_; refine XS.icmpYes X4.here hx rfl (pc0 := 179) (pc' := 218) rfl (D 42 rfl) rfl (flt (own_nlt (by omega) (by omega))).2.2.2 (by decide) (by decide) ?_; exact kq)
    obtain ⟨fs, hr, hrun, hended, hW, hsame⟩ := X4.leave (v := none) (fun _ => rfl)
    refine ⟨_, _, go5 _ ?_, hrun, hended, _, _, rfl, ?_, ⟨_, rfl⟩, hW, hsame.mono (by decide) (by decide)⟩
    · exact X4.returnOut hx Bd.returns (D 43 rfl) hr
    · show QCT0 Z nx x t kx cs mx G fv h0 n0 _ T4.heap _
      rw [e4]
      exact ⟨rfl, N4, K2⟩
  case succ d ih =>
    obtain ⟨cc, hcc⟩ : ∃ cc, cs[k]? = some cc := ⟨_, List.getElem?_eq_getElem (by omega)⟩
    have hn1 : own_ns cc := hns _ _ (by omega) hcc
    have go6 : Go p e below E0 T2 m 39 #[(sr nx), (sr x), (si (Int32.ofNat mx)), (si (Int32.ofNat k)), (si (Int32.ofNat k)), us5] [(.ref x), (.int (Int32.ofNat k))] := fun tgt kq => go2 tgt (by
      refine XS.iload X2.here hx rfl (D 6 rfl) rfl ?_; refine XS.aloadN X2.here hx rfl (D 7 rfl) rfl rfl ?_; exact kq)
    obtain ⟨_, T7, L7, X7, hQ7, go7⟩ := own_cV X2 hx hZ hown (wd hw 54 rfl) (wd hw 55 rfl) (wd hw 57 rfl) (wd hw 56 rfl) (wd hw 11 rfl) (wd hw 58 rfl) (by decide) (W := 1) (rmLN l Z a0 hw [] x t kx (Int32.ofNat (own_k cs * cs.length)) (own_by cs) (own_co cs) (Int32.ofNat cs.length) G fv h2 n0 z2 F2_1 F2_2 F2_3 (own_co_nar cs) F2_4 (own_lenk (by omega)) W0 F2_0) (by decide) (by decide) e2 (by decide) (by decide) F2_1 go6 hml.symm (argsL := []) (rest := [(.int (Int32.ofNat k))]) (lenOf pd_21 rfl) rfl rfl rfl (D 8 rfl)
    obtain ⟨rfl, rfl, e7⟩ := hQ7
    have N7 := Fr.app N2 (Fr.nil n0)
    have go8 : Go p e below E0 T7 m 53 #[(sr nx), (sr x), (si (Int32.ofNat mx)), (si (Int32.ofNat k)), (si (Int32.ofNat k)), us5] [(.int (Int32.ofNat k)), (.ref x)] := fun tgt kq => go7 tgt (by
      refine XS.icmpNo X7.here hx rfl (D 9 rfl) rfl (tlt (own_lt (by omega) (by omega))).2.1 ?_; refine XS.iloadN X7.here hx rfl (D 10 rfl) rfl ?_; refine XS.iloadN X7.here hx rfl (D 11 rfl) rfl ?_; refine XS.icmpNo X7.here hx rfl (D 12 rfl) rfl (flt (own_nlt (by omega) (by omega))).2.2.1 ?_; refine XS.aloadN X7.here hx rfl (D 13 rfl) rfl rfl ?_; refine XS.iload X7.here hx rfl (D 14 rfl) rfl ?_; exact kq)
    obtain ⟨_, T9, L9, X9, hQ9, go9⟩ := own_cV X7 hx hZ hown (wd hw 64 rfl) (wd hw 65 rfl) (wd hw 67 rfl) (wd hw 66 rfl) (wd hw 11 rfl) (wd hw 68 rfl) (by decide) (W := 0) (rmCH l Z a0 hw [] x t kx cs k cc G fv h2 n0 z2 F2_1 F2_2 F2_3 F2_4 hcc hl hwf W0 F2_0) (by decide) (by decide) e7 (by decide) (by decide) F2_1 go8 hml.symm (argsL := [(.int (Int32.ofNat k))]) (rest := []) (lenOf pd_22 rfl) rfl rfl rfl (D 15 rfl)
    obtain ⟨rfl, rfl, e9⟩ := hQ9
    have N9 := Fr.app N7 (Fr.nil n0)
    have go10 : Go p e below E0 T9 m 60 #[(sr nx), (sr x), (si (Int32.ofNat mx)), (si (Int32.ofNat k)), (si (Int32.ofNat k)), (si cc)] [(.int cc)] := fun tgt kq => go9 tgt (by
      refine XS.istore X9.here hx rfl (D 16 rfl) rfl (l' := #[(sr nx), (sr x), (si (Int32.ofNat mx)), (si (Int32.ofNat k)), (si (Int32.ofNat k)), (si cc)]) (by rcases hus5 with rfl | ⟨_, rfl⟩ <;> rfl) ?_; refine XS.iload X9.here hx rfl (D 17 rfl) rfl ?_; exact kq)
    obtain ⟨_, T11, L11, X11, hQ11, go11⟩ := own_cS X9 hx hZ hown (wd hw 86 rfl) (wd hw 87 rfl) (wd hw 88 rfl) (wd hw 89 rfl) (by decide) (W := 0) (rmHI0 l Z a0 hw [] cc h2 n0 z2 hn1) (by decide) (by decide) e9 (by decide) (by decide) go10 hml.symm (argsL := [(.int cc)]) (rest := []) (lenOf pd_23 rfl) rfl rfl rfl (D 18 rfl)
    obtain ⟨rfl, rfl, e11⟩ := hQ11
    have N11 := Fr.app N9 (Fr.nil n0)
    have go12 : Go p e below E0 T11 m 99 #[(sr nx), (sr x), (si (Int32.ofNat mx)), (si (Int32.ofNat k)), (si (Int32.ofNat k)), (si cc)] [(.int cc)] := fun tgt kq => go11 tgt (by
      refine XS.ifYes X11.here hx rfl (pc0 := 63) (pc' := 97) rfl (D 19 rfl) rfl ((if0 _ _).trans (teq rfl).1) (by decide) (by decide) ?_; refine XS.iload X11.here hx rfl (D 44 rfl) rfl ?_; exact kq)
    obtain ⟨_, T13, L13, X13, hQ13, go13⟩ := own_cS X11 hx hZ hown (wd hw 91 rfl) (wd hw 92 rfl) (wd hw 88 rfl) (wd hw 93 rfl) (by decide) (W := 0) (rmSU0 l Z a0 hw [] cc h2 n0 z2 hn1) (by decide) (by decide) e11 (by decide) (by decide) go12 hml.symm (argsL := [(.int cc)]) (rest := []) (lenOf pd_23 rfl) rfl rfl rfl (D 45 rfl)
    obtain ⟨rfl, rfl, e13⟩ := hQ13
    have N13 := Fr.app N11 (Fr.nil n0)
    have go14 : Go p e below E0 T13 m 36 #[(sr nx), (sr x), (si (Int32.ofNat mx)), (si ((Int32.ofNat k) + (1 : Int32))), (si ((Int32.ofNat k) + (1 : Int32))), (si cc)] [] := fun tgt kq => go13 tgt (by
      refine XS.ifYes X13.here hx rfl (pc0 := 102) (pc' := 137) rfl (D 46 rfl) rfl ((if0 _ _).trans (teq rfl).1) (by decide) (by decide) ?_; refine XS.iinc X13.here hx rfl (D 35 rfl) rfl (l' := #[(sr nx), (sr x), (si (Int32.ofNat mx)), (si (Int32.ofNat k)), (si ((Int32.ofNat k) + (1 : Int32))), (si cc)]) rfl ?_; refine XS.iinc X13.here hx rfl (D 36 rfl) rfl (l' := #[(sr nx), (sr x), (si (Int32.ofNat mx)), (si ((Int32.ofNat k) + (1 : Int32))), (si ((Int32.ofNat k) + (1 : Int32))), (si cc)]) rfl ?_; refine XS.goto X13.here hx rfl (pc0 := 143) (pc' := 36) rfl (D 37 rfl) (by decide) (by decide) ?_; exact kq)
    exact ih (k + 1) (by omega) _ _ _ _ X13 e13 N13 z2 K2 F2_0 F2_1 F2_2 F2_3 F2_4 (Or.inr ⟨_, rfl⟩) (by rw [own_succ k] at go14; exact go14)
def QCT (Z : State) (nx : Addr) (x : Addr) (t : Addr) (kx : ClassId) (cs : List Int32) (mx : Nat) (G : Int32) (fv : Value) (h0 : Heap) (n0 : Nat) (v : Option Value) (h : Heap) (L : List Loc) : Prop := v = none ∧ Fr n0 L ∧ Keep h0 h []
theorem rmCT (l : Launch) (Z : State) (a0 : Array Value) (hw : Tb a0 Z) (ws : List Jvm.Cond) (nx : Addr) (x : Addr) (t : Addr) (kx : ClassId) (cs : List Int32) (mx : Nat) (G : Int32) (fv : Value) (h0 : Heap) (n0 : Nat) (Z0 : n0 ≤ h0.size) (Ex : E1_ Z h0 x) (Fv : F6_ Z h0 x (.ref t)) (Fc : F5_ Z h0 x (.int (own_co cs))) (Ax : Yb Z h0 t kx (Int32.ofNat (own_k cs * cs.length)) (own_by cs)) (hl : cs.length ≤ 520) (hwf : ∀ c ∈ cs, own_ch c) (hmx : mx ≤ 600) (hd : own_tx cs mx) (W0 : own_W Z G fv) (O0 : own_O Z n0 h0) :
    Met l Z h0 y2_ prog_7_method_6_code 6 none ({ frames := 5, cells := 0, slots := 0, locals := 66 } : Room) ws #[(.ref nx), (.ref x), (.int (Int32.ofNat mx))] (QCT Z nx x t kx cs mx G fv h0 n0) := by
  rcases hd with ⟨a1, a2, a3⟩ | ⟨a1, a2, a3, q0, q1, b0, b1, b2, b3⟩
  · exact rmCT0 l Z a0 hw ws nx x t kx cs mx G fv h0 n0 Z0 Ex Fv Fc Ax hl hwf hmx a1 a2 a3 W0 O0
  · exact rmCT1 l Z a0 hw ws nx x t kx cs mx q0 q1 G fv h0 n0 Z0 Ex Fv Fc Ax hl hwf hmx a1 a2 a3 b0 b1 b2 b3 W0 O0
def QMX (Z : State) (a : Nat) (b : Nat) (r : Nat) (h0 : Heap) (n0 : Nat) (v : Option Value) (h : Heap) (L : List Loc) : Prop := v = some (.int (Int32.ofNat r)) ∧ L = [] ∧ h = h0
abbrev RmMX : Room := ({ frames := 0, cells := 0, slots := 0, locals := 0 } : Room)
theorem rmMX (l : Launch) (Z : State) (a0 : Array Value) (hw : Tb a0 Z) (ws : List Jvm.Cond) (a : Nat) (b : Nat) (r : Nat) (h0 : Heap) (n0 : Nat) (Z0 : n0 ≤ h0.size) (ha : a < 5000) (hq : b < 5000) (hr : r = max a b) :
    Met l Z h0 (⟨"java/lang/Math", "max", "(II)I"⟩ : MethodName) jdk_29_method_65_code 2 (some .int) RmMX ws #[(.int (Int32.ofNat a)), (.int (Int32.ofNat b))] (QMX Z a b r h0 n0) := by
  refine MetFree.of_bodySF (by decide +kernel) hisR ?_
  intro p e s m args below meth c s₁ Bd hml0 hP hK
  obtain ⟨rfl, hZ, hh⟩ := hP
  have hx := Bd.exec
  have hby := Bd.bytes
  have D := dl hby d27_
  have hml : c.maxLocals = 2 := hml0
  have hown : s.vm.findClass "java/lang/Math" = some m.cls := findClass_of_methodNamed Bd.named
  have hnm := (name_of_methodNamed Bd.named Bd.method).1
  have X0 : Stand p l e RmMX s m #[(.int (Int32.ofNat a)), (.int (Int32.ofNat b))] below meth c s₁ [] 0 0 := Stand.of_body Bd
  have e0 : s₁.heap = h0 := by rw [← hh, Bd.state]; rfl
  have N0 := Fr.nil n0
  obtain ⟨E0, hE0⟩ : ∃ z, z = s₁.setTop (entryFrame m #[(.int (Int32.ofNat a)), (.int (Int32.ofNat b))] 2) := ⟨_, rfl⟩
  rw [← hE0]
  have go0 : Go p e below E0 s₁ m 0 #[(si (Int32.ofNat a)), (si (Int32.ofNat b))] [] := fun tgt kq => by rw [hE0]; exact castTop (ef_CI m (Int32.ofNat a) (Int32.ofNat b)) kq
  have go1 : Go p e below E0 s₁ m 2 #[(si (Int32.ofNat a)), (si (Int32.ofNat b))] [(.int (Int32.ofNat b)), (.int (Int32.ofNat a))] := fun tgt kq => go0 tgt (by
    refine XS.iloadN X0.here hx rfl (D 0 rfl) rfl ?_; refine XS.iloadN X0.here hx rfl (D 1 rfl) rfl ?_; exact kq)
  by_cases u0 : a < b
  · have hb2 : r = b := by omega
    have go2 : Go p e below E0 s₁ m 10 #[(si (Int32.ofNat a)), (si (Int32.ofNat b))] [(.int (Int32.ofNat b))] := fun tgt kq => go1 tgt (by
      refine XS.icmpYes X0.here hx rfl (pc0 := 2) (pc' := 9) rfl (D 2 rfl) rfl (tlt (own_lt (by omega) u0)).1 (by decide) (by decide) ?_; refine XS.iloadN X0.here hx rfl (D 3 rfl) rfl ?_; exact kq)
    obtain ⟨fs, hr, hrun, hended, hW, hsame⟩ := X0.leave (v := some (.int (Int32.ofNat b))) (fun h => by rw [Bd.returns] at h; cases h)
    refine ⟨_, _, go2 _ ?_, hrun, hended, _, _, rfl, ?_, ⟨_, rfl⟩, hW, hsame.mono (by decide) (by decide)⟩
    · exact retOut X0 hx Bd.returns rfl (Or.inl ⟨rfl, Or.inl rfl, _, rfl⟩) (D 4 rfl) hr
    · show QMX Z a b r h0 n0 _ s₁.heap _
      rw [e0]
      exact ⟨by rw [hb2], rfl, rfl⟩
  · have hb2 : r = a := by omega
    have go3 : Go p e below E0 s₁ m 10 #[(si (Int32.ofNat a)), (si (Int32.ofNat b))] [(.int (Int32.ofNat a))] := fun tgt kq => go1 tgt (by
      refine XS.icmpNo X0.here hx rfl (D 2 rfl) rfl (flt (own_nlt (by omega) (by omega))).1 ?_; refine XS.iloadN X0.here hx rfl (D 5 rfl) rfl ?_; refine XS.goto X0.here hx rfl (pc0 := 6) (pc' := 10) rfl (D 6 rfl) (by decide) (by decide) ?_; exact kq)
    obtain ⟨fs, hr, hrun, hended, hW, hsame⟩ := X0.leave (v := some (.int (Int32.ofNat a))) (fun h => by rw [Bd.returns] at h; cases h)
    refine ⟨_, _, go3 _ ?_, hrun, hended, _, _, rfl, ?_, ⟨_, rfl⟩, hW, hsame.mono (by decide) (by decide)⟩
    · exact retOut X0 hx Bd.returns rfl (Or.inl ⟨rfl, Or.inl rfl, _, rfl⟩) (D 4 rfl) hr
    · show QMX Z a b r h0 n0 _ s₁.heap _
      rw [e0]
      exact ⟨by rw [hb2], rfl, rfl⟩
def QMN (Z : State) (a : Nat) (b : Nat) (r : Nat) (h0 : Heap) (n0 : Nat) (v : Option Value) (h : Heap) (L : List Loc) : Prop := v = some (.int (Int32.ofNat r)) ∧ L = [] ∧ h = h0
abbrev RmMN : Room := ({ frames := 0, cells := 0, slots := 0, locals := 0 } : Room)
theorem rmMN (l : Launch) (Z : State) (a0 : Array Value) (hw : Tb a0 Z) (ws : List Jvm.Cond) (a : Nat) (b : Nat) (r : Nat) (h0 : Heap) (n0 : Nat) (Z0 : n0 ≤ h0.size) (ha : a < 5000) (hq : b < 5000) (hr : r = min a b) :
    Met l Z h0 (⟨"java/lang/Math", "min", "(II)I"⟩ : MethodName) jdk_29_method_69_code 2 (some .int) RmMN ws #[(.int (Int32.ofNat a)), (.int (Int32.ofNat b))] (QMN Z a b r h0 n0) := by
  refine MetFree.of_bodySF (by decide +kernel) hisR ?_
  intro p e s m args below meth c s₁ Bd hml0 hP hK
  obtain ⟨rfl, hZ, hh⟩ := hP
  have hx := Bd.exec
  have hby := Bd.bytes
  have D := dl hby d28_
  have hml : c.maxLocals = 2 := hml0
  have hown : s.vm.findClass "java/lang/Math" = some m.cls := findClass_of_methodNamed Bd.named
  have hnm := (name_of_methodNamed Bd.named Bd.method).1
  have X0 : Stand p l e RmMN s m #[(.int (Int32.ofNat a)), (.int (Int32.ofNat b))] below meth c s₁ [] 0 0 := Stand.of_body Bd
  have e0 : s₁.heap = h0 := by rw [← hh, Bd.state]; rfl
  have N0 := Fr.nil n0
  obtain ⟨E0, hE0⟩ : ∃ z, z = s₁.setTop (entryFrame m #[(.int (Int32.ofNat a)), (.int (Int32.ofNat b))] 2) := ⟨_, rfl⟩
  rw [← hE0]
  have go0 : Go p e below E0 s₁ m 0 #[(si (Int32.ofNat a)), (si (Int32.ofNat b))] [] := fun tgt kq => by rw [hE0]; exact castTop (ef_CI m (Int32.ofNat a) (Int32.ofNat b)) kq
  have go1 : Go p e below E0 s₁ m 2 #[(si (Int32.ofNat a)), (si (Int32.ofNat b))] [(.int (Int32.ofNat b)), (.int (Int32.ofNat a))] := fun tgt kq => go0 tgt (by
    refine XS.iloadN X0.here hx rfl (D 0 rfl) rfl ?_; refine XS.iloadN X0.here hx rfl (D 1 rfl) rfl ?_; exact kq)
  by_cases u0 : b < a
  · have hb2 : r = b := by omega
    have go2 : Go p e below E0 s₁ m 10 #[(si (Int32.ofNat a)), (si (Int32.ofNat b))] [(.int (Int32.ofNat b))] := fun tgt kq => go1 tgt (by
      refine XS.icmpYes X0.here hx rfl (pc0 := 2) (pc' := 9) rfl (D 2 rfl) rfl (tlt (own_lt (by omega) u0)).2.2.1 (by decide) (by decide) ?_; refine XS.iloadN X0.here hx rfl (D 3 rfl) rfl ?_; exact kq)
    obtain ⟨fs, hr, hrun, hended, hW, hsame⟩ := X0.leave (v := some (.int (Int32.ofNat b))) (fun h => by rw [Bd.returns] at h; cases h)
    refine ⟨_, _, go2 _ ?_, hrun, hended, _, _, rfl, ?_, ⟨_, rfl⟩, hW, hsame.mono (by decide) (by decide)⟩
    · exact retOut X0 hx Bd.returns rfl (Or.inl ⟨rfl, Or.inl rfl, _, rfl⟩) (D 4 rfl) hr
    · show QMN Z a b r h0 n0 _ s₁.heap _
      rw [e0]
      exact ⟨by rw [hb2], rfl, rfl⟩
  · have hb2 : r = a := by omega
    have go3 : Go p e below E0 s₁ m 10 #[(si (Int32.ofNat a)), (si (Int32.ofNat b))] [(.int (Int32.ofNat a))] := fun tgt kq => go1 tgt (by
      refine XS.icmpNo X0.here hx rfl (D 2 rfl) rfl (flt (own_nlt (by omega) (by omega))).2.2.1 ?_; refine XS.iloadN X0.here hx rfl (D 5 rfl) rfl ?_; refine XS.goto X0.here hx rfl (pc0 := 6) (pc' := 10) rfl (D 6 rfl) (by decide) (by decide) ?_; exact kq)
    obtain ⟨fs, hr, hrun, hended, hW, hsame⟩ := X0.leave (v := some (.int (Int32.ofNat a))) (fun h => by rw [Bd.returns] at h; cases h)
    refine ⟨_, _, go3 _ ?_, hrun, hended, _, _, rfl, ?_, ⟨_, rfl⟩, hW, hsame.mono (by decide) (by decide)⟩
    · exact retOut X0 hx Bd.returns rfl (Or.inl ⟨rfl, Or.inl rfl, _, rfl⟩) (D 4 rfl) hr
    · show QMN Z a b r h0 n0 _ s₁.heap _
      rw [e0]
      exact ⟨by rw [hb2], rfl, rfl⟩
theorem ef_FT (m : MethodId) (x0 : Int32) (x1 : Int32) (x2 : Int32) (x3 : Value) (hv3 : x3.isRef = true) : entryFrame m #[(.int x0), (.int x1), (.int x2), x3] 4 = mkF m 0 #[.val (.int x0), .val (.int x1), .val (.int x2), .val x3] [] := by
  rcases ref_cases hv3 with rfl | ⟨_, rfl⟩ <;> first | (simp [entryFrame, mkF, argsToLocals, Value.category, maxLocals]; done) | rfl
def QFT (Z : State) (fv : Value) (h0 : Heap) (n0 : Nat) (v : Option Value) (h : Heap) (L : List Loc) : Prop := v = some (.int (0 : Int32)) ∧ L = [] ∧ h = h0
abbrev RmFT : Room := ({ frames := 0, cells := 0, slots := 0, locals := 0 } : Room)
theorem rmFT (l : Launch) (Z : State) (a0 : Array Value) (hw : Tb a0 Z) (ws : List Jvm.Cond) (fv : Value) (h0 : Heap) (n0 : Nat) (Z0 : n0 ≤ h0.size) (hfv : fv.isRef = true) :
    Met l Z h0 (⟨"jdk/internal/util/Preconditions", "checkFromToIndex", "(IIILjava/util/function/BiFunction;)I"⟩ : MethodName) jdk_41_method_12_code 4 (some .int) RmFT ws #[(.int (0 : Int32)), (.int (2 : Int32)), (.int (2 : Int32)), fv] (QFT Z fv h0 n0) := by
  refine MetFree.of_bodySF (plainFor_of_name pn_10) hisR ?_
  intro p e s m args below meth c s₁ Bd hml0 hP hK
  obtain ⟨rfl, hZ, hh⟩ := hP
  have hx := Bd.exec
  have hby := Bd.bytes
  have D := dl hby d29_
  have hml : c.maxLocals = 4 := hml0
  have hown : s.vm.findClass "jdk/internal/util/Preconditions" = some m.cls := findClass_of_methodNamed Bd.named
  have hnm := (name_of_methodNamed Bd.named Bd.method).1
  have X0 : Stand p l e RmFT s m #[(.int (0 : Int32)), (.int (2 : Int32)), (.int (2 : Int32)), fv] below meth c s₁ [] 0 0 := Stand.of_body Bd
  have e0 : s₁.heap = h0 := by rw [← hh, Bd.state]; rfl
  have N0 := Fr.nil n0
  obtain ⟨E0, hE0⟩ : ∃ z, z = s₁.setTop (entryFrame m #[(.int (0 : Int32)), (.int (2 : Int32)), (.int (2 : Int32)), fv] 4) := ⟨_, rfl⟩
  rw [← hE0]
  have go0 : Go p e below E0 s₁ m 0 #[(si 0), (si 2), (si 2), .val fv] [] := fun tgt kq => by rw [hE0]; exact castTop (ef_FT m (0 : Int32) (2 : Int32) (2 : Int32) fv hfv) kq
  have go1 : Go p e below E0 s₁ m 23 #[(si 0), (si 2), (si 2), .val fv] [(.int 0)] := fun tgt kq => go0 tgt (by
    refine XS.iloadN X0.here hx rfl (D 0 rfl) rfl ?_; refine XS.ifNo X0.here hx rfl (D 1 rfl) rfl ((if0 _ _).trans (flt (by decide)).1) ?_; refine XS.iloadN X0.here hx rfl (D 2 rfl) rfl ?_; refine XS.iloadN X0.here hx rfl (D 3 rfl) rfl ?_; refine XS.icmpNo X0.here hx rfl (D 4 rfl) rfl (flt (by decide)).2.2.1 ?_; refine XS.iloadN X0.here hx rfl (D 5 rfl) rfl ?_; refine XS.iloadN X0.here hx rfl (D 6 rfl) rfl ?_; refine XS.icmpYes X0.here hx rfl (pc0 := 11) (pc' := 22) rfl (D 7 rfl) rfl (flt (by decide)).2.2.2 (by decide) (by decide) ?_; refine XS.iloadN X0.here hx rfl (D 8 rfl) rfl ?_; exact kq)
  obtain ⟨fs, hr, hrun, hended, hW, hsame⟩ := X0.leave (v := some (.int (0 : Int32))) (fun h => by rw [Bd.returns] at h; cases h)
  refine ⟨_, _, go1 _ ?_, hrun, hended, _, _, rfl, ?_, ⟨_, rfl⟩, hW, hsame.mono (by decide) (by decide)⟩
  · exact retOut X0 hx Bd.returns rfl (Or.inl ⟨rfl, Or.inl rfl, _, rfl⟩) (D 9 rfl) hr
  · show QFT Z fv h0 n0 _ s₁.heap _
    rw [e0]
    exact ⟨rfl, rfl, rfl⟩
theorem pd_25 : parseMethodDescriptor "(IIILjava/util/function/BiFunction;)I" = some ⟨[.int, .int, .int, (.object "java/util/function/BiFunction")], some .int⟩ := by decide +kernel
theorem ef_SE (m : MethodId) (x0 : Int32) (x1 : Int32) (x2 : Int32) : entryFrame m #[(.int x0), (.int x1), (.int x2)] 3 = mkF m 0 #[.val (.int x0), .val (.int x1), .val (.int x2)] [] := by first | (simp [entryFrame, mkF, argsToLocals, Value.category, maxLocals]; done) | rfl
def QSE (Z : State) (G : Int32) (fv : Value) (h0 : Heap) (n0 : Nat) (v : Option Value) (h : Heap) (L : List Loc) : Prop := v = none ∧ L = [] ∧ h = h0
abbrev RmSE : Room := ({ frames := 1, cells := 0, slots := 0, locals := 15 } : Room)
theorem rmSE (l : Launch) (Z : State) (a0 : Array Value) (hw : Tb a0 Z) (ws : List Jvm.Cond) (G : Int32) (fv : Value) (h0 : Heap) (n0 : Nat) (Z0 : n0 ≤ h0.size) (W0 : own_W Z G fv) (O0 : own_O Z n0 h0) :
    Met l Z h0 (⟨"java/lang/String", "checkBoundsBeginEnd", "(III)V"⟩ : MethodName) jdk_42_method_158_code 3 none RmSE ws #[(.int (0 : Int32)), (.int (2 : Int32)), (.int (2 : Int32))] (QSE Z G fv h0 n0) := by
  refine MetFree.of_bodySF (plainFor_of_name pn_8) hisR ?_
  intro p e s m args below meth c s₁ Bd hml0 hP hK
  obtain ⟨rfl, hZ, hh⟩ := hP
  have hx := Bd.exec
  have hby := Bd.bytes
  have D := dl hby d30_
  have hml : c.maxLocals = 3 := hml0
  have hown : s.vm.findClass "java/lang/String" = some m.cls := findClass_of_methodNamed Bd.named
  have hnm := (name_of_methodNamed Bd.named Bd.method).1
  have X0 : Stand p l e RmSE s m #[(.int (0 : Int32)), (.int (2 : Int32)), (.int (2 : Int32))] below meth c s₁ [] 0 0 := Stand.of_body Bd
  have e0 : s₁.heap = h0 := by rw [← hh, Bd.state]; rfl
  have N0 := Fr.nil n0
  obtain ⟨E0, hE0⟩ : ∃ z, z = s₁.setTop (entryFrame m #[(.int (0 : Int32)), (.int (2 : Int32)), (.int (2 : Int32))] 3) := ⟨_, rfl⟩
  rw [← hE0]
  have go0 : Go p e below E0 s₁ m 0 #[(si 0), (si 2), (si 2)] [] := fun tgt kq => by rw [hE0]; exact castTop (ef_SE m (0 : Int32) (2 : Int32) (2 : Int32)) kq
  have hfv := W0.2.2.2.1
  have go1 : Go p e below E0 s₁ m 3 #[(si 0), (si 2), (si 2)] [(.int 2), (.int 2), (.int 0)] := fun tgt kq => go0 tgt (by
    refine XS.iloadN X0.here hx rfl (D 0 rfl) rfl ?_; refine XS.iloadN X0.here hx rfl (D 1 rfl) rfl ?_; refine XS.iloadN X0.here hx rfl (D 2 rfl) rfl ?_; exact kq)
  obtain ⟨T2, X2, e2, st2⟩ := getS2 X0 hx hZ hown (host := "") (Or.inl (wd hw 81 rfl)) Via.refl e0 (W0.2.2.1.ext O0.2) (g := (mkF m 3 #[(si 0), (si 2), (si 2)] [(.int 2), (.int 2), (.int 0)])) rfl (D 3 rfl)
  have go2 : Go p e below E0 T2 m 6 #[(si 0), (si 2), (si 2)] [fv, (.int 2), (.int 2), (.int 0)] := fun a b => go1 a (st2 a b)
  obtain ⟨_, T3, L3, X3, hQ3, go3⟩ := own_cS X2 hx hZ hown (wd hw 311 rfl) (wd hw 312 rfl) (wd hw 82 rfl) (wd hw 313 rfl) (by decide) (W := 0) (rmFT l Z a0 hw [] fv h0 n0 Z0 hfv) (by decide) (by decide) e2 (by decide) (by decide) go2 hml.symm (argsL := [(.int 0), (.int 2), (.int 2), fv]) (rest := []) (lenOf pd_25 rfl) rfl rfl rfl (D 4 rfl)
  obtain ⟨rfl, rfl, e3⟩ := hQ3
  have N3 := Fr.app N0 (Fr.nil n0)
  have go4 : Go p e below E0 T3 m 10 #[(si 0), (si 2), (si 2)] [] := fun tgt kq => go3 tgt (by
    refine XS.pop X3.here hx rfl (D 5 rfl) rfl rfl ?_; exact kq)
  obtain ⟨fs, hr, hrun, hended, hW, hsame⟩ := X3.leave (v := none) (fun _ => rfl)
  refine ⟨_, _, go4 _ ?_, hrun, hended, _, _, rfl, ?_, ⟨_, rfl⟩, hW, hsame.mono (by decide) (by decide)⟩
  · exact X3.returnOut hx Bd.returns (D 6 rfl) hr
  · show QSE Z G fv h0 n0 _ T3.heap _
    rw [e3]
    exact ⟨rfl, rfl, rfl⟩
theorem pd_26 : parseMethodDescriptor "(III)V" = some ⟨[.int, .int, .int], none⟩ := by decide +kernel
theorem ef_UE (m : MethodId) (x0 : Int32) (x1 : Int32) (x2 : Addr) : entryFrame m #[(.int x0), (.int x1), (.ref x2)] 3 = mkF m 0 #[.val (.int x0), .val (.int x1), .val (.ref x2)] [] := by first | (simp [entryFrame, mkF, argsToLocals, Value.category, maxLocals]; done) | rfl
def QUE (Z : State) (t : Addr) (kb : ClassId) (bs : List Value) (G : Int32) (fv : Value) (h0 : Heap) (n0 : Nat) (v : Option Value) (h : Heap) (L : List Loc) : Prop := v = none ∧ L = [] ∧ h = h0
abbrev RmUE : Room := ({ frames := 2, cells := 0, slots := 0, locals := 29 } : Room)
theorem rmUE (l : Launch) (Z : State) (a0 : Array Value) (hw : Tb a0 Z) (ws : List Jvm.Cond) (t : Addr) (kb : ClassId) (bs : List Value) (G : Int32) (fv : Value) (h0 : Heap) (n0 : Nat) (Z0 : n0 ≤ h0.size) (A0 : Yb Z h0 t kb (4 : Int32) bs) (W0 : own_W Z G fv) (O0 : own_O Z n0 h0) :
    Met l Z h0 (⟨"java/lang/StringUTF16", "checkBoundsBeginEnd", "(II[B)V"⟩ : MethodName) jdk_52_method_93_code 3 none RmUE ws #[(.int (0 : Int32)), (.int (2 : Int32)), (.ref t)] (QUE Z t kb bs G fv h0 n0) := by
  refine MetFree.of_bodySF (plainFor_of_name pn_0) hisR ?_
  intro p e s m args below meth c s₁ Bd hml0 hP hK
  obtain ⟨rfl, hZ, hh⟩ := hP
  have hx := Bd.exec
  have hby := Bd.bytes
  have D := dl hby d31_
  have hml : c.maxLocals = 3 := hml0
  have hown : s.vm.findClass "java/lang/StringUTF16" = some m.cls := findClass_of_methodNamed Bd.named
  have hnm := (name_of_methodNamed Bd.named Bd.method).1
  have X0 : Stand p l e RmUE s m #[(.int (0 : Int32)), (.int (2 : Int32)), (.ref t)] below meth c s₁ [] 0 0 := Stand.of_body Bd
  have e0 : s₁.heap = h0 := by rw [← hh, Bd.state]; rfl
  have N0 := Fr.nil n0
  obtain ⟨E0, hE0⟩ : ∃ z, z = s₁.setTop (entryFrame m #[(.int (0 : Int32)), (.int (2 : Int32)), (.ref t)] 3) := ⟨_, rfl⟩
  rw [← hE0]
  have go0 : Go p e below E0 s₁ m 0 #[(si 0), (si 2), (sr t)] [] := fun tgt kq => by rw [hE0]; exact castTop (ef_UE m (0 : Int32) (2 : Int32) t) kq
  have go1 : Go p e below E0 s₁ m 3 #[(si 0), (si 2), (sr t)] [(.ref t), (.int 2), (.int 0)] := fun tgt kq => go0 tgt (by
    refine XS.iloadN X0.here hx rfl (D 0 rfl) rfl ?_; refine XS.iloadN X0.here hx rfl (D 1 rfl) rfl ?_; refine XS.aloadN X0.here hx rfl (D 2 rfl) rfl rfl ?_; exact kq)
  obtain ⟨_, T2, L2, X2, hQ2, go2⟩ := own_cS X0 hx hZ hown (wd hw 290 rfl) (wd hw 291 rfl) (wd hw 26 rfl) (wd hw 292 rfl) (by decide) (W := 2) (rmUL l Z a0 hw [] t kb (4 : Int32) bs (2 : Int32) h0 n0 Z0 A0 (by decide)) (by decide) (by decide) e0 (by decide) (by decide) go1 hml.symm (argsL := [(.ref t)]) (rest := [(.int 2), (.int 0)]) (lenOf pd_14 rfl) rfl rfl rfl (D 3 rfl)
  obtain ⟨rfl, rfl, e2⟩ := hQ2
  have N2 := Fr.app N0 (Fr.nil n0)
  obtain ⟨_, T3, L3, X3, hQ3, go3⟩ := own_cS X2 hx hZ hown (wd hw 308 rfl) (wd hw 309 rfl) (wd hw 11 rfl) (wd hw 310 rfl) (by decide) (W := 0) (rmSE l Z a0 hw [] G fv h0 n0 Z0 W0 O0) (by decide) (by decide) e2 (by decide) (by decide) go2 hml.symm (argsL := [(.int 0), (.int 2), (.int 2)]) (rest := []) (lenOf pd_26 rfl) rfl rfl rfl (D 4 rfl)
  obtain ⟨rfl, rfl, e3⟩ := hQ3
  have N3 := Fr.app N2 (Fr.nil n0)
  obtain ⟨fs, hr, hrun, hended, hW, hsame⟩ := X3.leave (v := none) (fun _ => rfl)
  refine ⟨_, _, go3 _ ?_, hrun, hended, _, _, rfl, ?_, ⟨_, rfl⟩, hW, hsame.mono (by decide) (by decide)⟩
  · exact X3.returnOut hx Bd.returns (D 5 rfl) hr
  · show QUE Z t kb bs G fv h0 n0 _ T3.heap _
    rw [e3]
    exact ⟨rfl, rfl, rfl⟩
theorem ef_IX (m : MethodId) (x0 : Addr) (x1 : Int32) (x2 : Int32) (x3 : Int32) : entryFrame m #[(.ref x0), (.int x1), (.int x2), (.int x3)] 6 = mkF m 0 #[.val (.ref x0), .val (.int x1), .val (.int x2), .val (.int x3), .unset, .unset] [] := by first | (simp [entryFrame, mkF, argsToLocals, Value.category, maxLocals]; done) | rfl
def QIX (Z : State) (t : Addr) (kx : ClassId) (q0 : Int32) (q1 : Int32) (sc : Int32) (h0 : Heap) (n0 : Nat) (v : Option Value) (h : Heap) (L : List Loc) : Prop := v = some (.int (-1 : Int32)) ∧ L = [] ∧ h = h0
abbrev RmIX : Room := ({ frames := 0, cells := 0, slots := 0, locals := 0 } : Room)
theorem rmIX (l : Launch) (Z : State) (a0 : Array Value) (hw : Tb a0 Z) (ws : List Jvm.Cond) (t : Addr) (kx : ClassId) (q0 : Int32) (q1 : Int32) (sc : Int32) (h0 : Heap) (n0 : Nat) (Z0 : n0 ≤ h0.size) (A0 : Yb Z h0 t kx (2 : Int32) [(.int q0), (.int q1)]) (g0 : ¬ q0 = (sc.toInt8.toInt32)) (gq1 : ¬ q1 = (sc.toInt8.toInt32)) :
    Met l Z h0 (⟨"java/lang/StringLatin1", "indexOfChar", "([BIII)I"⟩ : MethodName) jdk_43_method_23_code 6 (some .int) RmIX ws #[(.ref t), (.int sc), (.int (0 : Int32)), (.int (2 : Int32))] (QIX Z t kx q0 q1 sc h0 n0) := by
  refine MetFree.of_bodySF (plainFor_of_name pn_13) hisR ?_
  intro p e s m args below meth c s₁ Bd hml0 hP hK
  obtain ⟨rfl, hZ, hh⟩ := hP
  have hx := Bd.exec
  have hby := Bd.bytes
  have D := dl hby d32_
  have hml : c.maxLocals = 6 := hml0
  have hown : s.vm.findClass "java/lang/StringLatin1" = some m.cls := findClass_of_methodNamed Bd.named
  have hnm := (name_of_methodNamed Bd.named Bd.method).1
  have X0 : Stand p l e RmIX s m #[(.ref t), (.int sc), (.int (0 : Int32)), (.int (2 : Int32))] below meth c s₁ [] 0 0 := Stand.of_body Bd
  have e0 : s₁.heap = h0 := by rw [← hh, Bd.state]; rfl
  have N0 := Fr.nil n0
  obtain ⟨E0, hE0⟩ : ∃ z, z = s₁.setTop (entryFrame m #[(.ref t), (.int sc), (.int (0 : Int32)), (.int (2 : Int32))] 6) := ⟨_, rfl⟩
  rw [← hE0]
  have go0 : Go p e below E0 s₁ m 0 #[(sr t), (si sc), (si 0), (si 2), .unset, .unset] [] := fun tgt kq => by rw [hE0]; exact castTop (ef_IX m t sc (0 : Int32) (2 : Int32)) kq
  have go1 : Go p e below E0 s₁ m 16 #[(sr t), (si sc), (si 0), (si 2), (si (sc.toInt8.toInt32)), (si 0)] [(.int 0), (.ref t)] := fun tgt kq => go0 tgt (by
    refine XS.iloadN X0.here hx rfl (D 0 rfl) rfl ?_; refine XS.i2b X0.here hx rfl (D 1 rfl) rfl ?_; refine XS.istore X0.here hx rfl (D 2 rfl) rfl (l' := #[(sr t), (si sc), (si 0), (si 2), (si (sc.toInt8.toInt32)), .unset]) rfl ?_; refine XS.iloadN X0.here hx rfl (D 3 rfl) rfl ?_; refine XS.istore X0.here hx rfl (D 4 rfl) rfl (l' := #[(sr t), (si sc), (si 0), (si 2), (si (sc.toInt8.toInt32)), (si 0)]) rfl ?_; refine XS.iload X0.here hx rfl (D 5 rfl) rfl ?_; refine XS.iloadN X0.here hx rfl (D 6 rfl) rfl ?_; refine XS.icmpNo X0.here hx rfl (D 7 rfl) rfl (tlt (by decide)).2.1 ?_; refine XS.aloadN X0.here hx rfl (D 8 rfl) rfl rfl ?_; refine XS.iload X0.here hx rfl (D 9 rfl) rfl ?_; exact kq)
  obtain ⟨c2, Ar2, q2, S2, M2, Hh2, G2⟩ := id A0
  have hin2 : ¬ ((0 : Int32) < 0 ∨ c2.slots.size ≤ ((0 : Int32)).toNatClampNeg) := inb_of S2 ⟨by decide, by decide⟩
  have hat2 : c2.slots[((0 : Int32)).toNatClampNeg]? = some (.int q0) := Hh2.at hin2 rfl
  have go3 : Go p e below E0 s₁ m 16 #[(sr t), (si sc), (si 0), (si 2), (si (sc.toInt8.toInt32)), (si 1)] [(.int 1), (.ref t)] := fun tgt kq => go1 tgt (by
    refine X0.baloadBytes hx (j := (0 : Int32)) (v := (.int q0)) (by rw [e0]; exact Ar2.1) (State.isArrayOf_alike hZ.alike Ar2.2.1) Ar2.2.2 hin2 hat2 (g := (mkF m 16 #[(sr t), (si sc), (si 0), (si 2), (si (sc.toInt8.toInt32)), (si 0)] [(.int 0), (.ref t)])) rfl rfl (D 10 rfl) _ ?_; refine XS.iload X0.here hx rfl (D 11 rfl) rfl ?_; refine XS.icmpYes X0.here hx rfl (pc0 := 19) (pc' := 25) rfl (D 12 rfl) rfl (feq g0).2 (by decide) (by decide) ?_; refine XS.iinc X0.here hx rfl (D 13 rfl) rfl (l' := #[(sr t), (si sc), (si 0), (si 2), (si (sc.toInt8.toInt32)), (si 1)]) rfl ?_; refine XS.goto X0.here hx rfl (pc0 := 28) (pc' := 7) rfl (D 14 rfl) (by decide) (by decide) ?_; refine XS.iload X0.here hx rfl (D 5 rfl) rfl ?_; refine XS.iloadN X0.here hx rfl (D 6 rfl) rfl ?_; refine XS.icmpNo X0.here hx rfl (D 7 rfl) rfl (tlt (by decide)).2.1 ?_; refine XS.aloadN X0.here hx rfl (D 8 rfl) rfl rfl ?_; refine XS.iload X0.here hx rfl (D 9 rfl) rfl ?_; exact kq)
  obtain ⟨c4, Ar4, q4, S4, M4, Hh4, G4⟩ := id A0
  have hin4 : ¬ ((1 : Int32) < 0 ∨ c4.slots.size ≤ ((1 : Int32)).toNatClampNeg) := inb_of S4 ⟨by decide, by decide⟩
  have hat4 : c4.slots[((1 : Int32)).toNatClampNeg]? = some (.int q1) := Hh4.at hin4 rfl
  have go5 : Go p e below E0 s₁ m 32 #[(sr t), (si sc), (si 0), (si 2), (si (sc.toInt8.toInt32)), (si 2)] [(.int (-1))] := fun tgt kq => go3 tgt (by
    refine X0.baloadBytes hx (j := (1 : Int32)) (v := (.int q1)) (by rw [e0]; exact Ar4.1) (State.isArrayOf_alike hZ.alike Ar4.2.1) Ar4.2.2 hin4 hat4 (g := (mkF m 16 #[(sr t), (si sc), (si 0), (si 2), (si (sc.toInt8.toInt32)), (si 1)] [(.int 1), (.ref t)])) rfl rfl (D 10 rfl) _ ?_; refine XS.iload X0.here hx rfl (D 11 rfl) rfl ?_; refine XS.icmpYes X0.here hx rfl (pc0 := 19) (pc' := 25) rfl (D 12 rfl) rfl (feq gq1).2 (by decide) (by decide) ?_; refine XS.iinc X0.here hx rfl (D 13 rfl) rfl (l' := #[(sr t), (si sc), (si 0), (si 2), (si (sc.toInt8.toInt32)), (si 2)]) rfl ?_; refine XS.goto X0.here hx rfl (pc0 := 28) (pc' := 7) rfl (D 14 rfl) (by decide) (by decide) ?_; refine XS.iload X0.here hx rfl (D 5 rfl) rfl ?_; refine XS.iloadN X0.here hx rfl (D 6 rfl) rfl ?_; refine XS.icmpYes X0.here hx rfl (pc0 := 10) (pc' := 31) rfl (D 7 rfl) rfl (flt (by decide)).2.1 (by decide) (by decide) ?_; refine XS.iconst X0.here hx rfl (D 15 rfl) ?_; exact kq)
  obtain ⟨fs, hr, hrun, hended, hW, hsame⟩ := X0.leave (v := some (.int (-1 : Int32))) (fun h => by rw [Bd.returns] at h; cases h)
  refine ⟨_, _, go5 _ ?_, hrun, hended, _, _, rfl, ?_, ⟨_, rfl⟩, hW, hsame.mono (by decide) (by decide)⟩
  · exact retOut X0 hx Bd.returns rfl (Or.inl ⟨rfl, Or.inl rfl, _, rfl⟩) (D 16 rfl) hr
  · show QIX Z t kx q0 q1 sc h0 n0 _ s₁.heap _
    rw [e0]
    exact ⟨rfl, rfl, rfl⟩
def QCE (Z : State) (sc : Int32) (h0 : Heap) (n0 : Nat) (v : Option Value) (h : Heap) (L : List Loc) : Prop := v = some (.int (1 : Int32)) ∧ L = [] ∧ h = h0
abbrev RmCE : Room := ({ frames := 0, cells := 0, slots := 0, locals := 0 } : Room)
theorem rmCE (l : Launch) (Z : State) (a0 : Array Value) (hw : Tb a0 Z) (ws : List Jvm.Cond) (sc : Int32) (h0 : Heap) (n0 : Nat) (Z0 : n0 ≤ h0.size) (hs : own_br sc) :
    Met l Z h0 (⟨"java/lang/StringLatin1", "canEncode", "(I)Z"⟩ : MethodName) jdk_43_method_4_code 1 (some .boolean) RmCE ws #[(.int sc)] (QCE Z sc h0 n0) := by
  refine MetFree.of_bodySF (plainFor_of_name pn_13) hisR ?_
  intro p e s m args below meth c s₁ Bd hml0 hP hK
  obtain ⟨rfl, hZ, hh⟩ := hP
  have hx := Bd.exec
  have hby := Bd.bytes
  have D := dl hby d33_
  have hml : c.maxLocals = 1 := hml0
  have hown : s.vm.findClass "java/lang/StringLatin1" = some m.cls := findClass_of_methodNamed Bd.named
  have hnm := (name_of_methodNamed Bd.named Bd.method).1
  have X0 : Stand p l e RmCE s m #[(.int sc)] below meth c s₁ [] 0 0 := Stand.of_body Bd
  have e0 : s₁.heap = h0 := by rw [← hh, Bd.state]; rfl
  have N0 := Fr.nil n0
  obtain ⟨E0, hE0⟩ : ∃ z, z = s₁.setTop (entryFrame m #[(.int sc)] 1) := ⟨_, rfl⟩
  rw [← hE0]
  have go0 : Go p e below E0 s₁ m 0 #[(si sc)] [] := fun tgt kq => by rw [hE0]; exact castTop (ef_NL520 m sc) kq
  have go1 : Go p e below E0 s₁ m 16 #[(si sc)] [(.int 1)] := fun tgt kq => go0 tgt (by
    refine XS.iloadN X0.here hx rfl (D 0 rfl) rfl ?_; refine XS.ifNo X0.here hx rfl (D 1 rfl) rfl ((if0 _ _).trans (flt hs.1).1) ?_; refine XS.iloadN X0.here hx rfl (D 2 rfl) rfl ?_; refine XS.sipush X0.here hx rfl (D 3 rfl) ?_; refine XS.icmpNo X0.here hx rfl (D 4 rfl) rfl (flt hs.2.1).2.2.1 ?_; refine XS.iconst X0.here hx rfl (D 5 rfl) ?_; refine XS.goto X0.here hx rfl (pc0 := 12) (pc' := 16) rfl (D 6 rfl) (by decide) (by decide) ?_; exact kq)
  obtain ⟨fs, hr, hrun, hended, hW, hsame⟩ := X0.leave (v := some (.int (1 : Int32))) (fun h => by rw [Bd.returns] at h; cases h)
  refine ⟨_, _, go1 _ ?_, hrun, hended, _, _, rfl, ?_, ⟨_, rfl⟩, hW, hsame.mono (by decide) (by decide)⟩
  · exact retN X0 hx (t := .boolean) Bd.returns (by simp) (D 7 rfl) hr
  · show QCE Z sc h0 n0 _ s₁.heap _
    rw [e0]
    exact ⟨rfl, rfl, rfl⟩
theorem pd_27 : parseMethodDescriptor "(I)Z" = some ⟨[.int], some .boolean⟩ := by decide +kernel
theorem pd_28 : parseMethodDescriptor "(II)I" = some ⟨[.int, .int], some .int⟩ := by decide +kernel
theorem pd_29 : parseMethodDescriptor "([BIII)I" = some ⟨[(.array .byte), .int, .int, .int], some .int⟩ := by decide +kernel
theorem ef_LI (m : MethodId) (x0 : Addr) (x1 : Int32) (x2 : Int32) (x3 : Int32) : entryFrame m #[(.ref x0), (.int x1), (.int x2), (.int x3)] 4 = mkF m 0 #[.val (.ref x0), .val (.int x1), .val (.int x2), .val (.int x3)] [] := by first | (simp [entryFrame, mkF, argsToLocals, Value.category, maxLocals]; done) | rfl
def QLI (Z : State) (t : Addr) (kx : ClassId) (q0 : Int32) (q1 : Int32) (sc : Int32) (h0 : Heap) (n0 : Nat) (v : Option Value) (h : Heap) (L : List Loc) : Prop := v = some (.int (-1 : Int32)) ∧ L = [] ∧ h = h0
abbrev RmLI : Room := ({ frames := 1, cells := 0, slots := 0, locals := 17 } : Room)
theorem rmLI (l : Launch) (Z : State) (a0 : Array Value) (hw : Tb a0 Z) (ws : List Jvm.Cond) (t : Addr) (kx : ClassId) (q0 : Int32) (q1 : Int32) (sc : Int32) (h0 : Heap) (n0 : Nat) (Z0 : n0 ≤ h0.size) (A0 : Yb Z h0 t kx (2 : Int32) [(.int q0), (.int q1)]) (g0 : ¬ q0 = (sc.toInt8.toInt32)) (gq1 : ¬ q1 = (sc.toInt8.toInt32)) (hs : own_br sc) :
    Met l Z h0 (⟨"java/lang/StringLatin1", "indexOf", "([BIII)I"⟩ : MethodName) jdk_43_method_22_code 4 (some .int) RmLI ws #[(.ref t), (.int sc), (.int (0 : Int32)), (.int (2 : Int32))] (QLI Z t kx q0 q1 sc h0 n0) := by
  refine MetFree.of_bodySF (plainFor_of_name pn_13) hisR ?_
  intro p e s m args below meth c s₁ Bd hml0 hP hK
  obtain ⟨rfl, hZ, hh⟩ := hP
  have hx := Bd.exec
  have hby := Bd.bytes
  have D := dl hby d34_
  have hml : c.maxLocals = 4 := hml0
  have hown : s.vm.findClass "java/lang/StringLatin1" = some m.cls := findClass_of_methodNamed Bd.named
  have hnm := (name_of_methodNamed Bd.named Bd.method).1
  have X0 : Stand p l e RmLI s m #[(.ref t), (.int sc), (.int (0 : Int32)), (.int (2 : Int32))] below meth c s₁ [] 0 0 := Stand.of_body Bd
  have e0 : s₁.heap = h0 := by rw [← hh, Bd.state]; rfl
  have N0 := Fr.nil n0
  obtain ⟨E0, hE0⟩ : ∃ z, z = s₁.setTop (entryFrame m #[(.ref t), (.int sc), (.int (0 : Int32)), (.int (2 : Int32))] 4) := ⟨_, rfl⟩
  rw [← hE0]
  have go0 : Go p e below E0 s₁ m 0 #[(sr t), (si sc), (si 0), (si 2)] [] := fun tgt kq => by rw [hE0]; exact castTop (ef_LI m t sc (0 : Int32) (2 : Int32)) kq
  have go1 : Go p e below E0 s₁ m 1 #[(sr t), (si sc), (si 0), (si 2)] [(.int sc)] := fun tgt kq => go0 tgt (by
    refine XS.iloadN X0.here hx rfl (D 0 rfl) rfl ?_; exact kq)
  obtain ⟨_, T2, L2, X2, hQ2, go2⟩ := own_cS X0 hx hZ hown (wd hw 108 rfl) (wd hw 109 rfl) (wd hw 76 rfl) (wd hw 110 rfl) (by decide) (W := 0) (rmCE l Z a0 hw [] sc h0 n0 Z0 hs) (by decide) (by decide) e0 (by decide) (by decide) go1 hml.symm (argsL := [(.int sc)]) (rest := []) (lenOf pd_27 rfl) rfl rfl rfl (D 1 rfl)
  obtain ⟨rfl, rfl, e2⟩ := hQ2
  have N2 := Fr.app N0 (Fr.nil n0)
  have go3 : Go p e below E0 T2 m 11 #[(sr t), (si sc), (si 0), (si 2)] [(.int 0), (.int 0)] := fun tgt kq => go2 tgt (by
    refine XS.ifYes X2.here hx rfl (pc0 := 4) (pc' := 9) rfl (D 2 rfl) rfl ((if0 _ _).trans (feq (by decide)).2) (by decide) (by decide) ?_; refine XS.iloadN X2.here hx rfl (D 3 rfl) rfl ?_; refine XS.iconst X2.here hx rfl (D 4 rfl) ?_; exact kq)
  obtain ⟨_, T4, L4, X4, hQ4, go4⟩ := own_cS X2 hx hZ hown (wd hw 111 rfl) (wd hw 112 rfl) (wd hw 113 rfl) (wd hw 114 rfl) (by decide) (W := 0) (rmMX l Z a0 hw [] 0 0 0 h0 n0 Z0 (by decide) (by decide) (by decide)) (by decide) (by decide) e2 (by decide) (by decide) go3 hml.symm (argsL := [(.int 0), (.int 0)]) (rest := []) (lenOf pd_28 rfl) rfl rfl rfl (D 5 rfl)
  obtain ⟨rfl, rfl, e4⟩ := hQ4
  have N4 := Fr.app N2 (Fr.nil n0)
  have go5 : Go p e below E0 T4 m 17 #[(sr t), (si sc), (si 0), (si 2)] [(.ref t), (.int 2)] := fun tgt kq => go4 tgt (by
    refine XS.istoreN X4.here hx rfl (D 6 rfl) rfl (l' := #[(sr t), (si sc), (si 0), (si 2)]) rfl ?_; refine XS.iloadN X4.here hx rfl (D 7 rfl) rfl ?_; refine XS.aloadN X4.here hx rfl (D 8 rfl) rfl rfl ?_; exact kq)
  obtain ⟨c6, Ar6, q6, S6, M6, -, -⟩ := id A0
  have go7 : Go p e below E0 T4 m 18 #[(sr t), (si sc), (si 0), (si 2)] [(.int 2), (.int 2)] := fun tgt kq => go5 tgt (by
    refine X4.arraylength hx (by rw [e4]; exact Ar6.1) (State.isArrayOf_alike hZ.alike Ar6.2.1) (g := (mkF m 17 #[(sr t), (si sc), (si 0), (si 2)] [(.ref t), (.int 2)])) rfl rfl (D 9 rfl) _ ?_; rw [len_of S6 M6]; exact kq)
  obtain ⟨_, T8, L8, X8, hQ8, go8⟩ := own_cS X4 hx hZ hown (wd hw 115 rfl) (wd hw 116 rfl) (wd hw 113 rfl) (wd hw 117 rfl) (by decide) (W := 0) (rmMN l Z a0 hw [] 2 2 2 h0 n0 Z0 (by decide) (by decide) (by decide)) (by decide) (by decide) e4 (by decide) (by decide) go7 hml.symm (argsL := [(.int 2), (.int 2)]) (rest := []) (lenOf pd_28 rfl) rfl rfl rfl (D 10 rfl)
  obtain ⟨rfl, rfl, e8⟩ := hQ8
  have N8 := Fr.app N4 (Fr.nil n0)
  have go9 : Go p e below E0 T8 m 33 #[(sr t), (si sc), (si 0), (si 2)] [(.int 2), (.int 0), (.int sc), (.ref t)] := fun tgt kq => go8 tgt (by
    refine XS.istoreN X8.here hx rfl (D 11 rfl) rfl (l' := #[(sr t), (si sc), (si 0), (si 2)]) rfl ?_; refine XS.iloadN X8.here hx rfl (D 12 rfl) rfl ?_; refine XS.iloadN X8.here hx rfl (D 13 rfl) rfl ?_; refine XS.icmpYes X8.here hx rfl (pc0 := 24) (pc' := 29) rfl (D 14 rfl) rfl (tlt (by decide)).1 (by decide) (by decide) ?_; refine XS.aloadN X8.here hx rfl (D 15 rfl) rfl rfl ?_; refine XS.iloadN X8.here hx rfl (D 16 rfl) rfl ?_; refine XS.iloadN X8.here hx rfl (D 17 rfl) rfl ?_; refine XS.iloadN X8.here hx rfl (D 18 rfl) rfl ?_; exact kq)
  obtain ⟨_, T10, L10, X10, hQ10, go10⟩ := own_cS X8 hx hZ hown (wd hw 118 rfl) (wd hw 119 rfl) (wd hw 76 rfl) (wd hw 120 rfl) (by decide) (W := 0) (rmIX l Z a0 hw [] t kx q0 q1 sc h0 n0 Z0 A0 g0 gq1) (by decide) (by decide) e8 (by decide) (by decide) go9 hml.symm (argsL := [(.ref t), (.int sc), (.int 0), (.int 2)]) (rest := []) (lenOf pd_29 rfl) rfl rfl rfl (D 19 rfl)
  obtain ⟨rfl, rfl, e10⟩ := hQ10
  have N10 := Fr.app N8 (Fr.nil n0)
  obtain ⟨fs, hr, hrun, hended, hW, hsame⟩ := X10.leave (v := some (.int (-1 : Int32))) (fun h => by rw [Bd.returns] at h; cases h)
  refine ⟨_, _, go10 _ ?_, hrun, hended, _, _, rfl, ?_, ⟨_, rfl⟩, hW, hsame.mono (by decide) (by decide)⟩
  · exact retOut X10 hx Bd.returns rfl (Or.inl ⟨rfl, Or.inl rfl, _, rfl⟩) (D 20 rfl) hr
  · show QLI Z t kx q0 q1 sc h0 n0 _ T10.heap _
    rw [e10]
    exact ⟨rfl, rfl, rfl⟩
theorem ef_UX (m : MethodId) (x0 : Addr) (x1 : Int32) (x2 : Int32) (x3 : Int32) : entryFrame m #[(.ref x0), (.int x1), (.int x2), (.int x3)] 5 = mkF m 0 #[.val (.ref x0), .val (.int x1), .val (.int x2), .val (.int x3), .unset] [] := by first | (simp [entryFrame, mkF, argsToLocals, Value.category, maxLocals]; done) | rfl
def QUX (Z : State) (t : Addr) (kx : ClassId) (p0 : Int32) (p1 : Int32) (sc : Int32) (G : Int32) (fv : Value) (h0 : Heap) (n0 : Nat) (v : Option Value) (h : Heap) (L : List Loc) : Prop := v = some (.int (-1 : Int32)) ∧ L = [] ∧ h = h0
abbrev RmUX : Room := ({ frames := 1, cells := 0, slots := 0, locals := 13 } : Room)
theorem rmUX (l : Launch) (Z : State) (a0 : Array Value) (hw : Tb a0 Z) (ws : List Jvm.Cond) (t : Addr) (kx : ClassId) (p0 : Int32) (p1 : Int32) (sc : Int32) (G : Int32) (fv : Value) (h0 : Heap) (n0 : Nat) (Z0 : n0 ≤ h0.size) (A0 : Yb Z h0 t kx (4 : Int32) [(.int (own_b0 p0)), (.int (own_b1 p0)), (.int (own_b0 p1)), (.int (own_b1 p1))]) (k0 : own_ch p0) (k1 : own_ch p1) (g0 : ¬ p0 = sc) (gq1 : ¬ p1 = sc) (W0 : own_W Z G fv) (O0 : own_O Z n0 h0) :
    Met l Z h0 (⟨"java/lang/StringUTF16", "indexOfCharUnsafe", "([BIII)I"⟩ : MethodName) jdk_52_method_48_code 5 (some .int) RmUX ws #[(.ref t), (.int sc), (.int (0 : Int32)), (.int (2 : Int32))] (QUX Z t kx p0 p1 sc G fv h0 n0) := by
  refine MetFree.of_bodySF (plainFor_of_name pn_0) hisR ?_
  intro p e s m args below meth c s₁ Bd hml0 hP hK
  obtain ⟨rfl, hZ, hh⟩ := hP
  have hx := Bd.exec
  have hby := Bd.bytes
  have D := dl hby d35_
  have hml : c.maxLocals = 5 := hml0
  have hown : s.vm.findClass "java/lang/StringUTF16" = some m.cls := findClass_of_methodNamed Bd.named
  have hnm := (name_of_methodNamed Bd.named Bd.method).1
  have X0 : Stand p l e RmUX s m #[(.ref t), (.int sc), (.int (0 : Int32)), (.int (2 : Int32))] below meth c s₁ [] 0 0 := Stand.of_body Bd
  have e0 : s₁.heap = h0 := by rw [← hh, Bd.state]; rfl
  have N0 := Fr.nil n0
  obtain ⟨E0, hE0⟩ : ∃ z, z = s₁.setTop (entryFrame m #[(.ref t), (.int sc), (.int (0 : Int32)), (.int (2 : Int32))] 5) := ⟨_, rfl⟩
  rw [← hE0]
  have go0 : Go p e below E0 s₁ m 0 #[(sr t), (si sc), (si 0), (si 2), .unset] [] := fun tgt kq => by rw [hE0]; exact castTop (ef_UX m t sc (0 : Int32) (2 : Int32)) kq
  have go1 : Go p e below E0 s₁ m 12 #[(sr t), (si sc), (si 0), (si 2), (si 0)] [(.int 0), (.ref t)] := fun tgt kq => go0 tgt (by
    refine XS.iloadN X0.here hx rfl (D 0 rfl) rfl ?_; refine XS.istore X0.here hx rfl (D 1 rfl) rfl (l' := #[(sr t), (si sc), (si 0), (si 2), (si 0)]) rfl ?_; refine XS.iload X0.here hx rfl (D 2 rfl) rfl ?_; refine XS.iloadN X0.here hx rfl (D 3 rfl) rfl ?_; refine XS.icmpNo X0.here hx rfl (D 4 rfl) rfl (tlt (by decide)).2.1 ?_; refine XS.aloadN X0.here hx rfl (D 5 rfl) rfl rfl ?_; refine XS.iload X0.here hx rfl (D 6 rfl) rfl ?_; exact kq)
  obtain ⟨_, T2, L2, X2, hQ2, go2⟩ := own_cS X0 hx hZ hown (wd hw 281 rfl) (wd hw 282 rfl) (wd hw 26 rfl) (wd hw 283 rfl) (by decide) (W := 0) (rmGC l Z a0 hw [] t kx (4 : Int32) [(.int (own_b0 p0)), (.int (own_b1 p0)), (.int (own_b0 p1)), (.int (own_b1 p1))] (0 : Int32) (own_b0 p0) (own_b1 p0) p0 G fv h0 n0 Z0 A0 (by decide) rfl (by decide) rfl (own_utfc k0) W0 O0) (by decide) (by decide) e0 (by decide) (by decide) go1 hml.symm (argsL := [(.ref t), (.int 0)]) (rest := []) (lenOf pd_6 rfl) rfl rfl rfl (D 7 rfl)
  obtain ⟨rfl, rfl, e2⟩ := hQ2
  have N2 := Fr.app N0 (Fr.nil n0)
  have go3 : Go p e below E0 T2 m 12 #[(sr t), (si sc), (si 0), (si 2), (si 1)] [(.int 1), (.ref t)] := fun tgt kq => go2 tgt (by
    refine XS.iloadN X2.here hx rfl (D 8 rfl) rfl ?_; refine XS.icmpYes X2.here hx rfl (pc0 := 16) (pc' := 22) rfl (D 9 rfl) rfl (feq g0).2 (by decide) (by decide) ?_; refine XS.iinc X2.here hx rfl (D 10 rfl) rfl (l' := #[(sr t), (si sc), (si 0), (si 2), (si 1)]) rfl ?_; refine XS.goto X2.here hx rfl (pc0 := 25) (pc' := 3) rfl (D 11 rfl) (by decide) (by decide) ?_; refine XS.iload X2.here hx rfl (D 2 rfl) rfl ?_; refine XS.iloadN X2.here hx rfl (D 3 rfl) rfl ?_; refine XS.icmpNo X2.here hx rfl (D 4 rfl) rfl (tlt (by decide)).2.1 ?_; refine XS.aloadN X2.here hx rfl (D 5 rfl) rfl rfl ?_; refine XS.iload X2.here hx rfl (D 6 rfl) rfl ?_; exact kq)
  obtain ⟨_, T4, L4, X4, hQ4, go4⟩ := own_cS X2 hx hZ hown (wd hw 281 rfl) (wd hw 282 rfl) (wd hw 26 rfl) (wd hw 283 rfl) (by decide) (W := 0) (rmGC l Z a0 hw [] t kx (4 : Int32) [(.int (own_b0 p0)), (.int (own_b1 p0)), (.int (own_b0 p1)), (.int (own_b1 p1))] (1 : Int32) (own_b0 p1) (own_b1 p1) p1 G fv h0 n0 Z0 A0 (by decide) rfl (by decide) rfl (own_utfc k1) W0 O0) (by decide) (by decide) e2 (by decide) (by decide) go3 hml.symm (argsL := [(.ref t), (.int 1)]) (rest := []) (lenOf pd_6 rfl) rfl rfl rfl (D 7 rfl)
  obtain ⟨rfl, rfl, e4⟩ := hQ4
  have N4 := Fr.app N2 (Fr.nil n0)
  have go5 : Go p e below E0 T4 m 29 #[(sr t), (si sc), (si 0), (si 2), (si 2)] [(.int (-1))] := fun tgt kq => go4 tgt (by
    refine XS.iloadN X4.here hx rfl (D 8 rfl) rfl ?_; refine XS.icmpYes X4.here hx rfl (pc0 := 16) (pc' := 22) rfl (D 9 rfl) rfl (feq gq1).2 (by decide) (by decide) ?_; refine XS.iinc X4.here hx rfl (D 10 rfl) rfl (l' := #[(sr t), (si sc), (si 0), (si 2), (si 2)]) rfl ?_; refine XS.goto X4.here hx rfl (pc0 := 25) (pc' := 3) rfl (D 11 rfl) (by decide) (by decide) ?_; refine XS.iload X4.here hx rfl (D 2 rfl) rfl ?_; refine XS.iloadN X4.here hx rfl (D 3 rfl) rfl ?_; refine XS.icmpYes X4.here hx rfl (pc0 := 6) (pc' := 28) rfl (D 4 rfl) rfl (flt (by decide)).2.1 (by decide) (by decide) ?_; refine XS.iconst X4.here hx rfl (D 12 rfl) ?_; exact kq)
  obtain ⟨fs, hr, hrun, hended, hW, hsame⟩ := X4.leave (v := some (.int (-1 : Int32))) (fun h => by rw [Bd.returns] at h; cases h)
  refine ⟨_, _, go5 _ ?_, hrun, hended, _, _, rfl, ?_, ⟨_, rfl⟩, hW, hsame.mono (by decide) (by decide)⟩
  · exact retOut X4 hx Bd.returns rfl (Or.inl ⟨rfl, Or.inl rfl, _, rfl⟩) (D 13 rfl) hr
  · show QUX Z t kx p0 p1 sc G fv h0 n0 _ T4.heap _
    rw [e4]
    exact ⟨rfl, rfl, rfl⟩
theorem pd_30 : parseMethodDescriptor "(II[B)V" = some ⟨[.int, .int, (.array .byte)], none⟩ := by decide +kernel
def QUB (Z : State) (t : Addr) (kx : ClassId) (p0 : Int32) (p1 : Int32) (sc : Int32) (G : Int32) (fv : Value) (h0 : Heap) (n0 : Nat) (v : Option Value) (h : Heap) (L : List Loc) : Prop := v = some (.int (-1 : Int32)) ∧ L = [] ∧ h = h0
abbrev RmUB : Room := ({ frames := 3, cells := 0, slots := 0, locals := 43 } : Room)
theorem rmUB (l : Launch) (Z : State) (a0 : Array Value) (hw : Tb a0 Z) (ws : List Jvm.Cond) (t : Addr) (kx : ClassId) (p0 : Int32) (p1 : Int32) (sc : Int32) (G : Int32) (fv : Value) (h0 : Heap) (n0 : Nat) (Z0 : n0 ≤ h0.size) (A0 : Yb Z h0 t kx (4 : Int32) [(.int (own_b0 p0)), (.int (own_b1 p0)), (.int (own_b0 p1)), (.int (own_b1 p1))]) (k0 : own_ch p0) (k1 : own_ch p1) (g0 : ¬ p0 = sc) (gq1 : ¬ p1 = sc) (W0 : own_W Z G fv) (O0 : own_O Z n0 h0) :
    Met l Z h0 (⟨"java/lang/StringUTF16", "indexOfChar", "([BIII)I"⟩ : MethodName) jdk_52_method_47_code 4 (some .int) RmUB ws #[(.ref t), (.int sc), (.int (0 : Int32)), (.int (2 : Int32))] (QUB Z t kx p0 p1 sc G fv h0 n0) := by
  refine MetFree.of_bodySF (plainFor_of_name pn_0) hisR ?_
  intro p e s m args below meth c s₁ Bd hml0 hP hK
  obtain ⟨rfl, hZ, hh⟩ := hP
  have hx := Bd.exec
  have hby := Bd.bytes
  have D := dl hby d36_
  have hml : c.maxLocals = 4 := hml0
  have hown : s.vm.findClass "java/lang/StringUTF16" = some m.cls := findClass_of_methodNamed Bd.named
  have hnm := (name_of_methodNamed Bd.named Bd.method).1
  have X0 : Stand p l e RmUB s m #[(.ref t), (.int sc), (.int (0 : Int32)), (.int (2 : Int32))] below meth c s₁ [] 0 0 := Stand.of_body Bd
  have e0 : s₁.heap = h0 := by rw [← hh, Bd.state]; rfl
  have N0 := Fr.nil n0
  obtain ⟨E0, hE0⟩ : ∃ z, z = s₁.setTop (entryFrame m #[(.ref t), (.int sc), (.int (0 : Int32)), (.int (2 : Int32))] 4) := ⟨_, rfl⟩
  rw [← hE0]
  have go0 : Go p e below E0 s₁ m 0 #[(sr t), (si sc), (si 0), (si 2)] [] := fun tgt kq => by rw [hE0]; exact castTop (ef_LI m t sc (0 : Int32) (2 : Int32)) kq
  have go1 : Go p e below E0 s₁ m 3 #[(sr t), (si sc), (si 0), (si 2)] [(.ref t), (.int 2), (.int 0)] := fun tgt kq => go0 tgt (by
    refine XS.iloadN X0.here hx rfl (D 0 rfl) rfl ?_; refine XS.iloadN X0.here hx rfl (D 1 rfl) rfl ?_; refine XS.aloadN X0.here hx rfl (D 2 rfl) rfl rfl ?_; exact kq)
  obtain ⟨_, T2, L2, X2, hQ2, go2⟩ := own_cS X0 hx hZ hown (wd hw 305 rfl) (wd hw 306 rfl) (wd hw 26 rfl) (wd hw 307 rfl) (by decide) (W := 0) (rmUE l Z a0 hw [] t kx [(.int (own_b0 p0)), (.int (own_b1 p0)), (.int (own_b0 p1)), (.int (own_b1 p1))] G fv h0 n0 Z0 A0 W0 O0) (by decide) (by decide) e0 (by decide) (by decide) go1 hml.symm (argsL := [(.int 0), (.int 2), (.ref t)]) (rest := []) (lenOf pd_30 rfl) rfl rfl rfl (D 3 rfl)
  obtain ⟨rfl, rfl, e2⟩ := hQ2
  have N2 := Fr.app N0 (Fr.nil n0)
  have go3 : Go p e below E0 T2 m 10 #[(sr t), (si sc), (si 0), (si 2)] [(.int 2), (.int 0), (.int sc), (.ref t)] := fun tgt kq => go2 tgt (by
    refine XS.aloadN X2.here hx rfl (D 4 rfl) rfl rfl ?_; refine XS.iloadN X2.here hx rfl (D 5 rfl) rfl ?_; refine XS.iloadN X2.here hx rfl (D 6 rfl) rfl ?_; refine XS.iloadN X2.here hx rfl (D 7 rfl) rfl ?_; exact kq)
  obtain ⟨_, T4, L4, X4, hQ4, go4⟩ := own_cS X2 hx hZ hown (wd hw 314 rfl) (wd hw 315 rfl) (wd hw 26 rfl) (wd hw 316 rfl) (by decide) (W := 0) (rmUX l Z a0 hw [] t kx p0 p1 sc G fv h0 n0 Z0 A0 k0 k1 g0 gq1 W0 O0) (by decide) (by decide) e2 (by decide) (by decide) go3 hml.symm (argsL := [(.ref t), (.int sc), (.int 0), (.int 2)]) (rest := []) (lenOf pd_29 rfl) rfl rfl rfl (D 8 rfl)
  obtain ⟨rfl, rfl, e4⟩ := hQ4
  have N4 := Fr.app N2 (Fr.nil n0)
  obtain ⟨fs, hr, hrun, hended, hW, hsame⟩ := X4.leave (v := some (.int (-1 : Int32))) (fun h => by rw [Bd.returns] at h; cases h)
  refine ⟨_, _, go4 _ ?_, hrun, hended, _, _, rfl, ?_, ⟨_, rfl⟩, hW, hsame.mono (by decide) (by decide)⟩
  · exact retOut X4 hx Bd.returns rfl (Or.inl ⟨rfl, Or.inl rfl, _, rfl⟩) (D 9 rfl) hr
  · show QUB Z t kx p0 p1 sc G fv h0 n0 _ T4.heap _
    rw [e4]
    exact ⟨rfl, rfl, rfl⟩
def QUI (Z : State) (t : Addr) (kx : ClassId) (p0 : Int32) (p1 : Int32) (sc : Int32) (G : Int32) (fv : Value) (h0 : Heap) (n0 : Nat) (v : Option Value) (h : Heap) (L : List Loc) : Prop := v = some (.int (-1 : Int32)) ∧ L = [] ∧ h = h0
abbrev RmUI : Room := ({ frames := 4, cells := 0, slots := 0, locals := 58 } : Room)
theorem rmUI (l : Launch) (Z : State) (a0 : Array Value) (hw : Tb a0 Z) (ws : List Jvm.Cond) (t : Addr) (kx : ClassId) (p0 : Int32) (p1 : Int32) (sc : Int32) (G : Int32) (fv : Value) (h0 : Heap) (n0 : Nat) (Z0 : n0 ≤ h0.size) (A0 : Yb Z h0 t kx (4 : Int32) [(.int (own_b0 p0)), (.int (own_b1 p0)), (.int (own_b0 p1)), (.int (own_b1 p1))]) (k0 : own_ch p0) (k1 : own_ch p1) (g0 : ¬ p0 = sc) (gq1 : ¬ p1 = sc) (hs : own_br sc) (W0 : own_W Z G fv) (O0 : own_O Z n0 h0) :
    Met l Z h0 (⟨"java/lang/StringUTF16", "indexOf", "([BIII)I"⟩ : MethodName) jdk_52_method_40_code 4 (some .int) RmUI ws #[(.ref t), (.int sc), (.int (0 : Int32)), (.int (2 : Int32))] (QUI Z t kx p0 p1 sc G fv h0 n0) := by
  refine MetFree.of_bodySF (plainFor_of_name pn_0) hisR ?_
  intro p e s m args below meth c s₁ Bd hml0 hP hK
  obtain ⟨rfl, hZ, hh⟩ := hP
  have hx := Bd.exec
  have hby := Bd.bytes
  have D := dl hby d37_
  have hml : c.maxLocals = 4 := hml0
  have hown : s.vm.findClass "java/lang/StringUTF16" = some m.cls := findClass_of_methodNamed Bd.named
  have hnm := (name_of_methodNamed Bd.named Bd.method).1
  have X0 : Stand p l e RmUI s m #[(.ref t), (.int sc), (.int (0 : Int32)), (.int (2 : Int32))] below meth c s₁ [] 0 0 := Stand.of_body Bd
  have e0 : s₁.heap = h0 := by rw [← hh, Bd.state]; rfl
  have N0 := Fr.nil n0
  obtain ⟨E0, hE0⟩ : ∃ z, z = s₁.setTop (entryFrame m #[(.ref t), (.int sc), (.int (0 : Int32)), (.int (2 : Int32))] 4) := ⟨_, rfl⟩
  rw [← hE0]
  have go0 : Go p e below E0 s₁ m 0 #[(sr t), (si sc), (si 0), (si 2)] [] := fun tgt kq => by rw [hE0]; exact castTop (ef_LI m t sc (0 : Int32) (2 : Int32)) kq
  have go1 : Go p e below E0 s₁ m 2 #[(sr t), (si sc), (si 0), (si 2)] [(.int 0), (.int 0)] := fun tgt kq => go0 tgt (by
    refine XS.iloadN X0.here hx rfl (D 0 rfl) rfl ?_; refine XS.iconst X0.here hx rfl (D 1 rfl) ?_; exact kq)
  obtain ⟨_, T2, L2, X2, hQ2, go2⟩ := own_cS X0 hx hZ hown (wd hw 299 rfl) (wd hw 112 rfl) (wd hw 113 rfl) (wd hw 114 rfl) (by decide) (W := 0) (rmMX l Z a0 hw [] 0 0 0 h0 n0 Z0 (by decide) (by decide) (by decide)) (by decide) (by decide) e0 (by decide) (by decide) go1 hml.symm (argsL := [(.int 0), (.int 0)]) (rest := []) (lenOf pd_28 rfl) rfl rfl rfl (D 2 rfl)
  obtain ⟨rfl, rfl, e2⟩ := hQ2
  have N2 := Fr.app N0 (Fr.nil n0)
  have go3 : Go p e below E0 T2 m 8 #[(sr t), (si sc), (si 0), (si 2)] [(.ref t), (.int 2)] := fun tgt kq => go2 tgt (by
    refine XS.istoreN X2.here hx rfl (D 3 rfl) rfl (l' := #[(sr t), (si sc), (si 0), (si 2)]) rfl ?_; refine XS.iloadN X2.here hx rfl (D 4 rfl) rfl ?_; refine XS.aloadN X2.here hx rfl (D 5 rfl) rfl rfl ?_; exact kq)
  obtain ⟨c4, Ar4, q4, S4, M4, -, -⟩ := id A0
  have go5 : Go p e below E0 T2 m 11 #[(sr t), (si sc), (si 0), (si 2)] [(.int ((4 : Int32) >>> ((1 : Int32) &&& 31))), (.int 2)] := fun tgt kq => go3 tgt (by
    refine X2.arraylength hx (by rw [e2]; exact Ar4.1) (State.isArrayOf_alike hZ.alike Ar4.2.1) (g := (mkF m 8 #[(sr t), (si sc), (si 0), (si 2)] [(.ref t), (.int 2)])) rfl rfl (D 6 rfl) _ ?_; rw [len_of S4 M4]; refine XS.iconst X2.here hx rfl (D 7 rfl) ?_; refine XS.ishr X2.here hx rfl (D 8 rfl) rfl ?_; exact kq)
  have go6 : Go p e below E0 T2 m 11 #[(sr t), (si sc), (si 0), (si 2)] [(.int 2), (.int 2)] := by have q := go5; rw [show ((4 : Int32) >>> ((1 : Int32) &&& 31)) = (2 : Int32) from (by decide)] at q; exact q
  obtain ⟨_, T7, L7, X7, hQ7, go7⟩ := own_cS X2 hx hZ hown (wd hw 300 rfl) (wd hw 116 rfl) (wd hw 113 rfl) (wd hw 117 rfl) (by decide) (W := 0) (rmMN l Z a0 hw [] 2 2 2 h0 n0 Z0 (by decide) (by decide) (by decide)) (by decide) (by decide) e2 (by decide) (by decide) go6 hml.symm (argsL := [(.int 2), (.int 2)]) (rest := []) (lenOf pd_28 rfl) rfl rfl rfl (D 9 rfl)
  obtain ⟨rfl, rfl, e7⟩ := hQ7
  have N7 := Fr.app N2 (Fr.nil n0)
  have go8 : Go p e below E0 T7 m 32 #[(sr t), (si sc), (si 0), (si 2)] [(.int 2), (.int 0), (.int sc), (.ref t)] := fun tgt kq => go7 tgt (by
    refine XS.istoreN X7.here hx rfl (D 10 rfl) rfl (l' := #[(sr t), (si sc), (si 0), (si 2)]) rfl ?_; refine XS.iloadN X7.here hx rfl (D 11 rfl) rfl ?_; refine XS.iloadN X7.here hx rfl (D 12 rfl) rfl ?_; refine XS.icmpYes X7.here hx rfl (pc0 := 17) (pc' := 22) rfl (D 13 rfl) rfl (tlt (by decide)).1 (by decide) (by decide) ?_; refine XS.iloadN X7.here hx rfl (D 14 rfl) rfl ?_; refine X7.ldcInt hx hown (wm hw hZ 301 rfl) (g := (mkF m 23 #[(sr t), (si sc), (si 0), (si 2)] [(.int sc)])) rfl (D 15 rfl) _ ?_; refine XS.icmpNo X7.here hx rfl (D 16 rfl) rfl (tlt hs.2.2.1).2.1 ?_; refine XS.aloadN X7.here hx rfl (D 17 rfl) rfl rfl ?_; refine XS.iloadN X7.here hx rfl (D 18 rfl) rfl ?_; refine XS.iloadN X7.here hx rfl (D 19 rfl) rfl ?_; refine XS.iloadN X7.here hx rfl (D 20 rfl) rfl ?_; exact kq)
  obtain ⟨_, T9, L9, X9, hQ9, go9⟩ := own_cS X7 hx hZ hown (wd hw 302 rfl) (wd hw 303 rfl) (wd hw 26 rfl) (wd hw 304 rfl) (by decide) (W := 0) (rmUB l Z a0 hw [] t kx p0 p1 sc G fv h0 n0 Z0 A0 k0 k1 g0 gq1 W0 O0) (by decide) (by decide) e7 (by decide) (by decide) go8 hml.symm (argsL := [(.ref t), (.int sc), (.int 0), (.int 2)]) (rest := []) (lenOf pd_29 rfl) rfl rfl rfl (D 21 rfl)
  obtain ⟨rfl, rfl, e9⟩ := hQ9
  have N9 := Fr.app N7 (Fr.nil n0)
  obtain ⟨fs, hr, hrun, hended, hW, hsame⟩ := X9.leave (v := some (.int (-1 : Int32))) (fun h => by rw [Bd.returns] at h; cases h)
  refine ⟨_, _, go9 _ ?_, hrun, hended, _, _, rfl, ?_, ⟨_, rfl⟩, hW, hsame.mono (by decide) (by decide)⟩
  · exact retOut X9 hx Bd.returns rfl (Or.inl ⟨rfl, Or.inl rfl, _, rfl⟩) (D 22 rfl) hr
  · show QUI Z t kx p0 p1 sc G fv h0 n0 _ T9.heap _
    rw [e9]
    exact ⟨rfl, rfl, rfl⟩
def QJ2 (Z : State) (x : Addr) (t : Addr) (kx : ClassId) (p0 : Int32) (p1 : Int32) (sc : Int32) (G : Int32) (fv : Value) (h0 : Heap) (n0 : Nat) (v : Option Value) (h : Heap) (L : List Loc) : Prop := v = some (.int (-1 : Int32)) ∧ L = [] ∧ h = h0
abbrev RmJ2 : Room := ({ frames := 5, cells := 0, slots := 0, locals := 73 } : Room)
theorem rmJ2 (l : Launch) (Z : State) (a0 : Array Value) (hw : Tb a0 Z) (ws : List Jvm.Cond) (x : Addr) (t : Addr) (kx : ClassId) (p0 : Int32) (p1 : Int32) (sc : Int32) (G : Int32) (fv : Value) (h0 : Heap) (n0 : Nat) (Z0 : n0 ≤ h0.size) (Ex : E1_ Z h0 x) (Fv : F6_ Z h0 x (.ref t)) (Fc : F5_ Z h0 x (.int (own_co [p0, p1]))) (Ax : Yb Z h0 t kx (Int32.ofNat (own_k [p0, p1] * [p0, p1].length)) (own_by [p0, p1])) (k0 : own_ch p0) (k1 : own_ch p1) (g0 : ¬ p0 = sc) (gq1 : ¬ p1 = sc) (hs : own_br sc) (W0 : own_W Z G fv) (O0 : own_O Z n0 h0) :
    Met l Z h0 (⟨"java/lang/String", "indexOf", "(II)I"⟩ : MethodName) jdk_42_method_80_code 3 (some .int) RmJ2 ws #[(.ref x), (.int sc), (.int (0 : Int32))] (QJ2 Z x t kx p0 p1 sc G fv h0 n0) := by
  refine MetFree.of_bodySF (plainFor_of_name pn_8) hisR ?_
  intro p e s m args below meth c s₁ Bd hml0 hP hK
  obtain ⟨rfl, hZ, hh⟩ := hP
  have hx := Bd.exec
  have hby := Bd.bytes
  have D := dl hby d38_
  have hml : c.maxLocals = 3 := hml0
  have hown : s.vm.findClass "java/lang/String" = some m.cls := findClass_of_methodNamed Bd.named
  have hnm := (name_of_methodNamed Bd.named Bd.method).1
  have X0 : Stand p l e RmJ2 s m #[(.ref x), (.int sc), (.int (0 : Int32))] below meth c s₁ [] 0 0 := Stand.of_body Bd
  have e0 : s₁.heap = h0 := by rw [← hh, Bd.state]; rfl
  have N0 := Fr.nil n0
  obtain ⟨E0, hE0⟩ : ∃ z, z = s₁.setTop (entryFrame m #[(.ref x), (.int sc), (.int (0 : Int32))] 3) := ⟨_, rfl⟩
  rw [← hE0]
  have go0 : Go p e below E0 s₁ m 0 #[(sr x), (si sc), (si 0)] [] := fun tgt kq => by rw [hE0]; exact castTop (ef_PU m x sc (0 : Int32)) kq
  have go1 : Go p e below E0 s₁ m 1 #[(sr x), (si sc), (si 0)] [(.ref x)] := fun tgt kq => go0 tgt (by
    refine XS.aloadN X0.here hx rfl (D 0 rfl) rfl rfl ?_; exact kq)
  by_cases u0 : own_l1 [p0, p1] = true
  · have Fc1 : F5_ Z h0 x (.int (0 : Int32)) := by have q := Fc; rw [own_c0 u0] at q; exact q
    have Ax1 : Yb Z h0 t kx (2 : Int32) [(.int (own_lo p0)), (.int (own_lo p1))] := by have q := Ax; rw [own_by0 u0, own_k0 u0] at q; exact q
    obtain ⟨_, T2, L2, X2, hQ2, go2⟩ := own_cV X0 hx hZ hown (wd hw 69 rfl) (wd hw 70 rfl) (wd hw 72 rfl) (wd hw 71 rfl) (wd hw 11 rfl) (wd hw 73 rfl) (by decide) (W := 0) (rmIL0 l Z a0 hw [] x G fv h0 n0 Z0 Fc1 W0 O0) (by decide) (by decide) e0 (by decide) (by decide) Ex go1 hml.symm (argsL := []) (rest := []) (lenOf pd_18 rfl) rfl rfl rfl (D 1 rfl)
    obtain ⟨rfl, rfl, e2⟩ := hQ2
    have N2 := Fr.app N0 (Fr.nil n0)
    have go3 : Go p e below E0 T2 m 8 #[(sr x), (si sc), (si 0)] [(.ref x)] := fun tgt kq => go2 tgt (by
      refine XS.ifNo X2.here hx rfl (D 2 rfl) rfl ((if0 _ _).trans (feq (by decide)).1) ?_; refine XS.aloadN X2.here hx rfl (D 3 rfl) rfl rfl ?_; exact kq)
    obtain ⟨T4, X4, e4, go4⟩ := own_gF X2 hx hZ hown (wd hw 37 rfl) e2 Fv go3 (D 4 rfl)
    have go5 : Go p e below E0 T4 m 14 #[(sr x), (si sc), (si 0)] [(.ref x), (.int 0), (.int sc), (.ref t)] := fun tgt kq => go4 tgt (by
      refine XS.iloadN X4.here hx rfl (D 5 rfl) rfl ?_; refine XS.iloadN X4.here hx rfl (D 6 rfl) rfl ?_; refine XS.aloadN X4.here hx rfl (D 7 rfl) rfl rfl ?_; exact kq)
    obtain ⟨_, T6, L6, X6, hQ6, go6⟩ := own_cV X4 hx hZ hown (wd hw 104 rfl) (wd hw 55 rfl) (wd hw 57 rfl) (wd hw 56 rfl) (wd hw 11 rfl) (wd hw 58 rfl) (by decide) (W := 3) (rmLN l Z a0 hw [] x t kx (2 : Int32) [(.int (own_lo p0)), (.int (own_lo p1))] (0 : Int32) (2 : Int32) G fv h0 n0 Z0 Ex Fv Fc1 (by decide) Ax1 (by decide) W0 O0) (by decide) (by decide) e4 (by decide) (by decide) Ex go5 hml.symm (argsL := []) (rest := [(.int 0), (.int sc), (.ref t)]) (lenOf pd_21 rfl) rfl rfl rfl (D 8 rfl)
    obtain ⟨rfl, rfl, e6⟩ := hQ6
    have N6 := Fr.app N2 (Fr.nil n0)
    have al := own_l1_iff.mp u0
    obtain ⟨_, T7, L7, X7, hQ7, go7⟩ := own_cS X6 hx hZ hown (wd hw 105 rfl) (wd hw 106 rfl) (wd hw 76 rfl) (wd hw 107 rfl) (by decide) (W := 0) (rmLI l Z a0 hw [] t kx (own_lo p0) (own_lo p1) sc h0 n0 Z0 Ax1 (hs.2.2.2 _ k0.1 (al _ (by simp)) g0) (hs.2.2.2 _ k1.1 (al _ (by simp)) gq1) hs) (by decide) (by decide) e6 (by decide) (by decide) go6 hml.symm (argsL := [(.ref t), (.int sc), (.int 0), (.int 2)]) (rest := []) (lenOf pd_29 rfl) rfl rfl rfl (D 9 rfl)
    obtain ⟨rfl, rfl, e7⟩ := hQ7
    have N7 := Fr.app N6 (Fr.nil n0)
    have go8 : Go p e below E0 T7 m 36 #[(sr x), (si sc), (si 0)] [(.int (-1))] := fun tgt kq => go7 tgt (by
      refine XS.goto X7.here hx rfl (pc0 := 20) (pc' := 36) rfl (D 10 rfl) (by decide) (by decide) ?_; exact kq)
    obtain ⟨fs, hr, hrun, hended, hW, hsame⟩ := X7.leave (v := some (.int (-1 : Int32))) (fun h => by rw [Bd.returns] at h; cases h)
    refine ⟨_, _, go8 _ ?_, hrun, hended, _, _, rfl, ?_, ⟨_, rfl⟩, hW, hsame.mono (by decide) (by decide)⟩
    · exact retOut X7 hx Bd.returns rfl (Or.inl ⟨rfl, Or.inl rfl, _, rfl⟩) (D 11 rfl) hr
    · show QJ2 Z x t kx p0 p1 sc G fv h0 n0 _ T7.heap _
      rw [e7]
      exact ⟨rfl, rfl, rfl⟩
  · have Fc1 : F5_ Z h0 x (.int (1 : Int32)) := by have q := Fc; rw [own_c1 u0] at q; exact q
    have Ax1 : Yb Z h0 t kx (4 : Int32) [(.int (own_b0 p0)), (.int (own_b1 p0)), (.int (own_b0 p1)), (.int (own_b1 p1))] := by have q := Ax; rw [own_by1 u0, own_k1 u0] at q; exact q
    obtain ⟨_, T9, L9, X9, hQ9, go9⟩ := own_cV X0 hx hZ hown (wd hw 69 rfl) (wd hw 70 rfl) (wd hw 72 rfl) (wd hw 71 rfl) (wd hw 11 rfl) (wd hw 73 rfl) (by decide) (W := 0) (rmIL1 l Z a0 hw [] x G fv h0 n0 Z0 Fc1 W0 O0) (by decide) (by decide) e0 (by decide) (by decide) Ex go1 hml.symm (argsL := []) (rest := []) (lenOf pd_18 rfl) rfl rfl rfl (D 1 rfl)
    obtain ⟨rfl, rfl, e9⟩ := hQ9
    have N9 := Fr.app N0 (Fr.nil n0)
    have go10 : Go p e below E0 T9 m 24 #[(sr x), (si sc), (si 0)] [(.ref x)] := fun tgt kq => go9 tgt (by
      refine XS.ifYes X9.here hx rfl (pc0 := 4) (pc' := 23) rfl (D 2 rfl) rfl ((if0 _ _).trans (teq rfl).1) (by decide) (by decide) ?_; refine XS.aloadN X9.here hx rfl (D 12 rfl) rfl rfl ?_; exact kq)
    obtain ⟨T11, X11, e11, go11⟩ := own_gF X9 hx hZ hown (wd hw 37 rfl) e9 Fv go10 (D 13 rfl)
    have go12 : Go p e below E0 T11 m 30 #[(sr x), (si sc), (si 0)] [(.ref x), (.int 0), (.int sc), (.ref t)] := fun tgt kq => go11 tgt (by
      refine XS.iloadN X11.here hx rfl (D 14 rfl) rfl ?_; refine XS.iloadN X11.here hx rfl (D 15 rfl) rfl ?_; refine XS.aloadN X11.here hx rfl (D 16 rfl) rfl rfl ?_; exact kq)
    obtain ⟨_, T13, L13, X13, hQ13, go13⟩ := own_cV X11 hx hZ hown (wd hw 104 rfl) (wd hw 55 rfl) (wd hw 57 rfl) (wd hw 56 rfl) (wd hw 11 rfl) (wd hw 58 rfl) (by decide) (W := 3) (rmLN l Z a0 hw [] x t kx (4 : Int32) [(.int (own_b0 p0)), (.int (own_b1 p0)), (.int (own_b0 p1)), (.int (own_b1 p1))] (1 : Int32) (2 : Int32) G fv h0 n0 Z0 Ex Fv Fc1 (by decide) Ax1 (by decide) W0 O0) (by decide) (by decide) e11 (by decide) (by decide) Ex go12 hml.symm (argsL := []) (rest := [(.int 0), (.int sc), (.ref t)]) (lenOf pd_21 rfl) rfl rfl rfl (D 17 rfl)
    obtain ⟨rfl, rfl, e13⟩ := hQ13
    have N13 := Fr.app N9 (Fr.nil n0)
    obtain ⟨_, T14, L14, X14, hQ14, go14⟩ := own_cS X13 hx hZ hown (wd hw 296 rfl) (wd hw 297 rfl) (wd hw 26 rfl) (wd hw 298 rfl) (by decide) (W := 0) (rmUI l Z a0 hw [] t kx p0 p1 sc G fv h0 n0 Z0 Ax1 k0 k1 g0 gq1 hs W0 O0) (by decide) (by decide) e13 (by decide) (by decide) go13 hml.symm (argsL := [(.ref t), (.int sc), (.int 0), (.int 2)]) (rest := []) (lenOf pd_29 rfl) rfl rfl rfl (D 18 rfl)
    obtain ⟨rfl, rfl, e14⟩ := hQ14
    have N14 := Fr.app N13 (Fr.nil n0)
    obtain ⟨fs, hr, hrun, hended, hW, hsame⟩ := X14.leave (v := some (.int (-1 : Int32))) (fun h => by rw [Bd.returns] at h; cases h)
    refine ⟨_, _, go14 _ ?_, hrun, hended, _, _, rfl, ?_, ⟨_, rfl⟩, hW, hsame.mono (by decide) (by decide)⟩
    · exact retOut X14 hx Bd.returns rfl (Or.inl ⟨rfl, Or.inl rfl, _, rfl⟩) (D 11 rfl) hr
    · show QJ2 Z x t kx p0 p1 sc G fv h0 n0 _ T14.heap _
      rw [e14]
      exact ⟨rfl, rfl, rfl⟩
def QJ1 (Z : State) (x : Addr) (t : Addr) (kx : ClassId) (p0 : Int32) (p1 : Int32) (sc : Int32) (G : Int32) (fv : Value) (h0 : Heap) (n0 : Nat) (v : Option Value) (h : Heap) (L : List Loc) : Prop := v = some (.int (-1 : Int32)) ∧ L = [] ∧ h = h0
abbrev RmJ1 : Room := ({ frames := 6, cells := 0, slots := 0, locals := 87 } : Room)
theorem rmJ1 (l : Launch) (Z : State) (a0 : Array Value) (hw : Tb a0 Z) (ws : List Jvm.Cond) (x : Addr) (t : Addr) (kx : ClassId) (p0 : Int32) (p1 : Int32) (sc : Int32) (G : Int32) (fv : Value) (h0 : Heap) (n0 : Nat) (Z0 : n0 ≤ h0.size) (Ex : E1_ Z h0 x) (Fv : F6_ Z h0 x (.ref t)) (Fc : F5_ Z h0 x (.int (own_co [p0, p1]))) (Ax : Yb Z h0 t kx (Int32.ofNat (own_k [p0, p1] * [p0, p1].length)) (own_by [p0, p1])) (k0 : own_ch p0) (k1 : own_ch p1) (g0 : ¬ p0 = sc) (gq1 : ¬ p1 = sc) (hs : own_br sc) (W0 : own_W Z G fv) (O0 : own_O Z n0 h0) :
    Met l Z h0 (⟨"java/lang/String", "indexOf", "(I)I"⟩ : MethodName) jdk_42_method_79_code 2 (some .int) RmJ1 ws #[(.ref x), (.int sc)] (QJ1 Z x t kx p0 p1 sc G fv h0 n0) := by
  refine MetFree.of_bodySF (plainFor_of_name pn_8) hisR ?_
  intro p e s m args below meth c s₁ Bd hml0 hP hK
  obtain ⟨rfl, hZ, hh⟩ := hP
  have hx := Bd.exec
  have hby := Bd.bytes
  have D := dl hby d39_
  have hml : c.maxLocals = 2 := hml0
  have hown : s.vm.findClass "java/lang/String" = some m.cls := findClass_of_methodNamed Bd.named
  have hnm := (name_of_methodNamed Bd.named Bd.method).1
  have X0 : Stand p l e RmJ1 s m #[(.ref x), (.int sc)] below meth c s₁ [] 0 0 := Stand.of_body Bd
  have e0 : s₁.heap = h0 := by rw [← hh, Bd.state]; rfl
  have N0 := Fr.nil n0
  obtain ⟨E0, hE0⟩ : ∃ z, z = s₁.setTop (entryFrame m #[(.ref x), (.int sc)] 2) := ⟨_, rfl⟩
  rw [← hE0]
  have go0 : Go p e below E0 s₁ m 0 #[(sr x), (si sc)] [] := fun tgt kq => by rw [hE0]; exact castTop (ef_GC m x sc) kq
  have go1 : Go p e below E0 s₁ m 3 #[(sr x), (si sc)] [(.int 0), (.int sc), (.ref x)] := fun tgt kq => go0 tgt (by
    refine XS.aloadN X0.here hx rfl (D 0 rfl) rfl rfl ?_; refine XS.iloadN X0.here hx rfl (D 1 rfl) rfl ?_; refine XS.iconst X0.here hx rfl (D 2 rfl) ?_; exact kq)
  obtain ⟨_, T2, L2, X2, hQ2, go2⟩ := own_cV X0 hx hZ hown (wd hw 99 rfl) (wd hw 100 rfl) (wd hw 102 rfl) (wd hw 101 rfl) (wd hw 11 rfl) (wd hw 103 rfl) (by decide) (W := 0) (rmJ2 l Z a0 hw [] x t kx p0 p1 sc G fv h0 n0 Z0 Ex Fv Fc Ax k0 k1 g0 gq1 hs W0 O0) (by decide) (by decide) e0 (by decide) (by decide) Ex go1 hml.symm (argsL := [(.int sc), (.int 0)]) (rest := []) (lenOf pd_28 rfl) rfl rfl rfl (D 3 rfl)
  obtain ⟨rfl, rfl, e2⟩ := hQ2
  have N2 := Fr.app N0 (Fr.nil n0)
  obtain ⟨fs, hr, hrun, hended, hW, hsame⟩ := X2.leave (v := some (.int (-1 : Int32))) (fun h => by rw [Bd.returns] at h; cases h)
  refine ⟨_, _, go2 _ ?_, hrun, hended, _, _, rfl, ?_, ⟨_, rfl⟩, hW, hsame.mono (by decide) (by decide)⟩
  · exact retOut X2 hx Bd.returns rfl (Or.inl ⟨rfl, Or.inl rfl, _, rfl⟩) (D 4 rfl) hr
  · show QJ1 Z x t kx p0 p1 sc G fv h0 n0 _ T2.heap _
    rw [e2]
    exact ⟨rfl, rfl, rfl⟩
def QCC1 (Z : State) (cc : Int32) (h0 : Heap) (n0 : Nat) (v : Option Value) (h : Heap) (L : List Loc) : Prop := v = some (.int (1 : Int32)) ∧ L = [] ∧ h = h0
abbrev RmCC1 : Room := ({ frames := 0, cells := 0, slots := 0, locals := 0 } : Room)
theorem rmCC1 (l : Launch) (Z : State) (a0 : Array Value) (hw : Tb a0 Z) (ws : List Jvm.Cond) (cc : Int32) (h0 : Heap) (n0 : Nat) (Z0 : n0 ≤ h0.size) (hc : ¬ (255 : Int32) < cc) :
    Met l Z h0 y8_ jdk_43_method_3_code 1 (some .boolean) RmCC1 ws #[(.int cc)] (QCC1 Z cc h0 n0) := by
  refine MetFree.of_bodySF (plainFor_of_name pn_13) hisR ?_
  intro p e s m args below meth c s₁ Bd hml0 hP hK
  obtain ⟨rfl, hZ, hh⟩ := hP
  have hx := Bd.exec
  have hby := Bd.bytes
  have D := dl hby d40_
  have hml : c.maxLocals = 1 := hml0
  have hown : s.vm.findClass "java/lang/StringLatin1" = some m.cls := findClass_of_methodNamed Bd.named
  have hnm := (name_of_methodNamed Bd.named Bd.method).1
  have X0 : Stand p l e RmCC1 s m #[(.int cc)] below meth c s₁ [] 0 0 := Stand.of_body Bd
  have e0 : s₁.heap = h0 := by rw [← hh, Bd.state]; rfl
  have N0 := Fr.nil n0
  obtain ⟨E0, hE0⟩ : ∃ z, z = s₁.setTop (entryFrame m #[(.int cc)] 1) := ⟨_, rfl⟩
  rw [← hE0]
  have go0 : Go p e below E0 s₁ m 0 #[(si cc)] [] := fun tgt kq => by rw [hE0]; exact castTop (ef_NL520 m cc) kq
  have go1 : Go p e below E0 s₁ m 12 #[(si cc)] [(.int 1)] := fun tgt kq => go0 tgt (by
    refine XS.iloadN X0.here hx rfl (D 0 rfl) rfl ?_; refine XS.sipush X0.here hx rfl (D 1 rfl) ?_; refine XS.icmpNo X0.here hx rfl (D 2 rfl) rfl (flt hc).2.2.1 ?_; refine XS.iconst X0.here hx rfl (D 3 rfl) ?_; refine XS.goto X0.here hx rfl (pc0 := 8) (pc' := 12) rfl (D 4 rfl) (by decide) (by decide) ?_; exact kq)
  obtain ⟨fs, hr, hrun, hended, hW, hsame⟩ := X0.leave (v := some (.int (1 : Int32))) (fun h => by rw [Bd.returns] at h; cases h)
  refine ⟨_, _, go1 _ ?_, hrun, hended, _, _, rfl, ?_, ⟨_, rfl⟩, hW, hsame.mono (by decide) (by decide)⟩
  · exact retN X0 hx (t := .boolean) Bd.returns (by simp) (D 5 rfl) hr
  · show QCC1 Z cc h0 n0 _ s₁.heap _
    rw [e0]
    exact ⟨rfl, rfl, rfl⟩
def QCC0 (Z : State) (cc : Int32) (h0 : Heap) (n0 : Nat) (v : Option Value) (h : Heap) (L : List Loc) : Prop := v = some (.int (0 : Int32)) ∧ L = [] ∧ h = h0
abbrev RmCC0 : Room := ({ frames := 0, cells := 0, slots := 0, locals := 0 } : Room)
theorem rmCC0 (l : Launch) (Z : State) (a0 : Array Value) (hw : Tb a0 Z) (ws : List Jvm.Cond) (cc : Int32) (h0 : Heap) (n0 : Nat) (Z0 : n0 ≤ h0.size) (hc : (255 : Int32) < cc) :
    Met l Z h0 y8_ jdk_43_method_3_code 1 (some .boolean) RmCC0 ws #[(.int cc)] (QCC0 Z cc h0 n0) := by
  refine MetFree.of_bodySF (plainFor_of_name pn_13) hisR ?_
  intro p e s m args below meth c s₁ Bd hml0 hP hK
  obtain ⟨rfl, hZ, hh⟩ := hP
  have hx := Bd.exec
  have hby := Bd.bytes
  have D := dl hby d40_
  have hml : c.maxLocals = 1 := hml0
  have hown : s.vm.findClass "java/lang/StringLatin1" = some m.cls := findClass_of_methodNamed Bd.named
  have hnm := (name_of_methodNamed Bd.named Bd.method).1
  have X0 : Stand p l e RmCC0 s m #[(.int cc)] below meth c s₁ [] 0 0 := Stand.of_body Bd
  have e0 : s₁.heap = h0 := by rw [← hh, Bd.state]; rfl
  have N0 := Fr.nil n0
  obtain ⟨E0, hE0⟩ : ∃ z, z = s₁.setTop (entryFrame m #[(.int cc)] 1) := ⟨_, rfl⟩
  rw [← hE0]
  have go0 : Go p e below E0 s₁ m 0 #[(si cc)] [] := fun tgt kq => by rw [hE0]; exact castTop (ef_NL520 m cc) kq
  have go1 : Go p e below E0 s₁ m 12 #[(si cc)] [(.int 0)] := fun tgt kq => go0 tgt (by
    refine XS.iloadN X0.here hx rfl (D 0 rfl) rfl ?_; refine XS.sipush X0.here hx rfl (D 1 rfl) ?_; refine XS.icmpYes X0.here hx rfl (pc0 := 4) (pc' := 11) rfl (D 2 rfl) rfl (tlt hc).2.2.1 (by decide) (by decide) ?_; refine XS.iconst X0.here hx rfl (D 6 rfl) ?_; exact kq)
  obtain ⟨fs, hr, hrun, hended, hW, hsame⟩ := X0.leave (v := some (.int (0 : Int32))) (fun h => by rw [Bd.returns] at h; cases h)
  refine ⟨_, _, go1 _ ?_, hrun, hended, _, _, rfl, ?_, ⟨_, rfl⟩, hW, hsame.mono (by decide) (by decide)⟩
  · exact retN X0 hx (t := .boolean) Bd.returns (by simp) (D 5 rfl) hr
  · show QCC0 Z cc h0 n0 _ s₁.heap _
    rw [e0]
    exact ⟨rfl, rfl, rfl⟩
def QLB (Z : State) (cc : Int32) (h0 : Heap) (n0 : Nat) (v : Option Value) (h : Heap) (L : List Loc) : Prop := ∃ kb : ClassId, v = some (.ref h0.size) ∧ Fr n0 L ∧ Keep h0 h [] ∧ Yb Z h h0.size kb (1 : Int32) [(.int (own_lo cc))]
abbrev RmLB : Room := ({ frames := 0, cells := 1, slots := 1, locals := 0 } : Room)
theorem rmLB (l : Launch) (Z : State) (a0 : Array Value) (hw : Tb a0 Z) (ws : List Jvm.Cond) (cc : Int32) (h0 : Heap) (n0 : Nat) (Z0 : n0 ≤ h0.size) :
    Met l Z h0 (⟨"java/lang/StringLatin1", "toBytes", "(C)[B"⟩ : MethodName) jdk_43_method_46_code 1 (some (.array .byte)) RmLB ws #[(.int cc)] (QLB Z cc h0 n0) := by
  refine MetFree.of_bodySF (plainFor_of_name pn_13) hisR ?_
  intro p e s m args below meth c s₁ Bd hml0 hP hK
  obtain ⟨rfl, hZ, hh⟩ := hP
  have hx := Bd.exec
  have hby := Bd.bytes
  have D := dl hby d41_
  have hml : c.maxLocals = 1 := hml0
  have hown : s.vm.findClass "java/lang/StringLatin1" = some m.cls := findClass_of_methodNamed Bd.named
  have hnm := (name_of_methodNamed Bd.named Bd.method).1
  have X0 : Stand p l e RmLB s m #[(.int cc)] below meth c s₁ [] 0 0 := Stand.of_body Bd
  have e0 : s₁.heap = h0 := by rw [← hh, Bd.state]; rfl
  have N0 := Fr.nil n0
  obtain ⟨E0, hE0⟩ : ∃ z, z = s₁.setTop (entryFrame m #[(.int cc)] 1) := ⟨_, rfl⟩
  rw [← hE0]
  have go0 : Go p e below E0 s₁ m 0 #[(si cc)] [] := fun tgt kq => by rw [hE0]; exact castTop (ef_NL520 m cc) kq
  have go1 : Go p e below E0 s₁ m 1 #[(si cc)] [(.int 1)] := fun tgt kq => go0 tgt (by
    refine XS.iconst X0.here hx rfl (D 0 rfl) ?_; exact kq)
  obtain ⟨T2, h2, k2, X2, e2, E2, A2, st2⟩ := newP X0 hx hZ (wd hw 28 rfl) e0 (g := (mkF m 1 #[(si cc)] [(.int 1)])) rfl (D 1 rfl) rfl (by decide) (cap := 1) (by decide) (by decide) (by decide) (by decide)
  obtain ⟨t, g2⟩ : ∃ z, z = h0.size := ⟨_, rfl⟩
  rw [← g2] at A2 st2
  have ge_t : n0 ≤ t := Nat.le_trans Z0 (Nat.le_of_eq g2.symm)
  have hz_t : h0.size ≤ t := Nat.le_trans (Keep.refl h0 []).1 (Nat.le_of_eq g2.symm)
  have z3 : n0 ≤ h2.size := Nat.le_trans Z0 E2.1
  have K4 : Keep h0 h2 [] := (Keep.refl h0 []).ext E2
  have V2 : Yb Z h2 t k2 (1 : Int32) [] := Arv.new A2 (by decide)
  have go2 : Go p e below E0 T2 m 3 #[(si cc)] [(.ref t)] := fun a b => go1 a (st2 a b)
  have go5 : Go p e below E0 T2 m 7 #[(si cc)] [(.int (cc.toInt8.toInt32)), (.int 0), (.ref t), (.ref t)] := fun tgt kq => go2 tgt (by
    refine XS.dup X2.here hx rfl (D 2 rfl) rfl rfl ?_; refine XS.iconst X2.here hx rfl (D 3 rfl) ?_; refine XS.iloadN X2.here hx rfl (D 4 rfl) rfl ?_; refine XS.i2b X2.here hx rfl (D 5 rfl) rfl ?_; exact kq)
  have p6 : Yb Z h2 t k2 (1 : Int32) [(.int (0 : Int32))] := V2.pad (pad_rep [] (.int (0 : Int32)) 1)
  obtain ⟨c7, Ar7, q7, S7, M7, Hh7, G7⟩ := id p6
  obtain ⟨T7, h7, X7, e7, W7, st7⟩ := stB X2 hx hZ e2 Ar7 (j := (0 : Int32)) (inb_of S7 ⟨by decide, by decide⟩) (g := (mkF m 7 #[(si cc)] [(.int (cc.toInt8.toInt32)), (.int 0), (.ref t), (.ref t)])) rfl rfl (D 6 rfl)
  have z8 : n0 ≤ h7.size := Nat.le_trans z3 (Keep.of_wr W7).1
  have K9 : Keep h0 h7 [] := K4.wr W7 (Or.inr hz_t)
  have N7 := Fr.snoc X7 N0 ge_t
  have f10 : Yb Z h7 t k2 (1 : Int32) [(.int (nar .byte (cc.toInt8.toInt32)))] := Arv.set Ar7 q7 S7 M7 Hh7 G7 (fits_nar_byte _) W7 0 rfl (Nat.le_of_ble_eq_true rfl)
  have go7 : Go p e below E0 T7 m 8 #[(si cc)] [(.ref t)] := fun a b => go5 a (st7 a b)
  subst g2
  obtain ⟨fs, hr, hrun, hended, hW, hsame⟩ := X7.leave (v := some (.ref h0.size)) (fun h => by rw [Bd.returns] at h; cases h)
  refine ⟨_, _, go7 _ ?_, hrun, hended, _, _, rfl, ?_, ⟨_, rfl⟩, hW, hsame.mono (by decide) (by decide)⟩
  · exact retOut X7 hx Bd.returns rfl (Or.inr (Or.inr (Or.inr (Or.inr ⟨rfl, rfl, rfl⟩)))) (D 7 rfl) hr
  · show QLB Z cc h0 n0 _ T7.heap _
    rw [e7]
    exact ⟨_, rfl, N7, K9, f10⟩
def QUT (Z : State) (cc : Int32) (G : Int32) (fv : Value) (h0 : Heap) (n0 : Nat) (v : Option Value) (h : Heap) (L : List Loc) : Prop := ∃ (t : Addr) (kb : ClassId), v = some (.ref t) ∧ Fr n0 L ∧ Keep h0 h [] ∧ h0.size ≤ t ∧ Yb Z h t kb (2 : Int32) (own_flat [cc])
abbrev RmUT : Room := ({ frames := 1, cells := 1, slots := 2, locals := 14 } : Room)
theorem rmUT (l : Launch) (Z : State) (a0 : Array Value) (hw : Tb a0 Z) (ws : List Jvm.Cond) (cc : Int32) (G : Int32) (fv : Value) (h0 : Heap) (n0 : Nat) (Z0 : n0 ≤ h0.size) (W0 : own_W Z G fv) (O0 : own_O Z n0 h0) :
    Met l Z h0 (⟨"java/lang/StringUTF16", "toBytes", "(C)[B"⟩ : MethodName) jdk_52_method_24_code 2 (some (.array .byte)) RmUT ws #[(.int cc)] (QUT Z cc G fv h0 n0) := by
  refine MetFree.of_bodySF (plainFor_of_name pn_0) hisR ?_
  intro p e s m args below meth c s₁ Bd hml0 hP hK
  obtain ⟨rfl, hZ, hh⟩ := hP
  have hx := Bd.exec
  have hby := Bd.bytes
  have D := dl hby d42_
  have hml : c.maxLocals = 2 := hml0
  have hown : s.vm.findClass "java/lang/StringUTF16" = some m.cls := findClass_of_methodNamed Bd.named
  have hnm := (name_of_methodNamed Bd.named Bd.method).1
  have X0 : Stand p l e RmUT s m #[(.int cc)] below meth c s₁ [] 0 0 := Stand.of_body Bd
  have e0 : s₁.heap = h0 := by rw [← hh, Bd.state]; rfl
  have N0 := Fr.nil n0
  obtain ⟨E0, hE0⟩ : ∃ z, z = s₁.setTop (entryFrame m #[(.int cc)] 2) := ⟨_, rfl⟩
  rw [← hE0]
  have go0 : Go p e below E0 s₁ m 0 #[(si cc), .unset] [] := fun tgt kq => by rw [hE0]; exact castTop (ef_PH m cc) kq
  have go1 : Go p e below E0 s₁ m 1 #[(si cc), .unset] [(.int 2)] := fun tgt kq => go0 tgt (by
    refine XS.iconst X0.here hx rfl (D 0 rfl) ?_; exact kq)
  obtain ⟨T2, h2, k2, X2, e2, E2, A2, st2⟩ := newP X0 hx hZ (wd hw 28 rfl) e0 (g := (mkF m 1 #[(si cc), .unset] [(.int 2)])) rfl (D 1 rfl) rfl (by decide) (cap := 2) (by decide) (by decide) (by decide) (by decide)
  obtain ⟨t, g2⟩ : ∃ z, z = h0.size := ⟨_, rfl⟩
  rw [← g2] at A2 st2
  have ge_t : n0 ≤ t := Nat.le_trans Z0 (Nat.le_of_eq g2.symm)
  have hz_t : h0.size ≤ t := Nat.le_trans (Keep.refl h0 []).1 (Nat.le_of_eq g2.symm)
  have z3 : n0 ≤ h2.size := Nat.le_trans Z0 E2.1
  have K4 : Keep h0 h2 [] := (Keep.refl h0 []).ext E2
  have V2 : Yb Z h2 t k2 (2 : Int32) [] := Arv.new A2 (by decide)
  have go2 : Go p e below E0 T2 m 3 #[(si cc), .unset] [(.ref t)] := fun a b => go1 a (st2 a b)
  have f5 : own_O Z n0 h2 := (O0.ext E2)
  have go6 : Go p e below E0 T2 m 7 #[(si cc), (sr t)] [(.int cc), (.int 0), (.ref t)] := fun tgt kq => go2 tgt (by
    refine XS.astoreN X2.here hx rfl (D 2 rfl) rfl rfl (l' := #[(si cc), (sr t)]) rfl ?_; refine XS.aloadN X2.here hx rfl (D 3 rfl) rfl rfl ?_; refine XS.iconst X2.here hx rfl (D 4 rfl) ?_; refine XS.iloadN X2.here hx rfl (D 5 rfl) rfl ?_; exact kq)
  obtain ⟨_, T7, L7, X7, hQ7, go7⟩ := own_cS X2 hx hZ hown (wd hw 275 rfl) (wd hw 276 rfl) (wd hw 26 rfl) (wd hw 277 rfl) (by decide) (W := 0) (rmPU l Z a0 hw [] t k2 1 0 ([] : List Int32) cc G fv h2 n0 z3 V2 ge_t rfl (by decide) (by decide) W0 f5) (by decide) (by decide) e2 (by decide) (by decide) go6 hml.symm (argsL := [(.ref t), (.int 0), (.int cc)]) (rest := []) (lenOf pd_3 rfl) rfl rfl rfl (D 6 rfl)
  obtain ⟨rfl, N7q, Kp, Ap⟩ := hQ7
  have N7 := Fr.app N0 N7q
  have z8 : n0 ≤ T7.heap.size := Nat.le_trans z3 Kp.1
  have K9 : Keep h0 T7.heap [] := K4.trans Kp (allS (Or.inr hz_t) all0)
  have go10 : Go p e below E0 T7 m 11 #[(si cc), (sr t)] [(.ref t)] := fun tgt kq => go7 tgt (by
    refine XS.aloadN X7.here hx rfl (D 7 rfl) rfl rfl ?_; exact kq)
  obtain ⟨fs, hr, hrun, hended, hW, hsame⟩ := X7.leave (v := some (.ref t)) (fun h => by rw [Bd.returns] at h; cases h)
  refine ⟨_, _, go10 _ ?_, hrun, hended, _, _, rfl, ?_, ⟨_, rfl⟩, hW, hsame.mono (by decide) (by decide)⟩
  · exact retOut X7 hx Bd.returns rfl (Or.inr (Or.inr (Or.inr (Or.inr ⟨rfl, rfl, rfl⟩)))) (D 8 rfl) hr
  · show QUT Z cc G fv h0 n0 _ T7.heap _
    exact ⟨t, k2, rfl, N7, K9, hz_t, Ap⟩
theorem ef_SI (m : MethodId) (x0 : Addr) (x1 : Addr) (x2 : Int32) : entryFrame m #[(.ref x0), (.ref x1), (.int x2)] 3 = mkF m 0 #[.val (.ref x0), .val (.ref x1), .val (.int x2)] [] := by first | (simp [entryFrame, mkF, argsToLocals, Value.category, maxLocals]; done) | rfl
def QSI (Z : State) (x : Addr) (t : Addr) (co : Int32) (h0 : Heap) (n0 : Nat) (v : Option Value) (h : Heap) (L : List Loc) : Prop := v = none ∧ Fr n0 L ∧ Keep h0 h [x] ∧ E1_ Z h x ∧ F6_ Z h x (.ref t) ∧ F5_ Z h x (.int co)
abbrev RmSI : Room := ({ frames := 1, cells := 0, slots := 0, locals := 12 } : Room)
theorem rmSI (l : Launch) (Z : State) (a0 : Array Value) (hw : Tb a0 Z) (ws : List Jvm.Cond) (x : Addr) (t : Addr) (co : Int32) (h0 : Heap) (n0 : Nat) (Z0 : n0 ≤ h0.size) (Ex : E1_ Z h0 x) (gx : n0 ≤ x) (Fv : F6_ Z h0 x .null) (Fc : F5_ Z h0 x (.int (0 : Int32))) (hf : fits .byte (.int co) = true) (hn : narrow .byte (.int co) = .int co) :
    Met l Z h0 (⟨"java/lang/String", "<init>", "([BB)V"⟩ : MethodName) jdk_42_method_151_code 3 none RmSI ws #[(.ref x), (.ref t), (.int co)] (QSI Z x t co h0 n0) := by
  refine MetFree.of_bodySF (plainFor_of_name pn_8) hisR ?_
  intro p e s m args below meth c s₁ Bd hml0 hP hK
  obtain ⟨rfl, hZ, hh⟩ := hP
  have hx := Bd.exec
  have hby := Bd.bytes
  have D := dl hby d43_
  have hml : c.maxLocals = 3 := hml0
  have hown : s.vm.findClass "java/lang/String" = some m.cls := findClass_of_methodNamed Bd.named
  have hnm := (name_of_methodNamed Bd.named Bd.method).1
  have X0 : Stand p l e RmSI s m #[(.ref x), (.ref t), (.int co)] below meth c s₁ [] 0 0 := Stand.of_body Bd
  have e0 : s₁.heap = h0 := by rw [← hh, Bd.state]; rfl
  have N0 := Fr.nil n0
  obtain ⟨E0, hE0⟩ : ∃ z, z = s₁.setTop (entryFrame m #[(.ref x), (.ref t), (.int co)] 3) := ⟨_, rfl⟩
  rw [← hE0]
  have go0 : Go p e below E0 s₁ m 0 #[(sr x), (sr t), (si co)] [] := fun tgt kq => by rw [hE0]; exact castTop (ef_SI m x t co) kq
  have go1 : Go p e below E0 s₁ m 1 #[(sr x), (sr t), (si co)] [(.ref x)] := fun tgt kq => go0 tgt (by
    refine XS.aloadN X0.here hx rfl (D 0 rfl) rfl rfl ?_; exact kq)
  obtain ⟨T2, X2, e2, st2⟩ := initO X0 hx hZ hown (wd hw 20 rfl) (wd hw 21 rfl) (wd hw 22 rfl) e0 (g := (mkF m 1 #[(sr x), (sr t), (si co)] [(.ref x)])) rfl (by rw [hml]; rfl) rfl (D 1 rfl) (by decide) (W := 0) (by show 2 * 0 + _ ≤ _; exact Nat.le_of_eq rfl) (by decide)
  have go2 : Go p e below E0 T2 m 4 #[(sr x), (sr t), (si co)] [] := fun a b => go1 a (st2 a b)
  have go3 : Go p e below E0 T2 m 6 #[(sr x), (sr t), (si co)] [(.ref t), (.ref x)] := fun tgt kq => go2 tgt (by
    refine XS.aloadN X2.here hx rfl (D 2 rfl) rfl rfl ?_; refine XS.aloadN X2.here hx rfl (D 3 rfl) rfl rfl ?_; exact kq)
  obtain ⟨T4, h4, X4, e4, W4, st4⟩ := putF X2 hx hZ hown (host := "") (Or.inl (wd hw 37 rfl)) Via.refl e2 Fv Ex (Or.inr ⟨(wd hw 38 rfl), rfl, hnm⟩) (wd hw 10 rfl) (ty := (.array .byte)) (by decide) rfl rfl (g := (mkF m 6 #[(sr x), (sr t), (si co)] [(.ref t), (.ref x)])) rfl rfl (D 4 rfl)
  have z5 : n0 ≤ h4.size := Nat.le_trans Z0 (Keep.of_wr W4).1
  have K6 : Keep h0 h4 [x] := (Keep.refl h0 [x]).wr W4 (Or.inl (List.mem_of_getElem? (i := 0) rfl))
  have N4 := Fr.snoc X4 N0 gx
  have f7 : F6_ Z h4 x (.ref t) := (Fv.same W4)
  have go4 : Go p e below E0 T4 m 9 #[(sr x), (sr t), (si co)] [] := fun a b => go3 a (st4 a b)
  have go8 : Go p e below E0 T4 m 11 #[(sr x), (sr t), (si co)] [(.int co), (.ref x)] := fun tgt kq => go4 tgt (by
    refine XS.aloadN X4.here hx rfl (D 5 rfl) rfl rfl ?_; refine XS.iloadN X4.here hx rfl (D 6 rfl) rfl ?_; exact kq)
  have f9 : F5_ Z h4 x (.int (0 : Int32)) := (Fc.other W4 (Or.inr (slot_ne (Or.inr (wd hw 36 rfl)) (Or.inr (wd hw 38 rfl)) (by decide) (t := .byte) (t' := (.array .byte)) (by decide) (by decide))))
  have f10 : E1_ Z h4 x := (Ex.wr W4)
  obtain ⟨T11, h11, X11, e11, W11, st11⟩ := putF X4 hx hZ hown (host := "") (Or.inl (wd hw 35 rfl)) Via.refl e4 f9 f10 (Or.inr ⟨(wd hw 36 rfl), rfl, hnm⟩) (wd hw 10 rfl) (ty := .byte) (by decide) hn hf (g := (mkF m 11 #[(sr x), (sr t), (si co)] [(.int co), (.ref x)])) rfl rfl (D 7 rfl)
  have z12 : n0 ≤ h11.size := Nat.le_trans z5 (Keep.of_wr W11).1
  have K13 : Keep h0 h11 [x] := K6.wr W11 (Or.inl (List.mem_of_getElem? (i := 0) rfl))
  have N11 := Fr.snoc X11 N4 gx
  have f14 : F5_ Z h11 x (.int co) := (f9.same W11)
  have go11 : Go p e below E0 T11 m 14 #[(sr x), (sr t), (si co)] [] := fun a b => go8 a (st11 a b)
  have f15 : E1_ Z h11 x := (f10.wr W11)
  have f16 : F6_ Z h11 x (.ref t) := (f7.other W11 (Or.inr (slot_ne (Or.inr (wd hw 38 rfl)) (Or.inr (wd hw 36 rfl)) (by decide) (t := (.array .byte)) (t' := .byte) (by decide) (by decide))))
  obtain ⟨fs, hr, hrun, hended, hW, hsame⟩ := X11.leave (v := none) (fun _ => rfl)
  refine ⟨_, _, go11 _ ?_, hrun, hended, _, _, rfl, ?_, ⟨_, rfl⟩, hW, hsame.mono (by decide) (by decide)⟩
  · exact X11.returnOut hx Bd.returns (D 8 rfl) hr
  · show QSI Z x t co h0 n0 _ T11.heap _
    rw [e11]
    exact ⟨rfl, N11, K13, f15, f16, f14⟩
theorem pd_31 : parseMethodDescriptor "(C)[B" = some ⟨[.char], some (.array .byte)⟩ := by decide +kernel
theorem pd_32 : parseMethodDescriptor "([BB)V" = some ⟨[(.array .byte), .byte], none⟩ := by decide +kernel
def QVO (Z : State) (cc : Int32) (G : Int32) (fv : Value) (h0 : Heap) (n0 : Nat) (v : Option Value) (h : Heap) (L : List Loc) : Prop := ∃ (x t : Addr) (kb : ClassId), v = some (.ref x) ∧ Fr n0 L ∧ Keep h0 h [] ∧ own_T Z h x t kb [cc]
abbrev RmVO : Room := ({ frames := 2, cells := 2, slots := 6, locals := 29 } : Room)
theorem rmVO (l : Launch) (Z : State) (a0 : Array Value) (hw : Tb a0 Z) (ws : List Jvm.Cond) (cc : Int32) (G : Int32) (fv : Value) (h0 : Heap) (n0 : Nat) (Z0 : n0 ≤ h0.size) (W0 : own_W Z G fv) (O0 : own_O Z n0 h0) :
    Met l Z h0 (⟨"java/lang/String", "valueOf", "(C)Ljava/lang/String;"⟩ : MethodName) jdk_42_method_139_code 1 (some (.object "java/lang/String")) RmVO ws #[(.int cc)] (QVO Z cc G fv h0 n0) := by
  refine MetFree.of_bodySF (plainFor_of_name pn_8) hisR ?_
  intro p e s m args below meth c s₁ Bd hml0 hP hK
  obtain ⟨rfl, hZ, hh⟩ := hP
  have hx := Bd.exec
  have hby := Bd.bytes
  have D := dl hby d44_
  have hml : c.maxLocals = 1 := hml0
  have hown : s.vm.findClass "java/lang/String" = some m.cls := findClass_of_methodNamed Bd.named
  have hnm := (name_of_methodNamed Bd.named Bd.method).1
  have X0 : Stand p l e RmVO s m #[(.int cc)] below meth c s₁ [] 0 0 := Stand.of_body Bd
  have e0 : s₁.heap = h0 := by rw [← hh, Bd.state]; rfl
  have N0 := Fr.nil n0
  obtain ⟨E0, hE0⟩ : ∃ z, z = s₁.setTop (entryFrame m #[(.int cc)] 1) := ⟨_, rfl⟩
  rw [← hE0]
  have go0 : Go p e below E0 s₁ m 0 #[(si cc)] [] := fun tgt kq => by rw [hE0]; exact castTop (ef_NL520 m cc) kq
  obtain ⟨T1, X1, e1, st1⟩ := getS2 X0 hx hZ hown (host := "") (Or.inl (wd hw 23 rfl)) Via.refl e0 (W0.1.ext O0.2) (g := (mkF m 0 #[(si cc)] [])) rfl (D 0 rfl)
  have go1 : Go p e below E0 T1 m 3 #[(si cc)] [(.int G)] := fun a b => go0 a (st1 a b)
  have go2 : Go p e below E0 T1 m 7 #[(si cc)] [(.int cc)] := fun tgt kq => go1 tgt (by
    refine XS.ifNo X1.here hx rfl (D 1 rfl) rfl ((if0 _ _).trans (feq W0.2.1).1) ?_; refine XS.iloadN X1.here hx rfl (D 2 rfl) rfl ?_; exact kq)
  by_cases u0 : (255 : Int32) < cc
  · obtain ⟨_, T3, L3, X3, hQ3, go3⟩ := own_cS X1 hx hZ hown (wd hw 130 rfl) (wd hw 131 rfl) (wd hw 76 rfl) (wd hw 132 rfl) (by decide) (W := 0) (rmCC0 l Z a0 hw [] cc h0 n0 Z0 u0) (by decide) (by decide) e1 (by decide) (by decide) go2 hml.symm (argsL := [(.int cc)]) (rest := []) (lenOf pd_23 rfl) rfl rfl rfl (D 3 rfl)
    obtain ⟨rfl, rfl, e3⟩ := hQ3
    have N3 := Fr.app N0 (Fr.nil n0)
    have go4 : Go p e below E0 T3 m 26 #[(si cc)] [] := fun tgt kq => go3 tgt (by
      refine XS.ifYes X3.here hx rfl (pc0 := 10) (pc' := 26) rfl (D 4 rfl) rfl ((if0 _ _).trans (teq rfl).1) (by decide) (by decide) ?_; exact kq)
    obtain ⟨T5, h5, X5, e5, E5, A5, D5, -, st5⟩ := newO X3 hx hZ hown (wd hw 133 rfl) (wd hw 10 rfl) (wd hw 11 rfl) e3 (g := (mkF m 26 #[(si cc)] [])) rfl (D 5 rfl) (by decide) (by decide)
    obtain ⟨x, g5⟩ : ∃ z, z = h0.size := ⟨_, rfl⟩
    rw [← g5] at A5 D5 st5
    have ge_x : n0 ≤ x := Nat.le_trans Z0 (Nat.le_of_eq g5.symm)
    have hz_x : h0.size ≤ x := Nat.le_trans (Keep.refl h0 []).1 (Nat.le_of_eq g5.symm)
    have z6 : n0 ≤ h5.size := Nat.le_trans Z0 E5.1
    have K7 : Keep h0 h5 [] := (Keep.refl h0 []).ext E5
    have Fcoder_x : F5_ Z h5 x (.int (0 : Int32)) := D5 (Or.inr (wd hw 36 rfl)) (ty := .byte) (by decide)
    have Fvalue_x : F6_ Z h5 x .null := D5 (Or.inr (wd hw 38 rfl)) (ty := (.array .byte)) (by decide)
    have go5 : Go p e below E0 T5 m 29 #[(si cc)] [(.ref x)] := fun a b => go4 a (st5 a b)
    have f8 : own_O Z n0 h5 := (O0.ext E5)
    have go9 : Go p e below E0 T5 m 31 #[(si cc)] [(.int cc), (.ref x), (.ref x)] := fun tgt kq => go5 tgt (by
      refine XS.dup X5.here hx rfl (D 6 rfl) rfl rfl ?_; refine XS.iloadN X5.here hx rfl (D 7 rfl) rfl ?_; exact kq)
    obtain ⟨_, T10, L10, X10, hQ10, go10⟩ := own_cS X5 hx hZ hown (wd hw 362 rfl) (wd hw 363 rfl) (wd hw 26 rfl) (wd hw 364 rfl) (by decide) (W := 2) (rmUT l Z a0 hw [] cc G fv h5 n0 z6 W0 f8) (by decide) (by decide) e5 (by decide) (by decide) go9 hml.symm (argsL := [(.int cc)]) (rest := [(.ref x), (.ref x)]) (lenOf pd_31 rfl) rfl rfl rfl (D 8 rfl)
    obtain ⟨t, kb, rfl, N10q, Kq1, zq1, Aq1⟩ := hQ10
    have N10 := Fr.app N3 N10q
    have z11 : n0 ≤ T10.heap.size := Nat.le_trans z6 Kq1.1
    have K12 : Keep h0 T10.heap [] := K7.trans Kq1 all0
    have ne_x_t : x ≠ t := Nat.ne_of_lt (Nat.lt_of_lt_of_le A5.lt zq1)
    have f13 : E1_ Z T10.heap x := (A5.keep Kq1)
    have f14 : F6_ Z T10.heap x .null := (Fvalue_x.keep Kq1 nin0)
    have f15 : F5_ Z T10.heap x (.int (0 : Int32)) := (Fcoder_x.keep Kq1 nin0)
    have go16 : Go p e below E0 T10 m 35 #[(si cc)] [(.int 1), (.ref t), (.ref x), (.ref x)] := fun tgt kq => go10 tgt (by
      refine XS.iconst X10.here hx rfl (D 9 rfl) ?_; exact kq)
    obtain ⟨_, T17, L17, X17, hQ17, go17⟩ := own_cI X10 hx hZ hown (wd hw 137 rfl) (wd hw 138 rfl) (wd hw 11 rfl) (wd hw 139 rfl) rfl (by decide) (W := 1) (rmSI l Z a0 hw [] x t (1 : Int32) T10.heap n0 z11 f13 ge_x f14 f15 rfl rfl) (by decide) (by decide) rfl (by decide) (by decide) go16 hml.symm (argsL := [(.ref t), (.int 1)]) (rest := [(.ref x)]) (lenOf pd_32 rfl) rfl rfl rfl (D 10 rfl)
    obtain ⟨rfl, N17q, Kq2, Eq2, Vq2, C2⟩ := hQ17
    have N17 := Fr.app N10 N17q
    have z18 : n0 ≤ T17.heap.size := Nat.le_trans z11 Kq2.1
    have K19 : Keep h0 T17.heap [] := K12.trans Kq2 (allS (Or.inr hz_x) all0)
    have hnl : ¬ own_l1 [cc] = true := fun q => own_l1_iff.mp q _ (List.mem_singleton.mpr rfl) u0
    have f20 : Yb Z T17.heap t kb (2 : Int32) (own_flat [cc]) := (Aq1.keep Kq2 (ninS (Ne.symm ne_x_t) nin0))
    obtain ⟨fs, hr, hrun, hended, hW, hsame⟩ := X17.leave (v := some (.ref x)) (fun h => by rw [Bd.returns] at h; cases h)
    refine ⟨_, _, go17 _ ?_, hrun, hended, _, _, rfl, ?_, ⟨_, rfl⟩, hW, hsame.mono (by decide) (by decide)⟩
    · exact retOut X17 hx Bd.returns rfl (Or.inr (Or.inr (Or.inr (Or.inr ⟨rfl, rfl, rfl⟩)))) (D 11 rfl) hr
    · show QVO Z cc G fv h0 n0 _ T17.heap _
      exact ⟨x, t, kb, rfl, N17, K19, Eq2, Vq2, by rw [own_c1 hnl]; exact C2, by rw [own_k1 hnl, own_by1 hnl]; exact f20⟩
  · obtain ⟨_, T21, L21, X21, hQ21, go21⟩ := own_cS X1 hx hZ hown (wd hw 130 rfl) (wd hw 131 rfl) (wd hw 76 rfl) (wd hw 132 rfl) (by decide) (W := 0) (rmCC1 l Z a0 hw [] cc h0 n0 Z0 u0) (by decide) (by decide) e1 (by decide) (by decide) go2 hml.symm (argsL := [(.int cc)]) (rest := []) (lenOf pd_23 rfl) rfl rfl rfl (D 3 rfl)
    obtain ⟨rfl, rfl, e21⟩ := hQ21
    have N21 := Fr.app N0 (Fr.nil n0)
    have go22 : Go p e below E0 T21 m 13 #[(si cc)] [] := fun tgt kq => go21 tgt (by
      refine XS.ifNo X21.here hx rfl (D 4 rfl) rfl ((if0 _ _).trans (feq (by decide)).1) ?_; exact kq)
    obtain ⟨T23, h23, X23, e23, E23, A23, D23, -, st23⟩ := newO X21 hx hZ hown (wd hw 133 rfl) (wd hw 10 rfl) (wd hw 11 rfl) e21 (g := (mkF m 13 #[(si cc)] [])) rfl (D 12 rfl) (by decide) (by decide)
    obtain ⟨x, g23⟩ : ∃ z, z = h0.size := ⟨_, rfl⟩
    rw [← g23] at A23 D23 st23
    have ge_x : n0 ≤ x := Nat.le_trans Z0 (Nat.le_of_eq g23.symm)
    have hz_x : h0.size ≤ x := Nat.le_trans (Keep.refl h0 []).1 (Nat.le_of_eq g23.symm)
    have z24 : n0 ≤ h23.size := Nat.le_trans Z0 E23.1
    have K25 : Keep h0 h23 [] := (Keep.refl h0 []).ext E23
    have Fcoder_x : F5_ Z h23 x (.int (0 : Int32)) := D23 (Or.inr (wd hw 36 rfl)) (ty := .byte) (by decide)
    have Fvalue_x : F6_ Z h23 x .null := D23 (Or.inr (wd hw 38 rfl)) (ty := (.array .byte)) (by decide)
    have go23 : Go p e below E0 T23 m 16 #[(si cc)] [(.ref x)] := fun a b => go22 a (st23 a b)
    have go26 : Go p e below E0 T23 m 18 #[(si cc)] [(.int cc), (.ref x), (.ref x)] := fun tgt kq => go23 tgt (by
      refine XS.dup X23.here hx rfl (D 13 rfl) rfl rfl ?_; refine XS.iloadN X23.here hx rfl (D 14 rfl) rfl ?_; exact kq)
    obtain ⟨_, T27, L27, X27, hQ27, go27⟩ := own_cS X23 hx hZ hown (wd hw 134 rfl) (wd hw 135 rfl) (wd hw 76 rfl) (wd hw 136 rfl) (by decide) (W := 2) (rmLB l Z a0 hw [] cc h23 n0 z24 ) (by decide) (by decide) e23 (by decide) (by decide) go26 hml.symm (argsL := [(.int cc)]) (rest := [(.ref x), (.ref x)]) (lenOf pd_31 rfl) rfl rfl rfl (D 15 rfl)
    obtain ⟨kb, rfl, N27q, Kq1, Aq1⟩ := hQ27
    have N27 := Fr.app N21 N27q
    obtain ⟨t, g27⟩ : ∃ z, z = h23.size := ⟨_, rfl⟩
    rw [← g27] at go27 Aq1
    have ne_x_t : x ≠ t := Nat.ne_of_lt (Nat.lt_of_lt_of_le A23.lt (Nat.le_of_eq g27.symm))
    have ge_t : n0 ≤ t := Nat.le_trans z24 (Nat.le_of_eq g27.symm)
    have hz_t : h0.size ≤ t := Nat.le_trans K25.1 (Nat.le_of_eq g27.symm)
    have z28 : n0 ≤ T27.heap.size := Nat.le_trans z24 Kq1.1
    have K29 : Keep h0 T27.heap [] := K25.trans Kq1 all0
    have f30 : E1_ Z T27.heap x := (A23.keep Kq1)
    have f31 : F6_ Z T27.heap x .null := (Fvalue_x.keep Kq1 nin0)
    have f32 : F5_ Z T27.heap x (.int (0 : Int32)) := (Fcoder_x.keep Kq1 nin0)
    have go33 : Go p e below E0 T27 m 22 #[(si cc)] [(.int 0), (.ref t), (.ref x), (.ref x)] := fun tgt kq => go27 tgt (by
      refine XS.iconst X27.here hx rfl (D 16 rfl) ?_; exact kq)
    obtain ⟨_, T34, L34, X34, hQ34, go34⟩ := own_cI X27 hx hZ hown (wd hw 137 rfl) (wd hw 138 rfl) (wd hw 11 rfl) (wd hw 139 rfl) rfl (by decide) (W := 1) (rmSI l Z a0 hw [] x t (0 : Int32) T27.heap n0 z28 f30 ge_x f31 f32 rfl rfl) (by decide) (by decide) rfl (by decide) (by decide) go33 hml.symm (argsL := [(.ref t), (.int 0)]) (rest := [(.ref x)]) (lenOf pd_32 rfl) rfl rfl rfl (D 17 rfl)
    obtain ⟨rfl, N34q, Kq2, Eq2, Vq2, C2⟩ := hQ34
    have N34 := Fr.app N27 N34q
    have z35 : n0 ≤ T34.heap.size := Nat.le_trans z28 Kq2.1
    have K36 : Keep h0 T34.heap [] := K29.trans Kq2 (allS (Or.inr hz_x) all0)
    have f37 : Yb Z T34.heap t kb (1 : Int32) [(.int (own_lo cc))] := (Aq1.keep Kq2 (ninS (Ne.symm ne_x_t) nin0))
    obtain ⟨fs, hr, hrun, hended, hW, hsame⟩ := X34.leave (v := some (.ref x)) (fun h => by rw [Bd.returns] at h; cases h)
    refine ⟨_, _, go34 _ ?_, hrun, hended, _, _, rfl, ?_, ⟨_, rfl⟩, hW, hsame.mono (by decide) (by decide)⟩
    · exact retOut X34 hx Bd.returns rfl (Or.inr (Or.inr (Or.inr (Or.inr ⟨rfl, rfl, rfl⟩)))) (D 18 rfl) hr
    · show QVO Z cc G fv h0 n0 _ T34.heap _
      exact ⟨x, t, kb, rfl, N34, K36, Eq2, Vq2, by rw [own_c0 (own_l1_one u0)]; exact C2, by rw [own_k0 (own_l1_one u0), own_by0 (own_l1_one u0)]; exact f37⟩
theorem ef_LE (m : MethodId) (x0 : Addr) (x1 : Addr) : entryFrame m #[(.ref x0), (.ref x1)] 3 = mkF m 0 #[.val (.ref x0), .val (.ref x1), .unset] [] := by first | (simp [entryFrame, mkF, argsToLocals, Value.category, maxLocals]; done) | rfl
def QLE (Z : State) (t : Addr) (kt : ClassId) (tu : Addr) (ku : ClassId) (n : Nat) (bs : List Value) (h0 : Heap) (n0 : Nat) (v : Option Value) (h : Heap) (L : List Loc) : Prop := v = some (.int 1) ∧ Fr n0 L ∧ Keep h0 h []
abbrev RmLE : Room := ({ frames := 0, cells := 0, slots := 0, locals := 0 } : Room)
theorem rmLE (l : Launch) (Z : State) (a0 : Array Value) (hw : Tb a0 Z) (ws : List Jvm.Cond) (t : Addr) (kt : ClassId) (tu : Addr) (ku : ClassId) (n : Nat) (bs : List Value) (h0 : Heap) (n0 : Nat) (Z0 : n0 ≤ h0.size) (A0 : Yb Z h0 t kt (Int32.ofNat n) bs) (B0 : Yb Z h0 tu ku (Int32.ofNat n) bs) (hn : n ≤ 1040) (hbs : ∀ k, k < n → ∃ q, bs.getD k (.int (0 : Int32)) = Value.int q) :
    Met l Z h0 (⟨"java/lang/StringLatin1", "equals", "([B[B)Z"⟩ : MethodName) jdk_43_method_13_code 3 (some .boolean) RmLE ws #[(.ref t), (.ref tu)] (QLE Z t kt tu ku n bs h0 n0) := by
  refine MetFree.of_bodySF (plainFor_of_name pn_13) hisR ?_
  intro p e s m args below meth c s₁ Bd hml0 hP hK
  obtain ⟨rfl, hZ, hh⟩ := hP
  have hx := Bd.exec
  have hby := Bd.bytes
  have D := dl hby d45_
  have hml : c.maxLocals = 3 := hml0
  have hown : s.vm.findClass "java/lang/StringLatin1" = some m.cls := findClass_of_methodNamed Bd.named
  have hnm := (name_of_methodNamed Bd.named Bd.method).1
  have X0 : Stand p l e RmLE s m #[(.ref t), (.ref tu)] below meth c s₁ [] 0 0 := Stand.of_body Bd
  have e0 : s₁.heap = h0 := by rw [← hh, Bd.state]; rfl
  have N0 := Fr.nil n0
  obtain ⟨E0, hE0⟩ : ∃ z, z = s₁.setTop (entryFrame m #[(.ref t), (.ref tu)] 3) := ⟨_, rfl⟩
  rw [← hE0]
  have go0 : Go p e below E0 s₁ m 0 #[(sr t), (sr tu), .unset] [] := fun tgt kq => by rw [hE0]; exact castTop (ef_LE m t tu) kq
  have go1 : Go p e below E0 s₁ m 1 #[(sr t), (sr tu), .unset] [(.ref t)] := fun tgt kq => go0 tgt (by
    refine XS.aloadN X0.here hx rfl (D 0 rfl) rfl rfl ?_; exact kq)
  obtain ⟨c2, Ar2, q2, S2, M2, -, -⟩ := id A0
  have go3 : Go p e below E0 s₁ m 3 #[(sr t), (sr tu), .unset] [(.ref tu), (.int (Int32.ofNat n))] := fun tgt kq => go1 tgt (by
    refine X0.arraylength hx (by rw [e0]; exact Ar2.1) (State.isArrayOf_alike hZ.alike Ar2.2.1) (g := (mkF m 1 #[(sr t), (sr tu), .unset] [(.ref t)])) rfl rfl (D 1 rfl) _ ?_; rw [len_of S2 M2]; refine XS.aloadN X0.here hx rfl (D 2 rfl) rfl rfl ?_; exact kq)
  obtain ⟨c4, Ar4, q4, S4, M4, -, -⟩ := id B0
  have go5 : Go p e below E0 s₁ m 9 #[(sr t), (sr tu), (si 0)] [] := fun tgt kq => go3 tgt (by
    refine X0.arraylength hx (by rw [e0]; exact Ar4.1) (State.isArrayOf_alike hZ.alike Ar4.2.1) (g := (mkF m 3 #[(sr t), (sr tu), .unset] [(.ref tu), (.int (Int32.ofNat n))])) rfl rfl (D 3 rfl) _ ?_; rw [len_of S4 M4]; refine XS.icmpNo X0.here hx rfl (D 4 rfl) rfl (teq rfl).2 ?_; refine XS.iconst X0.here hx rfl (D 5 rfl) ?_; refine XS.istoreN X0.here hx rfl (D 6 rfl) rfl (l' := #[(sr t), (sr tu), (si 0)]) rfl ?_; exact kq)
  obtain ⟨d, k, hk, T6, h6, l6, X6, e6, N6, z6, K6, F6_0, F6_1, go6⟩ : ∃ (d k : Nat), k + d = n ∧ ∃ (T6 : State) (h6 : Heap) (l6 : List Loc), Stand p l e RmLE s m #[(.ref t), (.ref tu)] below meth c T6 l6 0 0 ∧ T6.heap = h6 ∧ Fr n0 l6 ∧ n0 ≤ h6.size ∧ Keep h0 h6 [] ∧ Yb Z h6 t kt (Int32.ofNat n) bs ∧ Yb Z h6 tu ku (Int32.ofNat n) bs ∧ Go p e below E0 T6 m 9 #[(sr t), (sr tu), (si (Int32.ofNat k))] [] := ⟨n, 0, Nat.zero_add _, s₁, h0, _, X0, e0, N0, Z0, (Keep.refl h0 []), A0, B0, fun tgt kq => go5 tgt kq⟩
  induction d generalizing k T6 h6 l6
  case zero =>
    have go7 : Go p e below E0 T6 m 11 #[(sr t), (sr tu), (si (Int32.ofNat k))] [(.ref t), (.int (Int32.ofNat k))] := fun tgt kq => go6 tgt (by
      refine XS.iloadN X6.here hx rfl (D 7 rfl) rfl ?_; refine XS.aloadN X6.here hx rfl (D 8 rfl) rfl rfl ?_; exact kq)
    obtain ⟨c8, Ar8, q8, S8, M8, -, -⟩ := id F6_0
    have ek : k = n := hk
    have go9 : Go p e below E0 T6 m 33 #[(sr t), (sr tu), (si (Int32.ofNat k))] [(.int 1)] := fun tgt kq => go7 tgt (by
      refine X6.arraylength hx (by rw [e6]; exact Ar8.1) (State.isArrayOf_alike hZ.alike Ar8.2.1) (g := (mkF m 11 #[(sr t), (sr tu), (si (Int32.ofNat k))] [(.ref t), (.int (Int32.ofNat k))])) rfl rfl (D 9 rfl) _ ?_; rw [len_of S8 M8]; refine XS.icmpYes X6.here hx rfl (pc0 := 12) (pc' := 32) rfl (D 10 rfl) rfl (flt (own_nlt (by omega) (by omega))).2.1 (by decide) (by decide) ?_; refine XS.iconst X6.here hx rfl (D 11 rfl) ?_; exact kq)
    obtain ⟨fs, hr, hrun, hended, hW, hsame⟩ := X6.leave (v := some (.int (1 : Int32))) (fun h => by rw [Bd.returns] at h; cases h)
    refine ⟨_, _, go9 _ ?_, hrun, hended, _, _, rfl, ?_, ⟨_, rfl⟩, hW, hsame.mono (by decide) (by decide)⟩
    · exact retN X6 hx (t := .boolean) Bd.returns (by simp) (D 12 rfl) hr
    · show QLE Z t kt tu ku n bs h0 n0 _ T6.heap _
      rw [e6]
      exact ⟨rfl, N6, K6⟩
  case succ d ih =>
    obtain ⟨qv, hq⟩ := hbs k (by omega)
    have go10 : Go p e below E0 T6 m 11 #[(sr t), (sr tu), (si (Int32.ofNat k))] [(.ref t), (.int (Int32.ofNat k))] := fun tgt kq => go6 tgt (by
      refine XS.iloadN X6.here hx rfl (D 7 rfl) rfl ?_; refine XS.aloadN X6.here hx rfl (D 8 rfl) rfl rfl ?_; exact kq)
    obtain ⟨c11, Ar11, q11, S11, M11, -, -⟩ := id F6_0
    have go12 : Go p e below E0 T6 m 17 #[(sr t), (sr tu), (si (Int32.ofNat k))] [(.int (Int32.ofNat k)), (.ref t)] := fun tgt kq => go10 tgt (by
      refine X6.arraylength hx (by rw [e6]; exact Ar11.1) (State.isArrayOf_alike hZ.alike Ar11.2.1) (g := (mkF m 11 #[(sr t), (sr tu), (si (Int32.ofNat k))] [(.ref t), (.int (Int32.ofNat k))])) rfl rfl (D 9 rfl) _ ?_; rw [len_of S11 M11]; refine XS.icmpNo X6.here hx rfl (D 10 rfl) rfl (tlt (own_lt (by omega) (by omega))).2.1 ?_; refine XS.aloadN X6.here hx rfl (D 13 rfl) rfl rfl ?_; refine XS.iloadN X6.here hx rfl (D 14 rfl) rfl ?_; exact kq)
    obtain ⟨c13, Ar13, q13, S13, M13, Hh13, G13⟩ := id F6_0
    have hin13 : ¬ ((Int32.ofNat k) < 0 ∨ c13.slots.size ≤ ((Int32.ofNat k)).toNatClampNeg) := inb_of S13 ⟨own_nn (by omega), own_lt (by omega) (by omega)⟩
    have hat13 : c13.slots[((Int32.ofNat k)).toNatClampNeg]? = some (.int qv) := Hh13.at hin13 (by rw [own_cl (by omega)]; exact hq)
    have go14 : Go p e below E0 T6 m 20 #[(sr t), (sr tu), (si (Int32.ofNat k))] [(.int (Int32.ofNat k)), (.ref tu), (.int qv)] := fun tgt kq => go12 tgt (by
      refine X6.baloadBytes hx (j := (Int32.ofNat k)) (v := (.int qv)) (by rw [e6]; exact Ar13.1) (State.isArrayOf_alike hZ.alike Ar13.2.1) Ar13.2.2 hin13 hat13 (g := (mkF m 17 #[(sr t), (sr tu), (si (Int32.ofNat k))] [(.int (Int32.ofNat k)), (.ref t)])) rfl rfl (D 15 rfl) _ ?_; refine XS.aloadN X6.here hx rfl (D 16 rfl) rfl rfl ?_; refine XS.iloadN X6.here hx rfl (D 17 rfl) rfl ?_; exact kq)
    obtain ⟨c15, Ar15, q15, S15, M15, Hh15, G15⟩ := id F6_1
    have hin15 : ¬ ((Int32.ofNat k) < 0 ∨ c15.slots.size ≤ ((Int32.ofNat k)).toNatClampNeg) := inb_of S15 ⟨own_nn (by omega), own_lt (by omega) (by omega)⟩
    have hat15 : c15.slots[((Int32.ofNat k)).toNatClampNeg]? = some (.int qv) := Hh15.at hin15 (by rw [own_cl (by omega)]; exact hq)
    have go16 : Go p e below E0 T6 m 9 #[(sr t), (sr tu), (si ((Int32.ofNat k) + (1 : Int32)))] [] := fun tgt kq => go14 tgt (by
      refine X6.baloadBytes hx (j := (Int32.ofNat k)) (v := (.int qv)) (by rw [e6]; exact Ar15.1) (State.isArrayOf_alike hZ.alike Ar15.2.1) Ar15.2.2 hin15 hat15 (g := (mkF m 20 #[(sr t), (sr tu), (si (Int32.ofNat k))] [(.int (Int32.ofNat k)), (.ref tu), (.int qv)])) rfl rfl (D 18 rfl) _ ?_; refine XS.icmpYes X6.here hx rfl (pc0 := 21) (pc' := 26) rfl (D 19 rfl) rfl (teq rfl).1 (by decide) (by decide) ?_; refine XS.iinc X6.here hx rfl (D 20 rfl) rfl (l' := #[(sr t), (sr tu), (si ((Int32.ofNat k) + (1 : Int32)))]) rfl ?_; refine XS.goto X6.here hx rfl (pc0 := 29) (pc' := 9) rfl (D 21 rfl) (by decide) (by decide) ?_; exact kq)
    exact ih (k + 1) (by omega) _ _ _ X6 e6 N6 z6 K6 F6_0 F6_1 (by rw [own_succ k] at go16; exact go16)
theorem pd_33 : parseMethodDescriptor "([B[B)Z" = some ⟨[(.array .byte), (.array .byte)], some .boolean⟩ := by decide +kernel
def QEQ (Z : State) (x : Addr) (t : Addr) (kx : ClassId) (y : Addr) (tu : Addr) (ku : ClassId) (cs : List Int32) (G : Int32) (fv : Value) (h0 : Heap) (n0 : Nat) (v : Option Value) (h : Heap) (L : List Loc) : Prop := v = some (.int 1) ∧ Fr n0 L ∧ Keep h0 h []
abbrev RmEQ : Room := ({ frames := 1, cells := 0, slots := 0, locals := 14 } : Room)
theorem rmEQ (l : Launch) (Z : State) (a0 : Array Value) (hw : Tb a0 Z) (ws : List Jvm.Cond) (x : Addr) (t : Addr) (kx : ClassId) (y : Addr) (tu : Addr) (ku : ClassId) (cs : List Int32) (G : Int32) (fv : Value) (h0 : Heap) (n0 : Nat) (Z0 : n0 ≤ h0.size) (Ex : E1_ Z h0 x) (Fv : F6_ Z h0 x (.ref t)) (Fc : F5_ Z h0 x (.int (own_co cs))) (Ax : Yb Z h0 t kx (Int32.ofNat (own_k cs * cs.length)) (own_by cs)) (Exy : E1_ Z h0 y) (Fvy : F6_ Z h0 y (.ref tu)) (Fcy : F5_ Z h0 y (.int (own_co cs))) (Axy : Yb Z h0 tu ku (Int32.ofNat (own_k cs * cs.length)) (own_by cs)) (hne : x ≠ y) (hl : cs.length ≤ 520) (W0 : own_W Z G fv) (O0 : own_O Z n0 h0) :
    Met l Z h0 (⟨"java/lang/String", "equals", "(Ljava/lang/Object;)Z"⟩ : MethodName) jdk_42_method_66_code 3 (some .boolean) RmEQ ws #[(.ref x), (.ref y)] (QEQ Z x t kx y tu ku cs G fv h0 n0) := by
  refine MetFree.of_bodySF (plainFor_of_name pn_8) hisR ?_
  intro p e s m args below meth c s₁ Bd hml0 hP hK
  obtain ⟨rfl, hZ, hh⟩ := hP
  have hx := Bd.exec
  have hby := Bd.bytes
  have D := dl hby d46_
  have hml : c.maxLocals = 3 := hml0
  have hown : s.vm.findClass "java/lang/String" = some m.cls := findClass_of_methodNamed Bd.named
  have hnm := (name_of_methodNamed Bd.named Bd.method).1
  have X0 : Stand p l e RmEQ s m #[(.ref x), (.ref y)] below meth c s₁ [] 0 0 := Stand.of_body Bd
  have e0 : s₁.heap = h0 := by rw [← hh, Bd.state]; rfl
  have N0 := Fr.nil n0
  obtain ⟨E0, hE0⟩ : ∃ z, z = s₁.setTop (entryFrame m #[(.ref x), (.ref y)] 3) := ⟨_, rfl⟩
  rw [← hE0]
  have go0 : Go p e below E0 s₁ m 0 #[(sr x), (sr y), .unset] [] := fun tgt kq => by rw [hE0]; exact castTop (ef_LE m x y) kq
  have go1 : Go p e below E0 s₁ m 8 #[(sr x), (sr y), .unset] [(.ref y)] := fun tgt kq => go0 tgt (by
    refine XS.aloadN X0.here hx rfl (D 0 rfl) rfl rfl ?_; refine XS.aloadN X0.here hx rfl (D 1 rfl) rfl rfl ?_; refine Jvm.RoadKit.acmp (g := (mkF m 2 #[(sr x), (sr y), .unset] [(.ref y), (.ref x)])) X0 hx rfl rfl rfl (pc0 := 2) (pc' := 7) (same := false) rfl (D 2 rfl) rfl (decide_eq_false fun q => hne (Value.ref.inj q)) (by decide) (by decide) ?_; refine XS.aloadN X0.here hx rfl (D 3 rfl) rfl rfl ?_; exact kq)
  obtain ⟨T2, X2, e2, st2⟩ := instY X0 hx hZ hown (wd hw 133 rfl) e0 (Ins.self Exy) (g := (mkF m 8 #[(sr x), (sr y), .unset] [(.ref y)])) rfl rfl (D 4 rfl)
  have go2 : Go p e below E0 T2 m 11 #[(sr x), (sr y), .unset] [(.int 1)] := fun a b => go1 a (st2 a b)
  have go3 : Go p e below E0 T2 m 15 #[(sr x), (sr y), .unset] [(.ref y)] := fun tgt kq => go2 tgt (by
    refine XS.ifNo X2.here hx rfl (D 5 rfl) rfl ((if0 _ _).trans (feq (by decide)).1) ?_; refine XS.aloadN X2.here hx rfl (D 6 rfl) rfl rfl ?_; exact kq)
  obtain ⟨T4, X4, e4, st4⟩ := castY X2 hx hZ hown (wd hw 133 rfl) e2 (Ins.self Exy) (g := (mkF m 15 #[(sr x), (sr y), .unset] [(.ref y)])) rfl rfl (D 7 rfl)
  have go4 : Go p e below E0 T4 m 18 #[(sr x), (sr y), .unset] [(.ref y)] := fun a b => go3 a (st4 a b)
  have go5 : Go p e below E0 T4 m 19 #[(sr x), (sr y), (sr y)] [] := fun tgt kq => go4 tgt (by
    refine XS.astoreN X4.here hx rfl (D 8 rfl) rfl rfl (l' := #[(sr x), (sr y), (sr y)]) rfl ?_; exact kq)
  obtain ⟨T6, X6, e6, st6⟩ := getS2 X4 hx hZ hown (host := "") (Or.inl (wd hw 23 rfl)) Via.refl e4 (W0.1.ext O0.2) (g := (mkF m 19 #[(sr x), (sr y), (sr y)] [])) rfl (D 9 rfl)
  have go6 : Go p e below E0 T6 m 22 #[(sr x), (sr y), (sr y)] [(.int G)] := fun a b => go5 a (st6 a b)
  have go7 : Go p e below E0 T6 m 26 #[(sr x), (sr y), (sr y)] [(.ref x)] := fun tgt kq => go6 tgt (by
    refine XS.ifNo X6.here hx rfl (D 10 rfl) rfl ((if0 _ _).trans (feq W0.2.1).1) ?_; refine XS.aloadN X6.here hx rfl (D 11 rfl) rfl rfl ?_; exact kq)
  obtain ⟨T8, X8, e8, go8⟩ := own_gF X6 hx hZ hown (wd hw 35 rfl) e6 Fc go7 (D 12 rfl)
  have go9 : Go p e below E0 T8 m 30 #[(sr x), (sr y), (sr y)] [(.ref y), (.int (own_co cs))] := fun tgt kq => go8 tgt (by
    refine XS.aloadN X8.here hx rfl (D 13 rfl) rfl rfl ?_; exact kq)
  obtain ⟨T10, X10, e10, go10⟩ := own_gF X8 hx hZ hown (wd hw 35 rfl) e8 Fcy go9 (D 14 rfl)
  have go11 : Go p e below E0 T10 m 37 #[(sr x), (sr y), (sr y)] [(.ref x)] := fun tgt kq => go10 tgt (by
    refine XS.icmpNo X10.here hx rfl (D 15 rfl) rfl (teq rfl).2 ?_; refine XS.aloadN X10.here hx rfl (D 16 rfl) rfl rfl ?_; exact kq)
  obtain ⟨T12, X12, e12, go12⟩ := own_gF X10 hx hZ hown (wd hw 37 rfl) e10 Fv go11 (D 17 rfl)
  have go13 : Go p e below E0 T12 m 41 #[(sr x), (sr y), (sr y)] [(.ref y), (.ref t)] := fun tgt kq => go12 tgt (by
    refine XS.aloadN X12.here hx rfl (D 18 rfl) rfl rfl ?_; exact kq)
  obtain ⟨T14, X14, e14, go14⟩ := own_gF X12 hx hZ hown (wd hw 37 rfl) e12 Fvy go13 (D 19 rfl)
  obtain ⟨_, T15, L15, X15, hQ15, go15⟩ := own_cS X14 hx hZ hown (wd hw 261 rfl) (wd hw 262 rfl) (wd hw 76 rfl) (wd hw 263 rfl) (by decide) (W := 0) (rmLE l Z a0 hw [] t kx tu ku (own_k cs * cs.length) (own_by cs) h0 n0 Z0 Ax Axy (own_kb hl) (fun k q => own_by_at q)) (by decide) (by decide) e14 (by decide) (by decide) go14 hml.symm (argsL := [(.ref t), (.ref tu)]) (rest := []) (lenOf pd_33 rfl) rfl rfl rfl (D 20 rfl)
  obtain ⟨rfl, N15q, Kq1⟩ := hQ15
  have N15 := Fr.app N0 N15q
  have z16 : n0 ≤ T15.heap.size := Nat.le_trans Z0 Kq1.1
  have K17 : Keep h0 T15.heap [] := (Keep.refl h0 []).trans Kq1 all0
  have go18 : Go p e below E0 T15 m 55 #[(sr x), (sr y), (sr y)] [(.int 1)] := fun tgt kq => go15 tgt (by
    refine XS.ifNo X15.here hx rfl (D 21 rfl) rfl ((if0 _ _).trans (feq (by decide)).1) ?_; refine XS.iconst X15.here hx rfl (D 22 rfl) ?_; refine XS.goto X15.here hx rfl (pc0 := 51) (pc' := 55) rfl (D 23 rfl) (by decide) (by decide) ?_; exact kq)
  obtain ⟨fs, hr, hrun, hended, hW, hsame⟩ := X15.leave (v := some (.int (1 : Int32))) (fun h => by rw [Bd.returns] at h; cases h)
  refine ⟨_, _, go18 _ ?_, hrun, hended, _, _, rfl, ?_, ⟨_, rfl⟩, hW, hsame.mono (by decide) (by decide)⟩
  · exact retN X15 hx (t := .boolean) Bd.returns (by simp) (D 24 rfl) hr
  · show QEQ Z x t kx y tu ku cs G fv h0 n0 _ T15.heap _
    exact ⟨rfl, N15, K17⟩
theorem pn_34 : plainName "jdk/internal/util/ArraysSupport" = true := by first | (simp [plainName, overriddenIn]; done) | decide +kernel
theorem ef_NG (m : MethodId) (x0 : Int32) (x1 : Int32) (x2 : Int32) : entryFrame m #[(.int x0), (.int x1), (.int x2)] 4 = mkF m 0 #[.val (.int x0), .val (.int x1), .val (.int x2), .unset] [] := by first | (simp [entryFrame, mkF, argsToLocals, Value.category, maxLocals]; done) | rfl
def QNG (Z : State) (od : Nat) (gr : Nat) (pf : Nat) (r : Nat) (h0 : Heap) (n0 : Nat) (v : Option Value) (h : Heap) (L : List Loc) : Prop := v = some (.int (Int32.ofNat (od + r))) ∧ L = [] ∧ h = h0
abbrev RmNG : Room := ({ frames := 1, cells := 0, slots := 0, locals := 14 } : Room)
theorem rmNG (l : Launch) (Z : State) (a0 : Array Value) (hw : Tb a0 Z) (ws : List Jvm.Cond) (od : Nat) (gr : Nat) (pf : Nat) (r : Nat) (h0 : Heap) (n0 : Nat) (Z0 : n0 ≤ h0.size) (hr : r = max gr pf) (hg : gr < 5000) (hp : pf < 5000) (hod : od < 5000) (hq : 0 < r) :
    Met l Z h0 (⟨"jdk/internal/util/ArraysSupport", "newLength", "(III)I"⟩ : MethodName) jdk_48_method_27_code 4 (some .int) RmNG ws #[(.int (Int32.ofNat od)), (.int (Int32.ofNat gr)), (.int (Int32.ofNat pf))] (QNG Z od gr pf r h0 n0) := by
  refine MetFree.of_bodySF (plainFor_of_name pn_34) hisR ?_
  intro p e s m args below meth c s₁ Bd hml0 hP hK
  obtain ⟨rfl, hZ, hh⟩ := hP
  have hx := Bd.exec
  have hby := Bd.bytes
  have D := dl hby d47_
  have hml : c.maxLocals = 4 := hml0
  have hown : s.vm.findClass "jdk/internal/util/ArraysSupport" = some m.cls := findClass_of_methodNamed Bd.named
  have hnm := (name_of_methodNamed Bd.named Bd.method).1
  have X0 : Stand p l e RmNG s m #[(.int (Int32.ofNat od)), (.int (Int32.ofNat gr)), (.int (Int32.ofNat pf))] below meth c s₁ [] 0 0 := Stand.of_body Bd
  have e0 : s₁.heap = h0 := by rw [← hh, Bd.state]; rfl
  have N0 := Fr.nil n0
  obtain ⟨E0, hE0⟩ : ∃ z, z = s₁.setTop (entryFrame m #[(.int (Int32.ofNat od)), (.int (Int32.ofNat gr)), (.int (Int32.ofNat pf))] 4) := ⟨_, rfl⟩
  rw [← hE0]
  have go0 : Go p e below E0 s₁ m 0 #[(si (Int32.ofNat od)), (si (Int32.ofNat gr)), (si (Int32.ofNat pf)), .unset] [] := fun tgt kq => by rw [hE0]; exact castTop (ef_NG m (Int32.ofNat od) (Int32.ofNat gr) (Int32.ofNat pf)) kq
  have hr2 : r < 5000 := by omega
  have go1 : Go p e below E0 s₁ m 3 #[(si (Int32.ofNat od)), (si (Int32.ofNat gr)), (si (Int32.ofNat pf)), .unset] [(.int (Int32.ofNat pf)), (.int (Int32.ofNat gr)), (.int (Int32.ofNat od))] := fun tgt kq => go0 tgt (by
    refine XS.iloadN X0.here hx rfl (D 0 rfl) rfl ?_; refine XS.iloadN X0.here hx rfl (D 1 rfl) rfl ?_; refine XS.iloadN X0.here hx rfl (D 2 rfl) rfl ?_; exact kq)
  obtain ⟨_, T2, L2, X2, hQ2, go2⟩ := own_cS X0 hx hZ hown (wd hw 356 rfl) (wd hw 112 rfl) (wd hw 113 rfl) (wd hw 114 rfl) (by decide) (W := 1) (rmMX l Z a0 hw [] gr pf r h0 n0 Z0 hg hp hr) (by decide) (by decide) e0 (by decide) (by decide) go1 hml.symm (argsL := [(.int (Int32.ofNat gr)), (.int (Int32.ofNat pf))]) (rest := [(.int (Int32.ofNat od))]) (lenOf pd_28 rfl) rfl rfl rfl (D 3 rfl)
  obtain ⟨rfl, rfl, e2⟩ := hQ2
  have N2 := Fr.app N0 (Fr.nil n0)
  have go3 : Go p e below E0 T2 m 8 #[(si (Int32.ofNat od)), (si (Int32.ofNat gr)), (si (Int32.ofNat pf)), (si ((Int32.ofNat od) + (Int32.ofNat r)))] [] := fun tgt kq => go2 tgt (by
    refine XS.iadd X2.here hx rfl (D 4 rfl) rfl ?_; refine XS.istoreN X2.here hx rfl (D 5 rfl) rfl (l' := #[(si (Int32.ofNat od)), (si (Int32.ofNat gr)), (si (Int32.ofNat pf)), (si ((Int32.ofNat od) + (Int32.ofNat r)))]) rfl ?_; exact kq)
  have go4 : Go p e below E0 T2 m 8 #[(si (Int32.ofNat od)), (si (Int32.ofNat gr)), (si (Int32.ofNat pf)), (si (Int32.ofNat (od + r)))] [] := by have q := go3; rw [show ((Int32.ofNat od) + (Int32.ofNat r)) = (Int32.ofNat (od + r)) from own_add _ _] at q; exact q
  have go5 : Go p e below E0 T2 m 20 #[(si (Int32.ofNat od)), (si (Int32.ofNat gr)), (si (Int32.ofNat pf)), (si (Int32.ofNat (od + r)))] [(.int (Int32.ofNat (od + r)))] := fun tgt kq => go4 tgt (by
    refine XS.iconst X2.here hx rfl (D 6 rfl) ?_; refine XS.iloadN X2.here hx rfl (D 7 rfl) rfl ?_; refine XS.icmpNo X2.here hx rfl (D 8 rfl) rfl (tlt (own_lt (a := 0) (by omega) (by omega))).2.1 ?_; refine XS.iloadN X2.here hx rfl (D 9 rfl) rfl ?_; refine X2.ldcInt hx hown (wm hw hZ 357 rfl) (g := (mkF m 14 #[(si (Int32.ofNat od)), (si (Int32.ofNat gr)), (si (Int32.ofNat pf)), (si (Int32.ofNat (od + r)))] [(.int (Int32.ofNat (od + r)))])) rfl (D 10 rfl) _ ?_; refine XS.icmpNo X2.here hx rfl (D 11 rfl) rfl (flt (own_nlt (a := 2147483639) (by decide) (by omega))).2.2.1 ?_; refine XS.iloadN X2.here hx rfl (D 12 rfl) rfl ?_; exact kq)
  obtain ⟨fs, hr, hrun, hended, hW, hsame⟩ := X2.leave (v := some (.int (Int32.ofNat (od + r)))) (fun h => by rw [Bd.returns] at h; cases h)
  refine ⟨_, _, go5 _ ?_, hrun, hended, _, _, rfl, ?_, ⟨_, rfl⟩, hW, hsame.mono (by decide) (by decide)⟩
  · exact retOut X2 hx Bd.returns rfl (Or.inl ⟨rfl, Or.inl rfl, _, rfl⟩) (D 13 rfl) hr
  · show QNG Z od gr pf r h0 n0 _ T2.heap _
    rw [e2]
    exact ⟨rfl, rfl, rfl⟩
theorem pd_35 : parseMethodDescriptor "(III)I" = some ⟨[.int, .int, .int], some .int⟩ := by decide +kernel
theorem ef_NC (m : MethodId) (x0 : Addr) (x1 : Int32) : entryFrame m #[(.ref x0), (.int x1)] 6 = mkF m 0 #[.val (.ref x0), .val (.int x1), .unset, .unset, .unset, .unset] [] := by first | (simp [entryFrame, mkF, argsToLocals, Value.category, maxLocals]; done) | rfl
def QNC (Z : State) (b : Addr) (t : Addr) (kb : ClassId) (cap : Nat) (cs : List Int32) (mm : Nat) (h0 : Heap) (n0 : Nat) (v : Option Value) (h : Heap) (L : List Loc) : Prop := v = some (.int (Int32.ofNat (own_cap cap mm))) ∧ L = [] ∧ h = h0
abbrev RmNC : Room := ({ frames := 2, cells := 0, slots := 0, locals := 29 } : Room)
theorem rmNC (l : Launch) (Z : State) (a0 : Array Value) (hw : Tb a0 Z) (ws : List Jvm.Cond) (b : Addr) (t : Addr) (kb : ClassId) (cap : Nat) (cs : List Int32) (mm : Nat) (h0 : Heap) (n0 : Nat) (Z0 : n0 ≤ h0.size) (B0 : own_B Z h0 b t kb (own_k cs * cap) (own_co cs) (own_by cs) cs.length) (hcap : cap ≤ 517) (hmm : mm ≤ 518) (hgt : ¬ mm ≤ cap) :
    Met l Z h0 (⟨"java/lang/AbstractStringBuilder", "newCapacity", "(I)I"⟩ : MethodName) jdk_68_method_10_code 6 (some .int) RmNC ws #[(.ref b), (.int (Int32.ofNat mm))] (QNC Z b t kb cap cs mm h0 n0) := by
  refine MetFree.of_bodySF (plainFor_of_name pn_16) hisR ?_
  intro p e s m args below meth c s₁ Bd hml0 hP hK
  obtain ⟨rfl, hZ, hh⟩ := hP
  have hx := Bd.exec
  have hby := Bd.bytes
  have D := dl hby d48_
  have hml : c.maxLocals = 6 := hml0
  have hown : s.vm.findClass "java/lang/AbstractStringBuilder" = some m.cls := findClass_of_methodNamed Bd.named
  have hnm := (name_of_methodNamed Bd.named Bd.method).1
  have X0 : Stand p l e RmNC s m #[(.ref b), (.int (Int32.ofNat mm))] below meth c s₁ [] 0 0 := Stand.of_body Bd
  have e0 : s₁.heap = h0 := by rw [← hh, Bd.state]; rfl
  have N0 := Fr.nil n0
  obtain ⟨E0, hE0⟩ : ∃ z, z = s₁.setTop (entryFrame m #[(.ref b), (.int (Int32.ofNat mm))] 6) := ⟨_, rfl⟩
  rw [← hE0]
  have go0 : Go p e below E0 s₁ m 0 #[(sr b), (si (Int32.ofNat mm)), .unset, .unset, .unset, .unset] [] := fun tgt kq => by rw [hE0]; exact castTop (ef_NC m b (Int32.ofNat mm)) kq
  have qq1 := own_kle cs cap
  have qq2 := own_kle cs mm
  have qq3 := own_kle2 cs (Nat.le_of_lt (Nat.lt_of_not_le hgt))
  have qq4 := own_cap_b hcap hmm
  have qq5 := own_kle cs (own_cap cap mm)
  have qq6 := own_nck (cs := cs) hgt
  have qq7 := own_kle cs 2
  obtain ⟨Eb0, Gv0, Gc0, Gn0, Gm0, Ab0⟩ := id B0
  have ne_b0 : b ≠ t := Exa.neArv Eb0 Ab0 (wd hw 147 rfl)
  have go1 : Go p e below E0 s₁ m 1 #[(sr b), (si (Int32.ofNat mm)), .unset, .unset, .unset, .unset] [(.ref b)] := fun tgt kq => go0 tgt (by
    refine XS.aloadN X0.here hx rfl (D 0 rfl) rfl rfl ?_; exact kq)
  obtain ⟨T2, X2, e2, go2⟩ := own_gF X0 hx hZ hown (wd hw 160 rfl) e0 Gv0 go1 (D 1 rfl)
  obtain ⟨c3, Ar3, q3, S3, M3, -, -⟩ := id Ab0
  have go4 : Go p e below E0 T2 m 8 #[(sr b), (si (Int32.ofNat mm)), (si (Int32.ofNat (own_k cs * cap))), .unset, .unset, .unset] [(.ref b), (.int (Int32.ofNat mm))] := fun tgt kq => go2 tgt (by
    refine X2.arraylength hx (by rw [e2]; exact Ar3.1) (State.isArrayOf_alike hZ.alike Ar3.2.1) (g := (mkF m 4 #[(sr b), (si (Int32.ofNat mm)), .unset, .unset, .unset, .unset] [(.ref t)])) rfl rfl (D 2 rfl) _ ?_; rw [len_of S3 M3]; refine XS.istoreN X2.here hx rfl (D 3 rfl) rfl (l' := #[(sr b), (si (Int32.ofNat mm)), (si (Int32.ofNat (own_k cs * cap))), .unset, .unset, .unset]) rfl ?_; refine XS.iloadN X2.here hx rfl (D 4 rfl) rfl ?_; refine XS.aloadN X2.here hx rfl (D 5 rfl) rfl rfl ?_; exact kq)
  obtain ⟨T5, X5, e5, go5⟩ := own_gF X2 hx hZ hown (wd hw 162 rfl) e2 Gc0 go4 (D 6 rfl)
  have go6 : Go p e below E0 T5 m 13 #[(sr b), (si (Int32.ofNat mm)), (si (Int32.ofNat (own_k cs * cap))), (si ((Int32.ofNat mm) <<< ((own_co cs) &&& 31))), .unset, .unset] [] := fun tgt kq => go5 tgt (by
    refine XS.ishl X5.here hx rfl (D 7 rfl) rfl ?_; refine XS.istoreN X5.here hx rfl (D 8 rfl) rfl (l' := #[(sr b), (si (Int32.ofNat mm)), (si (Int32.ofNat (own_k cs * cap))), (si ((Int32.ofNat mm) <<< ((own_co cs) &&& 31))), .unset, .unset]) rfl ?_; exact kq)
  have go7 : Go p e below E0 T5 m 13 #[(sr b), (si (Int32.ofNat mm)), (si (Int32.ofNat (own_k cs * cap))), (si (Int32.ofNat (own_k cs * mm))), .unset, .unset] [] := by have q := go6; rw [show ((Int32.ofNat mm) <<< ((own_co cs) &&& 31)) = (Int32.ofNat (own_k cs * mm)) from own_shlk (by omega)] at q; exact q
  have go8 : Go p e below E0 T5 m 18 #[(sr b), (si (Int32.ofNat mm)), (si (Int32.ofNat (own_k cs * cap))), (si (Int32.ofNat (own_k cs * mm))), (si ((Int32.ofNat (own_k cs * mm)) - (Int32.ofNat (own_k cs * cap)))), .unset] [] := fun tgt kq => go7 tgt (by
    refine XS.iloadN X5.here hx rfl (D 9 rfl) rfl ?_; refine XS.iloadN X5.here hx rfl (D 10 rfl) rfl ?_; refine XS.isub X5.here hx rfl (D 11 rfl) rfl ?_; refine XS.istore X5.here hx rfl (D 12 rfl) rfl (l' := #[(sr b), (si (Int32.ofNat mm)), (si (Int32.ofNat (own_k cs * cap))), (si (Int32.ofNat (own_k cs * mm))), (si ((Int32.ofNat (own_k cs * mm)) - (Int32.ofNat (own_k cs * cap)))), .unset]) rfl ?_; exact kq)
  have go9 : Go p e below E0 T5 m 18 #[(sr b), (si (Int32.ofNat mm)), (si (Int32.ofNat (own_k cs * cap))), (si (Int32.ofNat (own_k cs * mm))), (si (Int32.ofNat (own_k cs * mm - own_k cs * cap))), .unset] [] := by have q := go8; rw [show ((Int32.ofNat (own_k cs * mm)) - (Int32.ofNat (own_k cs * cap))) = (Int32.ofNat (own_k cs * mm - own_k cs * cap)) from own_sub qq3] at q; exact q
  have go10 : Go p e below E0 T5 m 24 #[(sr b), (si (Int32.ofNat mm)), (si (Int32.ofNat (own_k cs * cap))), (si (Int32.ofNat (own_k cs * mm))), (si (Int32.ofNat (own_k cs * mm - own_k cs * cap))), .unset] [(.ref b), (.int 2), (.int (Int32.ofNat (own_k cs * cap))), (.int (Int32.ofNat (own_k cs * mm - own_k cs * cap))), (.int (Int32.ofNat (own_k cs * cap)))] := fun tgt kq => go9 tgt (by
    refine XS.iloadN X5.here hx rfl (D 13 rfl) rfl ?_; refine XS.iload X5.here hx rfl (D 14 rfl) rfl ?_; refine XS.iloadN X5.here hx rfl (D 15 rfl) rfl ?_; refine XS.iconst X5.here hx rfl (D 16 rfl) ?_; refine XS.aloadN X5.here hx rfl (D 17 rfl) rfl rfl ?_; exact kq)
  obtain ⟨T11, X11, e11, go11⟩ := own_gF X5 hx hZ hown (wd hw 162 rfl) e5 Gc0 go10 (D 18 rfl)
  have go12 : Go p e below E0 T11 m 29 #[(sr b), (si (Int32.ofNat mm)), (si (Int32.ofNat (own_k cs * cap))), (si (Int32.ofNat (own_k cs * mm))), (si (Int32.ofNat (own_k cs * mm - own_k cs * cap))), .unset] [(.int ((Int32.ofNat (own_k cs * cap)) + ((2 : Int32) <<< ((own_co cs) &&& 31)))), (.int (Int32.ofNat (own_k cs * mm - own_k cs * cap))), (.int (Int32.ofNat (own_k cs * cap)))] := fun tgt kq => go11 tgt (by
    refine XS.ishl X11.here hx rfl (D 19 rfl) rfl ?_; refine XS.iadd X11.here hx rfl (D 20 rfl) rfl ?_; exact kq)
  have go13 : Go p e below E0 T11 m 29 #[(sr b), (si (Int32.ofNat mm)), (si (Int32.ofNat (own_k cs * cap))), (si (Int32.ofNat (own_k cs * mm))), (si (Int32.ofNat (own_k cs * mm - own_k cs * cap))), .unset] [(.int (Int32.ofNat (own_k cs * cap + own_k cs * 2))), (.int (Int32.ofNat (own_k cs * mm - own_k cs * cap))), (.int (Int32.ofNat (own_k cs * cap)))] := by have q := go12; rw [show ((Int32.ofNat (own_k cs * cap)) + ((2 : Int32) <<< ((own_co cs) &&& 31))) = (Int32.ofNat (own_k cs * cap + own_k cs * 2)) from (by rw [own_two]; exact own_add _ _)] at q; exact q
  obtain ⟨_, T14, L14, X14, hQ14, go14⟩ := own_cS X11 hx hZ hown (wd hw 352 rfl) (wd hw 353 rfl) (wd hw 354 rfl) (wd hw 355 rfl) (by decide) (W := 0) (rmNG l Z a0 hw [] (own_k cs * cap) (own_k cs * mm - own_k cs * cap) (own_k cs * cap + own_k cs * 2) (max (own_k cs * mm - own_k cs * cap) (own_k cs * cap + own_k cs * 2)) h0 n0 Z0 rfl (by omega) (by omega) (by omega) (by omega)) (by decide) (by decide) e11 (by decide) (by decide) go13 hml.symm (argsL := [(.int (Int32.ofNat (own_k cs * cap))), (.int (Int32.ofNat (own_k cs * mm - own_k cs * cap))), (.int (Int32.ofNat (own_k cs * cap + own_k cs * 2)))]) (rest := []) (lenOf pd_35 rfl) rfl rfl rfl (D 21 rfl)
  obtain ⟨rfl, rfl, e14⟩ := hQ14
  have N14 := Fr.app N0 (Fr.nil n0)
  have go15 : Go p e below E0 T14 m 54 #[(sr b), (si (Int32.ofNat mm)), (si (Int32.ofNat (own_k cs * cap))), (si (Int32.ofNat (own_k cs * mm))), (si (Int32.ofNat (own_k cs * mm - own_k cs * cap))), (si (Int32.ofNat (own_k cs * cap + max (own_k cs * mm - own_k cs * cap) (own_k cs * cap + own_k cs * 2))))] [(.ref b), (.int (Int32.ofNat (own_k cs * cap + max (own_k cs * mm - own_k cs * cap) (own_k cs * cap + own_k cs * 2))))] := fun tgt kq => go14 tgt (by
    refine XS.istore X14.here hx rfl (D 22 rfl) rfl (l' := #[(sr b), (si (Int32.ofNat mm)), (si (Int32.ofNat (own_k cs * cap))), (si (Int32.ofNat (own_k cs * mm))), (si (Int32.ofNat (own_k cs * mm - own_k cs * cap))), (si (Int32.ofNat (own_k cs * cap + max (own_k cs * mm - own_k cs * cap) (own_k cs * cap + own_k cs * 2))))]) rfl ?_; refine XS.iload X14.here hx rfl (D 23 rfl) rfl ?_; refine X14.ldcInt hx hown (wm hw hZ 358 rfl) (g := (mkF m 36 #[(sr b), (si (Int32.ofNat mm)), (si (Int32.ofNat (own_k cs * cap))), (si (Int32.ofNat (own_k cs * mm))), (si (Int32.ofNat (own_k cs * mm - own_k cs * cap))), (si (Int32.ofNat (own_k cs * cap + max (own_k cs * mm - own_k cs * cap) (own_k cs * cap + own_k cs * 2))))] [(.int (Int32.ofNat (own_k cs * cap + max (own_k cs * mm - own_k cs * cap) (own_k cs * cap + own_k cs * 2))))])) rfl (D 24 rfl) _ ?_; refine XS.icmpYes X14.here hx rfl (pc0 := 38) (pc' := 51) rfl (D 25 rfl) rfl (feq (own_ne (b := 2147483647) (by omega) (by decide) (by omega))).2 (by decide) (by decide) ?_; refine XS.iload X14.here hx rfl (D 26 rfl) rfl ?_; refine XS.aloadN X14.here hx rfl (D 27 rfl) rfl rfl ?_; exact kq)
  obtain ⟨T16, X16, e16, go16⟩ := own_gF X14 hx hZ hown (wd hw 162 rfl) e14 Gc0 go15 (D 28 rfl)
  have go17 : Go p e below E0 T16 m 58 #[(sr b), (si (Int32.ofNat mm)), (si (Int32.ofNat (own_k cs * cap))), (si (Int32.ofNat (own_k cs * mm))), (si (Int32.ofNat (own_k cs * mm - own_k cs * cap))), (si (Int32.ofNat (own_k cs * cap + max (own_k cs * mm - own_k cs * cap) (own_k cs * cap + own_k cs * 2))))] [(.int ((Int32.ofNat (own_k cs * cap + max (own_k cs * mm - own_k cs * cap) (own_k cs * cap + own_k cs * 2))) >>> ((own_co cs) &&& 31)))] := fun tgt kq => go16 tgt (by
    refine XS.ishr X16.here hx rfl (D 29 rfl) rfl ?_; exact kq)
  obtain ⟨fs, hr, hrun, hended, hW, hsame⟩ := X16.leave (v := some (.int ((Int32.ofNat (own_k cs * cap + max (own_k cs * mm - own_k cs * cap) (own_k cs * cap + own_k cs * 2))) >>> ((own_co cs) &&& 31)))) (fun h => by rw [Bd.returns] at h; cases h)
  refine ⟨_, _, go17 _ ?_, hrun, hended, _, _, rfl, ?_, ⟨_, rfl⟩, hW, hsame.mono (by decide) (by decide)⟩
  · exact retOut X16 hx Bd.returns rfl (Or.inl ⟨rfl, Or.inl rfl, _, rfl⟩) (D 30 rfl) hr
  · show QNC Z b t kb cap cs mm h0 n0 _ T16.heap _
    rw [e16]
    exact ⟨by rw [own_nck hgt, own_lenk (by omega)], rfl, rfl⟩
theorem pn_36 : plainName "java/util/Arrays" = true := by first | (simp [plainName, overriddenIn]; done) | decide +kernel
theorem ef_CQ (m : MethodId) (x0 : Addr) (x1 : Int32) : entryFrame m #[(.ref x0), (.int x1)] 3 = mkF m 0 #[.val (.ref x0), .val (.int x1), .unset] [] := by first | (simp [entryFrame, mkF, argsToLocals, Value.category, maxLocals]; done) | rfl
def QCQ (Z : State) (t : Addr) (kb : ClassId) (ln : Nat) (vs : List Value) (nn : Nat) (h0 : Heap) (n0 : Nat) (v : Option Value) (h : Heap) (L : List Loc) : Prop := ∃ (t2 : Addr) (kb2 : ClassId), v = some (.ref t2) ∧ Fr n0 L ∧ Keep h0 h [] ∧ n0 ≤ t2 ∧ h0.size ≤ t2 ∧ Yb Z h t2 kb2 (Int32.ofNat nn) vs
abbrev RmCQ : Room := ({ frames := 1, cells := 1, slots := 2080, locals := 18 } : Room)
theorem rmCQ (l : Launch) (Z : State) (a0 : Array Value) (hw : Tb a0 Z) (ws : List Jvm.Cond) (t : Addr) (kb : ClassId) (ln : Nat) (vs : List Value) (nn : Nat) (h0 : Heap) (n0 : Nat) (Z0 : n0 ≤ h0.size) (A0 : Yb Z h0 t kb (Int32.ofNat ln) vs) (hvs : vs.length ≤ ln) (hlt : ln < nn) (hnn : nn ≤ 2080) :
    Met l Z h0 (⟨"java/util/Arrays", "copyOf", "([BI)[B"⟩ : MethodName) jdk_65_method_121_code 3 (some (.array .byte)) RmCQ ws #[(.ref t), (.int (Int32.ofNat nn))] (QCQ Z t kb ln vs nn h0 n0) := by
  refine MetFree.of_bodySF (plainFor_of_name pn_36) hisR ?_
  intro p e s m args below meth c s₁ Bd hml0 hP hK
  obtain ⟨rfl, hZ, hh⟩ := hP
  have hx := Bd.exec
  have hby := Bd.bytes
  have D := dl hby d49_
  have hml : c.maxLocals = 3 := hml0
  have hown : s.vm.findClass "java/util/Arrays" = some m.cls := findClass_of_methodNamed Bd.named
  have hnm := (name_of_methodNamed Bd.named Bd.method).1
  have X0 : Stand p l e RmCQ s m #[(.ref t), (.int (Int32.ofNat nn))] below meth c s₁ [] 0 0 := Stand.of_body Bd
  have e0 : s₁.heap = h0 := by rw [← hh, Bd.state]; rfl
  have N0 := Fr.nil n0
  obtain ⟨E0, hE0⟩ : ∃ z, z = s₁.setTop (entryFrame m #[(.ref t), (.int (Int32.ofNat nn))] 3) := ⟨_, rfl⟩
  rw [← hE0]
  have go0 : Go p e below E0 s₁ m 0 #[(sr t), (si (Int32.ofNat nn)), .unset] [] := fun tgt kq => by rw [hE0]; exact castTop (ef_CQ m t (Int32.ofNat nn)) kq
  have hcl : (Int32.ofNat ln).toNatClampNeg = ln := own_cl (by omega)
  have go1 : Go p e below E0 s₁ m 2 #[(sr t), (si (Int32.ofNat nn)), .unset] [(.ref t), (.int (Int32.ofNat nn))] := fun tgt kq => go0 tgt (by
    refine XS.iloadN X0.here hx rfl (D 0 rfl) rfl ?_; refine XS.aloadN X0.here hx rfl (D 1 rfl) rfl rfl ?_; exact kq)
  obtain ⟨c2, Ar2, q2, S2, M2, -, -⟩ := id A0
  have go3 : Go p e below E0 s₁ m 15 #[(sr t), (si (Int32.ofNat nn)), .unset] [(.int (Int32.ofNat nn))] := fun tgt kq => go1 tgt (by
    refine X0.arraylength hx (by rw [e0]; exact Ar2.1) (State.isArrayOf_alike hZ.alike Ar2.2.1) (g := (mkF m 2 #[(sr t), (si (Int32.ofNat nn)), .unset] [(.ref t), (.int (Int32.ofNat nn))])) rfl rfl (D 2 rfl) _ ?_; rw [len_of S2 M2]; refine XS.icmpYes X0.here hx rfl (pc0 := 3) (pc' := 14) rfl (D 3 rfl) rfl (feq (own_ne (by omega) (by omega) (by omega))).2 (by decide) (by decide) ?_; refine XS.iloadN X0.here hx rfl (D 4 rfl) rfl ?_; exact kq)
  obtain ⟨T4, h4, k4, X4, e4, E4, A4, st4⟩ := newP X0 hx hZ (wd hw 28 rfl) e0 (g := (mkF m 15 #[(sr t), (si (Int32.ofNat nn)), .unset] [(.int (Int32.ofNat nn))])) rfl (D 5 rfl) rfl (own_nn (by omega)) (cap := 2080) (by rw [own_cl (by omega)]; omega) (by decide) (by decide) (by decide)
  obtain ⟨t2, g4⟩ : ∃ z, z = h0.size := ⟨_, rfl⟩
  rw [← g4] at A4 st4
  have ne_t_t2 : t ≠ t2 := Nat.ne_of_lt (Nat.lt_of_lt_of_le A0.lt (Nat.le_of_eq g4.symm))
  have ge_t2 : n0 ≤ t2 := Nat.le_trans Z0 (Nat.le_of_eq g4.symm)
  have hz_t2 : h0.size ≤ t2 := Nat.le_trans (Keep.refl h0 []).1 (Nat.le_of_eq g4.symm)
  have z5 : n0 ≤ h4.size := Nat.le_trans Z0 E4.1
  have K6 : Keep h0 h4 [] := (Keep.refl h0 []).ext E4
  have V4 : Yb Z h4 t2 k4 (Int32.ofNat nn) [] := Arv.new A4 (own_nn (by omega))
  have go4 : Go p e below E0 T4 m 17 #[(sr t), (si (Int32.ofNat nn)), .unset] [(.ref t2)] := fun a b => go3 a (st4 a b)
  have go7 : Go p e below E0 T4 m 23 #[(sr t), (si (Int32.ofNat nn)), (sr t2)] [(.ref t), (.int 0), (.ref t2), (.int 0), (.ref t)] := fun tgt kq => go4 tgt (by
    refine XS.astoreN X4.here hx rfl (D 6 rfl) rfl rfl (l' := #[(sr t), (si (Int32.ofNat nn)), (sr t2)]) rfl ?_; refine XS.aloadN X4.here hx rfl (D 7 rfl) rfl rfl ?_; refine XS.iconst X4.here hx rfl (D 8 rfl) ?_; refine XS.aloadN X4.here hx rfl (D 9 rfl) rfl rfl ?_; refine XS.iconst X4.here hx rfl (D 10 rfl) ?_; refine XS.aloadN X4.here hx rfl (D 11 rfl) rfl rfl ?_; exact kq)
  have f8 : Yb Z h4 t kb (Int32.ofNat ln) vs := (A0.ext E4)
  obtain ⟨c9, Ar9, q9, S9, M9, -, -⟩ := id f8
  have go10 : Go p e below E0 T4 m 25 #[(sr t), (si (Int32.ofNat nn)), (sr t2)] [(.int (Int32.ofNat nn)), (.int (Int32.ofNat ln)), (.int 0), (.ref t2), (.int 0), (.ref t)] := fun tgt kq => go7 tgt (by
    refine X4.arraylength hx (by rw [e4]; exact Ar9.1) (State.isArrayOf_alike hZ.alike Ar9.2.1) (g := (mkF m 23 #[(sr t), (si (Int32.ofNat nn)), (sr t2)] [(.ref t), (.int 0), (.ref t2), (.int 0), (.ref t)])) rfl rfl (D 12 rfl) _ ?_; rw [len_of S9 M9]; refine XS.iloadN X4.here hx rfl (D 13 rfl) rfl ?_; exact kq)
  obtain ⟨_, T11, L11, X11, hQ11, go11⟩ := own_cS X4 hx hZ hown (wd hw 254 rfl) (wd hw 116 rfl) (wd hw 113 rfl) (wd hw 117 rfl) (by decide) (W := 4) (rmMN l Z a0 hw [] ln nn ln h4 n0 z5 (by omega) (by omega) (by omega)) (by decide) (by decide) e4 (by decide) (by decide) go10 hml.symm (argsL := [(.int (Int32.ofNat ln)), (.int (Int32.ofNat nn))]) (rest := [(.int 0), (.ref t2), (.int 0), (.ref t)]) (lenOf pd_28 rfl) rfl rfl rfl (D 14 rfl)
  obtain ⟨rfl, rfl, e11⟩ := hQ11
  have N11 := Fr.app N0 (Fr.nil n0)
  have pd12 : Yb Z h4 t2 k4 (Int32.ofNat nn) ([] ++ List.replicate (ln) (.int (0 : Int32))) := V4.pad (pad_rep [] (.int (0 : Int32)) (ln))
  obtain ⟨T12, h12, l12, X12, e12, N12, Kc12, Ar12, st12⟩ := cpA X11 hx hZ hown (wd hw 255 rfl) (wd hw 201 rfl) (wd hw 199 rfl) (wd hw 200 rfl) e11 f8 pd12 (Or.inl ⟨rfl, rfl⟩) (by decide) (by decide) (own_nn (by omega)) (by rw [own_z0, hcl]; omega) (by rw [own_z0, hcl, own_cl (by omega)]; omega) (us := ((List.range ln).map fun i => vs.getD (0 + i) (.int (0 : Int32)))) (by rw [hcl, own_z0]) (by rw [own_z0, hcl]; simp) N11 ge_t2 (g := (mkF m 28 #[(sr t), (si (Int32.ofNat nn)), (sr t2)] [(.int (Int32.ofNat ln)), (.int 0), (.ref t2), (.int 0), (.ref t)])) rfl (by rw [hml]; rfl) rfl (D 15 rfl) (by decide) (W := 0) (by show 2 * 0 + _ ≤ _; exact Nat.le_of_eq rfl) (by decide)
  have z13 : n0 ≤ h12.size := Nat.le_trans z5 Kc12.1
  have K14 : Keep h0 h12 [] := K6.trans Kc12 (allS (Or.inr hz_t2) all0)
  have f15 : Yb Z h12 t2 k4 (Int32.ofNat nn) vs := (Arv.pad (by have q := Ar12; rw [own_z0, hcl, own_copy0] at q; exact q) (fun i => (own_range_getD vs (.int (0 : Int32)) ln i hvs).symm))
  have go12 : Go p e below E0 T12 m 31 #[(sr t), (si (Int32.ofNat nn)), (sr t2)] [] := fun a b => go11 a (st12 a b)
  have go16 : Go p e below E0 T12 m 32 #[(sr t), (si (Int32.ofNat nn)), (sr t2)] [(.ref t2)] := fun tgt kq => go12 tgt (by
    refine XS.aloadN X12.here hx rfl (D 16 rfl) rfl rfl ?_; exact kq)
  obtain ⟨fs, hr, hrun, hended, hW, hsame⟩ := X12.leave (v := some (.ref t2)) (fun h => by rw [Bd.returns] at h; cases h)
  refine ⟨_, _, go16 _ ?_, hrun, hended, _, _, rfl, ?_, ⟨_, rfl⟩, hW, hsame.mono (by decide) (by decide)⟩
  · exact retOut X12 hx Bd.returns rfl (Or.inr (Or.inr (Or.inr (Or.inr ⟨rfl, rfl, rfl⟩)))) (D 17 rfl) hr
  · show QCQ Z t kb ln vs nn h0 n0 _ T12.heap _
    rw [e12]
    exact ⟨t2, k4, rfl, N12, K14, ge_t2, hz_t2, f15⟩
def QCL (Z : State) (nn : Nat) (h0 : Heap) (n0 : Nat) (v : Option Value) (h : Heap) (L : List Loc) : Prop := v = none ∧ L = [] ∧ h = h0
abbrev RmCL : Room := ({ frames := 0, cells := 0, slots := 0, locals := 0 } : Room)
theorem rmCL (l : Launch) (Z : State) (a0 : Array Value) (hw : Tb a0 Z) (ws : List Jvm.Cond) (nn : Nat) (h0 : Heap) (n0 : Nat) (Z0 : n0 ≤ h0.size) (hnn : nn ≤ 2080) :
    Met l Z h0 (⟨"java/util/Arrays", "checkLength", "(II)V"⟩ : MethodName) jdk_65_method_131_code 2 none RmCL ws #[(.int (0 : Int32)), (.int (Int32.ofNat nn))] (QCL Z nn h0 n0) := by
  refine MetFree.of_bodySF (plainFor_of_name pn_36) hisR ?_
  intro p e s m args below meth c s₁ Bd hml0 hP hK
  obtain ⟨rfl, hZ, hh⟩ := hP
  have hx := Bd.exec
  have hby := Bd.bytes
  have D := dl hby d50_
  have hml : c.maxLocals = 2 := hml0
  have hown : s.vm.findClass "java/util/Arrays" = some m.cls := findClass_of_methodNamed Bd.named
  have hnm := (name_of_methodNamed Bd.named Bd.method).1
  have X0 : Stand p l e RmCL s m #[(.int (0 : Int32)), (.int (Int32.ofNat nn))] below meth c s₁ [] 0 0 := Stand.of_body Bd
  have e0 : s₁.heap = h0 := by rw [← hh, Bd.state]; rfl
  have N0 := Fr.nil n0
  obtain ⟨E0, hE0⟩ : ∃ z, z = s₁.setTop (entryFrame m #[(.int (0 : Int32)), (.int (Int32.ofNat nn))] 2) := ⟨_, rfl⟩
  rw [← hE0]
  have go0 : Go p e below E0 s₁ m 0 #[(si 0), (si (Int32.ofNat nn))] [] := fun tgt kq => by rw [hE0]; exact castTop (ef_CI m (0 : Int32) (Int32.ofNat nn)) kq
  have go1 : Go p e below E0 s₁ m 37 #[(si 0), (si (Int32.ofNat nn))] [] := fun tgt kq => go0 tgt (by
    refine XS.iloadN X0.here hx rfl (D 0 rfl) rfl ?_; refine XS.iloadN X0.here hx rfl (D 1 rfl) rfl ?_; refine XS.icmpYes X0.here hx rfl (pc0 := 2) (pc' := 37) rfl (D 2 rfl) rfl (flt (own_nn (by omega))).2.1 (by decide) (by decide) ?_; exact kq)
  obtain ⟨fs, hr, hrun, hended, hW, hsame⟩ := X0.leave (v := none) (fun _ => rfl)
  refine ⟨_, _, go1 _ ?_, hrun, hended, _, _, rfl, ?_, ⟨_, rfl⟩, hW, hsame.mono (by decide) (by decide)⟩
  · exact X0.returnOut hx Bd.returns (D 3 rfl) hr
  · show QCL Z nn h0 n0 _ s₁.heap _
    rw [e0]
    exact ⟨rfl, rfl, rfl⟩
def QCRB (Z : State) (t : Addr) (kb : ClassId) (ln : Nat) (vs : List Value) (nn : Nat) (h0 : Heap) (n0 : Nat) (v : Option Value) (h : Heap) (L : List Loc) : Prop := ∃ (t2 : Addr) (kb2 : ClassId), v = some (.ref t2) ∧ Fr n0 L ∧ Keep h0 h [] ∧ n0 ≤ t2 ∧ h0.size ≤ t2 ∧ Yb Z h t2 kb2 (Int32.ofNat nn) vs
abbrev RmCRB : Room := ({ frames := 1, cells := 1, slots := 1040, locals := 18 } : Room)
theorem rmCRB (l : Launch) (Z : State) (a0 : Array Value) (hw : Tb a0 Z) (ws : List Jvm.Cond) (t : Addr) (kb : ClassId) (ln : Nat) (vs : List Value) (nn : Nat) (h0 : Heap) (n0 : Nat) (Z0 : n0 ≤ h0.size) (A0 : Yb Z h0 t kb (Int32.ofNat ln) vs) (hvs : vs.length = nn) (hlt : nn < ln) (hnn : nn ≤ 1040) (hln : ln ≤ 2080) :
    Met l Z h0 (⟨"java/util/Arrays", "copyOfRangeByte", "([BII)[B"⟩ : MethodName) jdk_65_method_133_code 5 (some (.array .byte)) RmCRB ws #[(.ref t), (.int (0 : Int32)), (.int (Int32.ofNat nn))] (QCRB Z t kb ln vs nn h0 n0) := by
  refine MetFree.of_bodySF (plainFor_of_name pn_36) hisR ?_
  intro p e s m args below meth c s₁ Bd hml0 hP hK
  obtain ⟨rfl, hZ, hh⟩ := hP
  have hx := Bd.exec
  have hby := Bd.bytes
  have D := dl hby d51_
  have hml : c.maxLocals = 5 := hml0
  have hown : s.vm.findClass "java/util/Arrays" = some m.cls := findClass_of_methodNamed Bd.named
  have hnm := (name_of_methodNamed Bd.named Bd.method).1
  have X0 : Stand p l e RmCRB s m #[(.ref t), (.int (0 : Int32)), (.int (Int32.ofNat nn))] below meth c s₁ [] 0 0 := Stand.of_body Bd
  have e0 : s₁.heap = h0 := by rw [← hh, Bd.state]; rfl
  have N0 := Fr.nil n0
  obtain ⟨E0, hE0⟩ : ∃ z, z = s₁.setTop (entryFrame m #[(.ref t), (.int (0 : Int32)), (.int (Int32.ofNat nn))] 5) := ⟨_, rfl⟩
  rw [← hE0]
  have go0 : Go p e below E0 s₁ m 0 #[(sr t), (si 0), (si (Int32.ofNat nn)), .unset, .unset] [] := fun tgt kq => by rw [hE0]; exact castTop (ef_TB520 m t (0 : Int32) (Int32.ofNat nn)) kq
  have hcl : (Int32.ofNat nn).toNatClampNeg = nn := own_cl (by omega)
  have go1 : Go p e below E0 s₁ m 2 #[(sr t), (si 0), (si (Int32.ofNat nn)), .unset, .unset] [(.int (Int32.ofNat nn)), (.int 0)] := fun tgt kq => go0 tgt (by
    refine XS.iloadN X0.here hx rfl (D 0 rfl) rfl ?_; refine XS.iloadN X0.here hx rfl (D 1 rfl) rfl ?_; exact kq)
  obtain ⟨_, T2, L2, X2, hQ2, go2⟩ := own_cS X0 hx hZ hown (wd hw 251 rfl) (wd hw 252 rfl) (wd hw 246 rfl) (wd hw 253 rfl) (by decide) (W := 0) (rmCL l Z a0 hw [] nn h0 n0 Z0 (by omega)) (by decide) (by decide) e0 (by decide) (by decide) go1 hml.symm (argsL := [(.int 0), (.int (Int32.ofNat nn))]) (rest := []) (lenOf pd_12 rfl) rfl rfl rfl (D 2 rfl)
  obtain ⟨rfl, rfl, e2⟩ := hQ2
  have N2 := Fr.app N0 (Fr.nil n0)
  have go3 : Go p e below E0 T2 m 9 #[(sr t), (si 0), (si (Int32.ofNat nn)), (si ((Int32.ofNat nn) - (0 : Int32))), .unset] [] := fun tgt kq => go2 tgt (by
    refine XS.iloadN X2.here hx rfl (D 3 rfl) rfl ?_; refine XS.iloadN X2.here hx rfl (D 4 rfl) rfl ?_; refine XS.isub X2.here hx rfl (D 5 rfl) rfl ?_; refine XS.istoreN X2.here hx rfl (D 6 rfl) rfl (l' := #[(sr t), (si 0), (si (Int32.ofNat nn)), (si ((Int32.ofNat nn) - (0 : Int32))), .unset]) rfl ?_; exact kq)
  have go4 : Go p e below E0 T2 m 9 #[(sr t), (si 0), (si (Int32.ofNat nn)), (si (Int32.ofNat nn)), .unset] [] := by have q := go3; rw [show ((Int32.ofNat nn) - (0 : Int32)) = (Int32.ofNat nn) from (own_sub (b := 0) (Nat.zero_le _))] at q; exact q
  have go5 : Go p e below E0 T2 m 10 #[(sr t), (si 0), (si (Int32.ofNat nn)), (si (Int32.ofNat nn)), .unset] [(.int (Int32.ofNat nn))] := fun tgt kq => go4 tgt (by
    refine XS.iloadN X2.here hx rfl (D 7 rfl) rfl ?_; exact kq)
  obtain ⟨T6, h6, k6, X6, e6, E6, A6, st6⟩ := newP X2 hx hZ (wd hw 28 rfl) e2 (g := (mkF m 10 #[(sr t), (si 0), (si (Int32.ofNat nn)), (si (Int32.ofNat nn)), .unset] [(.int (Int32.ofNat nn))])) rfl (D 8 rfl) rfl (own_nn (by omega)) (cap := 1040) (by rw [own_cl (by omega)]; omega) (by decide) (by decide) (by decide)
  obtain ⟨t2, g6⟩ : ∃ z, z = h0.size := ⟨_, rfl⟩
  rw [← g6] at A6 st6
  have ne_t_t2 : t ≠ t2 := Nat.ne_of_lt (Nat.lt_of_lt_of_le A0.lt (Nat.le_of_eq g6.symm))
  have ge_t2 : n0 ≤ t2 := Nat.le_trans Z0 (Nat.le_of_eq g6.symm)
  have hz_t2 : h0.size ≤ t2 := Nat.le_trans (Keep.refl h0 []).1 (Nat.le_of_eq g6.symm)
  have z7 : n0 ≤ h6.size := Nat.le_trans Z0 E6.1
  have K8 : Keep h0 h6 [] := (Keep.refl h0 []).ext E6
  have V6 : Yb Z h6 t2 k6 (Int32.ofNat nn) [] := Arv.new A6 (own_nn (by omega))
  have go6 : Go p e below E0 T6 m 12 #[(sr t), (si 0), (si (Int32.ofNat nn)), (si (Int32.ofNat nn)), .unset] [(.ref t2)] := fun a b => go5 a (st6 a b)
  have go9 : Go p e below E0 T6 m 20 #[(sr t), (si 0), (si (Int32.ofNat nn)), (si (Int32.ofNat nn)), (sr t2)] [(.ref t), (.int 0), (.ref t2), (.int 0), (.ref t)] := fun tgt kq => go6 tgt (by
    refine XS.astore X6.here hx rfl (D 9 rfl) rfl rfl (l' := #[(sr t), (si 0), (si (Int32.ofNat nn)), (si (Int32.ofNat nn)), (sr t2)]) rfl ?_; refine XS.aloadN X6.here hx rfl (D 10 rfl) rfl rfl ?_; refine XS.iloadN X6.here hx rfl (D 11 rfl) rfl ?_; refine XS.aload X6.here hx rfl (D 12 rfl) rfl rfl ?_; refine XS.iconst X6.here hx rfl (D 13 rfl) ?_; refine XS.aloadN X6.here hx rfl (D 14 rfl) rfl rfl ?_; exact kq)
  have f10 : Yb Z h6 t kb (Int32.ofNat ln) vs := (A0.ext E6)
  obtain ⟨c11, Ar11, q11, S11, M11, -, -⟩ := id f10
  have go12 : Go p e below E0 T6 m 23 #[(sr t), (si 0), (si (Int32.ofNat nn)), (si (Int32.ofNat nn)), (sr t2)] [(.int ((Int32.ofNat ln) - (0 : Int32))), (.int 0), (.ref t2), (.int 0), (.ref t)] := fun tgt kq => go9 tgt (by
    refine X6.arraylength hx (by rw [e6]; exact Ar11.1) (State.isArrayOf_alike hZ.alike Ar11.2.1) (g := (mkF m 20 #[(sr t), (si 0), (si (Int32.ofNat nn)), (si (Int32.ofNat nn)), (sr t2)] [(.ref t), (.int 0), (.ref t2), (.int 0), (.ref t)])) rfl rfl (D 15 rfl) _ ?_; rw [len_of S11 M11]; refine XS.iloadN X6.here hx rfl (D 16 rfl) rfl ?_; refine XS.isub X6.here hx rfl (D 17 rfl) rfl ?_; exact kq)
  have go13 : Go p e below E0 T6 m 23 #[(sr t), (si 0), (si (Int32.ofNat nn)), (si (Int32.ofNat nn)), (sr t2)] [(.int (Int32.ofNat ln)), (.int 0), (.ref t2), (.int 0), (.ref t)] := by have q := go12; rw [show ((Int32.ofNat ln) - (0 : Int32)) = (Int32.ofNat ln) from (own_sub (b := 0) (Nat.zero_le _))] at q; exact q
  have go14 : Go p e below E0 T6 m 24 #[(sr t), (si 0), (si (Int32.ofNat nn)), (si (Int32.ofNat nn)), (sr t2)] [(.int (Int32.ofNat nn)), (.int (Int32.ofNat ln)), (.int 0), (.ref t2), (.int 0), (.ref t)] := fun tgt kq => go13 tgt (by
    refine XS.iloadN X6.here hx rfl (D 18 rfl) rfl ?_; exact kq)
  obtain ⟨_, T15, L15, X15, hQ15, go15⟩ := own_cS X6 hx hZ hown (wd hw 254 rfl) (wd hw 116 rfl) (wd hw 113 rfl) (wd hw 117 rfl) (by decide) (W := 4) (rmMN l Z a0 hw [] ln nn nn h6 n0 z7 (by omega) (by omega) (by omega)) (by decide) (by decide) e6 (by decide) (by decide) go14 hml.symm (argsL := [(.int (Int32.ofNat ln)), (.int (Int32.ofNat nn))]) (rest := [(.int 0), (.ref t2), (.int 0), (.ref t)]) (lenOf pd_28 rfl) rfl rfl rfl (D 19 rfl)
  obtain ⟨rfl, rfl, e15⟩ := hQ15
  have N15 := Fr.app N2 (Fr.nil n0)
  have pd16 : Yb Z h6 t2 k6 (Int32.ofNat nn) ([] ++ List.replicate (nn) (.int (0 : Int32))) := V6.pad (pad_rep [] (.int (0 : Int32)) (nn))
  obtain ⟨T16, h16, l16, X16, e16, N16, Kc16, Ar16, st16⟩ := cpA X15 hx hZ hown (wd hw 255 rfl) (wd hw 201 rfl) (wd hw 199 rfl) (wd hw 200 rfl) e15 f10 pd16 (Or.inl ⟨rfl, rfl⟩) (by decide) (by decide) (own_nn (by omega)) (by rw [own_z0, hcl, own_cl (by omega)]; omega) (by rw [own_z0, hcl]; omega) (us := vs) (by rw [hcl, own_z0]; exact (own_range_eq vs (.int (0 : Int32)) nn hvs).symm) (by rw [own_z0, hcl]; simp) N15 ge_t2 (g := (mkF m 27 #[(sr t), (si 0), (si (Int32.ofNat nn)), (si (Int32.ofNat nn)), (sr t2)] [(.int (Int32.ofNat nn)), (.int 0), (.ref t2), (.int 0), (.ref t)])) rfl (by rw [hml]; rfl) rfl (D 20 rfl) (by decide) (W := 0) (by show 2 * 0 + _ ≤ _; exact Nat.le_of_eq rfl) (by decide)
  have z17 : n0 ≤ h16.size := Nat.le_trans z7 Kc16.1
  have K18 : Keep h0 h16 [] := K8.trans Kc16 (allS (Or.inr hz_t2) all0)
  have f19 : Yb Z h16 t2 k6 (Int32.ofNat nn) vs := (by have q := Ar16; rw [own_z0, hcl, own_copy0] at q; exact q)
  have go16 : Go p e below E0 T16 m 30 #[(sr t), (si 0), (si (Int32.ofNat nn)), (si (Int32.ofNat nn)), (sr t2)] [] := fun a b => go15 a (st16 a b)
  have go20 : Go p e below E0 T16 m 32 #[(sr t), (si 0), (si (Int32.ofNat nn)), (si (Int32.ofNat nn)), (sr t2)] [(.ref t2)] := fun tgt kq => go16 tgt (by
    refine XS.aload X16.here hx rfl (D 21 rfl) rfl rfl ?_; exact kq)
  obtain ⟨fs, hr, hrun, hended, hW, hsame⟩ := X16.leave (v := some (.ref t2)) (fun h => by rw [Bd.returns] at h; cases h)
  refine ⟨_, _, go20 _ ?_, hrun, hended, _, _, rfl, ?_, ⟨_, rfl⟩, hW, hsame.mono (by decide) (by decide)⟩
  · exact retOut X16 hx Bd.returns rfl (Or.inr (Or.inr (Or.inr (Or.inr ⟨rfl, rfl, rfl⟩)))) (D 22 rfl) hr
  · show QCRB Z t kb ln vs nn h0 n0 _ T16.heap _
    rw [e16]
    exact ⟨t2, k6, rfl, N16, K18, ge_t2, hz_t2, f19⟩
theorem pd_37 : parseMethodDescriptor "([BII)[B" = some ⟨[(.array .byte), .int, .int], some (.array .byte)⟩ := by decide +kernel
def QCR (Z : State) (t : Addr) (kb : ClassId) (ln : Nat) (vs : List Value) (nn : Nat) (h0 : Heap) (n0 : Nat) (v : Option Value) (h : Heap) (L : List Loc) : Prop := ∃ (t2 : Addr) (kb2 : ClassId), v = some (.ref t2) ∧ Fr n0 L ∧ Keep h0 h [] ∧ n0 ≤ t2 ∧ h0.size ≤ t2 ∧ Yb Z h t2 kb2 (Int32.ofNat nn) vs
abbrev RmCR : Room := ({ frames := 2, cells := 1, slots := 1040, locals := 34 } : Room)
theorem rmCR (l : Launch) (Z : State) (a0 : Array Value) (hw : Tb a0 Z) (ws : List Jvm.Cond) (t : Addr) (kb : ClassId) (ln : Nat) (vs : List Value) (nn : Nat) (h0 : Heap) (n0 : Nat) (Z0 : n0 ≤ h0.size) (A0 : Yb Z h0 t kb (Int32.ofNat ln) vs) (hvs : vs.length = nn) (hlt : nn < ln) (hnn : nn ≤ 1040) (hln : ln ≤ 2080) :
    Met l Z h0 (⟨"java/util/Arrays", "copyOfRange", "([BII)[B"⟩ : MethodName) jdk_65_method_132_code 3 (some (.array .byte)) RmCR ws #[(.ref t), (.int (0 : Int32)), (.int (Int32.ofNat nn))] (QCR Z t kb ln vs nn h0 n0) := by
  refine MetFree.of_bodySF (plainFor_of_name pn_36) hisR ?_
  intro p e s m args below meth c s₁ Bd hml0 hP hK
  obtain ⟨rfl, hZ, hh⟩ := hP
  have hx := Bd.exec
  have hby := Bd.bytes
  have D := dl hby d52_
  have hml : c.maxLocals = 3 := hml0
  have hown : s.vm.findClass "java/util/Arrays" = some m.cls := findClass_of_methodNamed Bd.named
  have hnm := (name_of_methodNamed Bd.named Bd.method).1
  have X0 : Stand p l e RmCR s m #[(.ref t), (.int (0 : Int32)), (.int (Int32.ofNat nn))] below meth c s₁ [] 0 0 := Stand.of_body Bd
  have e0 : s₁.heap = h0 := by rw [← hh, Bd.state]; rfl
  have N0 := Fr.nil n0
  obtain ⟨E0, hE0⟩ : ∃ z, z = s₁.setTop (entryFrame m #[(.ref t), (.int (0 : Int32)), (.int (Int32.ofNat nn))] 3) := ⟨_, rfl⟩
  rw [← hE0]
  have go0 : Go p e below E0 s₁ m 0 #[(sr t), (si 0), (si (Int32.ofNat nn))] [] := fun tgt kq => by rw [hE0]; exact castTop (ef_PU m t (0 : Int32) (Int32.ofNat nn)) kq
  have go1 : Go p e below E0 s₁ m 6 #[(sr t), (si 0), (si (Int32.ofNat nn))] [(.ref t), (.int (Int32.ofNat nn))] := fun tgt kq => go0 tgt (by
    refine XS.iloadN X0.here hx rfl (D 0 rfl) rfl ?_; refine XS.ifNo X0.here hx rfl (D 1 rfl) rfl ((if0 _ _).trans (teq rfl).2) ?_; refine XS.iloadN X0.here hx rfl (D 2 rfl) rfl ?_; refine XS.aloadN X0.here hx rfl (D 3 rfl) rfl rfl ?_; exact kq)
  obtain ⟨c2, Ar2, q2, S2, M2, -, -⟩ := id A0
  have go3 : Go p e below E0 s₁ m 13 #[(sr t), (si 0), (si (Int32.ofNat nn))] [(.int (Int32.ofNat nn)), (.int 0), (.ref t)] := fun tgt kq => go1 tgt (by
    refine X0.arraylength hx (by rw [e0]; exact Ar2.1) (State.isArrayOf_alike hZ.alike Ar2.2.1) (g := (mkF m 6 #[(sr t), (si 0), (si (Int32.ofNat nn))] [(.ref t), (.int (Int32.ofNat nn))])) rfl rfl (D 4 rfl) _ ?_; rw [len_of S2 M2]; refine XS.icmpNo X0.here hx rfl (D 5 rfl) rfl (feq (own_ne (by omega) (by omega) (by omega))).1 ?_; refine XS.aloadN X0.here hx rfl (D 6 rfl) rfl rfl ?_; refine XS.iloadN X0.here hx rfl (D 7 rfl) rfl ?_; refine XS.iloadN X0.here hx rfl (D 8 rfl) rfl ?_; exact kq)
  obtain ⟨_, T4, L4, X4, hQ4, go4⟩ := own_cS X0 hx hZ hown (wd hw 248 rfl) (wd hw 249 rfl) (wd hw 246 rfl) (wd hw 250 rfl) (by decide) (W := 0) (rmCRB l Z a0 hw [] t kb ln vs nn h0 n0 Z0 A0 hvs hlt hnn hln) (by decide) (by decide) e0 (by decide) (by decide) go3 hml.symm (argsL := [(.ref t), (.int 0), (.int (Int32.ofNat nn))]) (rest := []) (lenOf pd_37 rfl) rfl rfl rfl (D 9 rfl)
  obtain ⟨t2, kb2, rfl, N4q, Kq1, gq2, zq2, Aq2⟩ := hQ4
  have N4 := Fr.app N0 N4q
  have z5 : n0 ≤ T4.heap.size := Nat.le_trans Z0 Kq1.1
  have K6 : Keep h0 T4.heap [] := (Keep.refl h0 []).trans Kq1 all0
  obtain ⟨fs, hr, hrun, hended, hW, hsame⟩ := X4.leave (v := some (.ref t2)) (fun h => by rw [Bd.returns] at h; cases h)
  refine ⟨_, _, go4 _ ?_, hrun, hended, _, _, rfl, ?_, ⟨_, rfl⟩, hW, hsame.mono (by decide) (by decide)⟩
  · exact retOut X4 hx Bd.returns rfl (Or.inr (Or.inr (Or.inr (Or.inr ⟨rfl, rfl, rfl⟩)))) (D 10 rfl) hr
  · show QCR Z t kb ln vs nn h0 n0 _ T4.heap _
    exact ⟨t2, kb2, rfl, N4, K6, gq2, zq2, Aq2⟩
theorem pd_38 : parseMethodDescriptor "([BI)[B" = some ⟨[(.array .byte), .int], some (.array .byte)⟩ := by decide +kernel
def QEC (Z : State) (b : Addr) (t : Addr) (kb : ClassId) (cap : Nat) (cs : List Int32) (mm : Nat) (h0 : Heap) (n0 : Nat) (v : Option Value) (h : Heap) (L : List Loc) : Prop := ∃ (t2 : Addr) (kb2 : ClassId), v = none ∧ Fr n0 L ∧ Keep h0 h [b] ∧ own_B Z h b t2 kb2 (own_k cs * own_cap cap mm) (own_co cs) (own_by cs) cs.length ∧ n0 ≤ t2 ∧ (t2 = t ∨ h0.size ≤ t2)
abbrev RmEC : Room := ({ frames := 3, cells := 1, slots := 2080, locals := 48 } : Room)
theorem rmEC (l : Launch) (Z : State) (a0 : Array Value) (hw : Tb a0 Z) (ws : List Jvm.Cond) (b : Addr) (t : Addr) (kb : ClassId) (cap : Nat) (cs : List Int32) (mm : Nat) (h0 : Heap) (n0 : Nat) (Z0 : n0 ≤ h0.size) (B0 : own_B Z h0 b t kb (own_k cs * cap) (own_co cs) (own_by cs) cs.length) (gb : n0 ≤ b) (gt : n0 ≤ t) (hcap : cap ≤ 517) (hcs : cs.length ≤ cap) (hmm : mm ≤ 518) :
    Met l Z h0 (⟨"java/lang/AbstractStringBuilder", "ensureCapacityInternal", "(I)V"⟩ : MethodName) jdk_68_method_9_code 3 none RmEC ws #[(.ref b), (.int (Int32.ofNat mm))] (QEC Z b t kb cap cs mm h0 n0) := by
  refine MetFree.of_bodySF (plainFor_of_name pn_16) hisR ?_
  intro p e s m args below meth c s₁ Bd hml0 hP hK
  obtain ⟨rfl, hZ, hh⟩ := hP
  have hx := Bd.exec
  have hby := Bd.bytes
  have D := dl hby d53_
  have hml : c.maxLocals = 3 := hml0
  have hown : s.vm.findClass "java/lang/AbstractStringBuilder" = some m.cls := findClass_of_methodNamed Bd.named
  have hnm := (name_of_methodNamed Bd.named Bd.method).1
  have X0 : Stand p l e RmEC s m #[(.ref b), (.int (Int32.ofNat mm))] below meth c s₁ [] 0 0 := Stand.of_body Bd
  have e0 : s₁.heap = h0 := by rw [← hh, Bd.state]; rfl
  have N0 := Fr.nil n0
  obtain ⟨E0, hE0⟩ : ∃ z, z = s₁.setTop (entryFrame m #[(.ref b), (.int (Int32.ofNat mm))] 3) := ⟨_, rfl⟩
  rw [← hE0]
  have go0 : Go p e below E0 s₁ m 0 #[(sr b), (si (Int32.ofNat mm)), .unset] [] := fun tgt kq => by rw [hE0]; exact castTop (ef_CQ m b (Int32.ofNat mm)) kq
  have qq1 := own_kle cs cap
  have qq4 := own_cap_b hcap hmm
  have qq5 := own_kle cs (own_cap cap mm)
  obtain ⟨Eb0, Gv0, Gc0, Gn0, Gm0, Ab0⟩ := id B0
  have ne_b0 : b ≠ t := Exa.neArv Eb0 Ab0 (wd hw 147 rfl)
  have go1 : Go p e below E0 s₁ m 1 #[(sr b), (si (Int32.ofNat mm)), .unset] [(.ref b)] := fun tgt kq => go0 tgt (by
    refine XS.aloadN X0.here hx rfl (D 0 rfl) rfl rfl ?_; exact kq)
  obtain ⟨T2, X2, e2, go2⟩ := own_gF X0 hx hZ hown (wd hw 160 rfl) e0 Gv0 go1 (D 1 rfl)
  obtain ⟨c3, Ar3, q3, S3, M3, -, -⟩ := id Ab0
  have go4 : Go p e below E0 T2 m 6 #[(sr b), (si (Int32.ofNat mm)), .unset] [(.ref b), (.int (Int32.ofNat (own_k cs * cap)))] := fun tgt kq => go2 tgt (by
    refine X2.arraylength hx (by rw [e2]; exact Ar3.1) (State.isArrayOf_alike hZ.alike Ar3.2.1) (g := (mkF m 4 #[(sr b), (si (Int32.ofNat mm)), .unset] [(.ref t)])) rfl rfl (D 2 rfl) _ ?_; rw [len_of S3 M3]; refine XS.aloadN X2.here hx rfl (D 3 rfl) rfl rfl ?_; exact kq)
  obtain ⟨T5, X5, e5, go5⟩ := own_gF X2 hx hZ hown (wd hw 162 rfl) e2 Gc0 go4 (D 4 rfl)
  have go6 : Go p e below E0 T5 m 11 #[(sr b), (si (Int32.ofNat mm)), (si ((Int32.ofNat (own_k cs * cap)) >>> ((own_co cs) &&& 31)))] [] := fun tgt kq => go5 tgt (by
    refine XS.ishr X5.here hx rfl (D 5 rfl) rfl ?_; refine XS.istoreN X5.here hx rfl (D 6 rfl) rfl (l' := #[(sr b), (si (Int32.ofNat mm)), (si ((Int32.ofNat (own_k cs * cap)) >>> ((own_co cs) &&& 31)))]) rfl ?_; exact kq)
  have go7 : Go p e below E0 T5 m 11 #[(sr b), (si (Int32.ofNat mm)), (si (Int32.ofNat cap))] [] := by have q := go6; rw [show ((Int32.ofNat (own_k cs * cap)) >>> ((own_co cs) &&& 31)) = (Int32.ofNat cap) from own_lenk (by omega)] at q; exact q
  have go8 : Go p e below E0 T5 m 14 #[(sr b), (si (Int32.ofNat mm)), (si (Int32.ofNat cap))] [(.int ((Int32.ofNat mm) - (Int32.ofNat cap)))] := fun tgt kq => go7 tgt (by
    refine XS.iloadN X5.here hx rfl (D 7 rfl) rfl ?_; refine XS.iloadN X5.here hx rfl (D 8 rfl) rfl ?_; refine XS.isub X5.here hx rfl (D 9 rfl) rfl ?_; exact kq)
  by_cases u0 : mm ≤ cap
  · have go9 : Go p e below E0 T5 m 38 #[(sr b), (si (Int32.ofNat mm)), (si (Int32.ofNat cap))] [] := fun tgt kq => go8 tgt (by
      refine XS.ifYes X5.here hx rfl (pc0 := 14) (pc' := 38) rfl (D 10 rfl) rfl ((if0 _ _).trans (flt (own_le0 (by omega) u0)).2.2.2) (by decide) (by decide) ?_; exact kq)
    obtain ⟨fs, hr, hrun, hended, hW, hsame⟩ := X5.leave (v := none) (fun _ => rfl)
    refine ⟨_, _, go9 _ ?_, hrun, hended, _, _, rfl, ?_, ⟨_, rfl⟩, hW, hsame.mono (by decide) (by decide)⟩
    · exact X5.returnOut hx Bd.returns (D 11 rfl) hr
    · show QEC Z b t kb cap cs mm h0 n0 _ T5.heap _
      rw [e5]
      exact ⟨t, kb, rfl, N0, (Keep.refl h0 [b]), by rw [own_cap_le u0]; exact B0, gt, Or.inl rfl⟩
  · have qq6 := own_klt cs (Nat.lt_of_lt_of_le (Nat.lt_of_not_le u0) qq4.2.1)
    have go10 : Go p e below E0 T5 m 19 #[(sr b), (si (Int32.ofNat mm)), (si (Int32.ofNat cap))] [(.ref b), (.ref b)] := fun tgt kq => go8 tgt (by
      refine XS.ifNo X5.here hx rfl (D 10 rfl) rfl ((if0 _ _).trans (tlt (own_gt0 (by omega) (by omega))).2.2.2) ?_; refine XS.aloadN X5.here hx rfl (D 12 rfl) rfl rfl ?_; refine XS.aloadN X5.here hx rfl (D 13 rfl) rfl rfl ?_; exact kq)
    obtain ⟨T11, X11, e11, go11⟩ := own_gF X5 hx hZ hown (wd hw 160 rfl) e5 Gv0 go10 (D 14 rfl)
    have go12 : Go p e below E0 T11 m 24 #[(sr b), (si (Int32.ofNat mm)), (si (Int32.ofNat cap))] [(.int (Int32.ofNat mm)), (.ref b), (.ref t), (.ref b)] := fun tgt kq => go11 tgt (by
      refine XS.aloadN X11.here hx rfl (D 15 rfl) rfl rfl ?_; refine XS.iloadN X11.here hx rfl (D 16 rfl) rfl ?_; exact kq)
    obtain ⟨_, T13, L13, X13, hQ13, go13⟩ := own_cV X11 hx hZ hown (wd hw 347 rfl) (own_decl (wd hw 348 rfl) (wd hw 351 rfl)) (wd hw 350 rfl) (wd hw 348 rfl) (wd hw 156 rfl) (wd hw 351 rfl) (by decide) (W := 2) (rmNC l Z a0 hw [] b t kb cap cs mm h0 n0 Z0 B0 hcap hmm u0) (by decide) (by decide) e11 (by decide) (by decide) Eb0 go12 hml.symm (argsL := [(.int (Int32.ofNat mm))]) (rest := [(.ref t), (.ref b)]) (lenOf pd_1 rfl) rfl rfl rfl (D 17 rfl)
    obtain ⟨rfl, rfl, e13⟩ := hQ13
    have N13 := Fr.app N0 (Fr.nil n0)
    have go14 : Go p e below E0 T13 m 28 #[(sr b), (si (Int32.ofNat mm)), (si (Int32.ofNat cap))] [(.ref b), (.int (Int32.ofNat (own_cap cap mm))), (.ref t), (.ref b)] := fun tgt kq => go13 tgt (by
      refine XS.aloadN X13.here hx rfl (D 18 rfl) rfl rfl ?_; exact kq)
    obtain ⟨T15, X15, e15, go15⟩ := own_gF X13 hx hZ hown (wd hw 162 rfl) e13 Gc0 go14 (D 19 rfl)
    have go16 : Go p e below E0 T15 m 32 #[(sr b), (si (Int32.ofNat mm)), (si (Int32.ofNat cap))] [(.int ((Int32.ofNat (own_cap cap mm)) <<< ((own_co cs) &&& 31))), (.ref t), (.ref b)] := fun tgt kq => go15 tgt (by
      refine XS.ishl X15.here hx rfl (D 20 rfl) rfl ?_; exact kq)
    have go17 : Go p e below E0 T15 m 32 #[(sr b), (si (Int32.ofNat mm)), (si (Int32.ofNat cap))] [(.int (Int32.ofNat (own_k cs * own_cap cap mm))), (.ref t), (.ref b)] := by have q := go16; rw [show ((Int32.ofNat (own_cap cap mm)) <<< ((own_co cs) &&& 31)) = (Int32.ofNat (own_k cs * own_cap cap mm)) from own_shlk (by omega)] at q; exact q
    obtain ⟨_, T18, L18, X18, hQ18, go18⟩ := own_cS X15 hx hZ hown (wd hw 359 rfl) (wd hw 360 rfl) (wd hw 246 rfl) (wd hw 361 rfl) (by decide) (W := 1) (rmCQ l Z a0 hw [] t kb (own_k cs * cap) (own_by cs) (own_k cs * own_cap cap mm) h0 n0 Z0 Ab0 (by rw [own_by_len]; exact own_kle2 cs hcs) qq6 (by omega)) (by decide) (by decide) e15 (by decide) (by decide) go17 hml.symm (argsL := [(.ref t), (.int (Int32.ofNat (own_k cs * own_cap cap mm)))]) (rest := [(.ref b)]) (lenOf pd_38 rfl) rfl rfl rfl (D 21 rfl)
    obtain ⟨t2, kb2, rfl, N18q, Kq1, gq2, zq2, Aq2⟩ := hQ18
    have N18 := Fr.app N13 N18q
    have z19 : n0 ≤ T18.heap.size := Nat.le_trans Z0 Kq1.1
    have K20 : Keep h0 T18.heap [b] := (Keep.refl h0 [b]).trans Kq1 all0
    have ne_b_t2 : b ≠ t2 := Nat.ne_of_lt (Nat.lt_of_lt_of_le Eb0.lt zq2)
    have f21 : F4_ Z T18.heap b (.ref t) := (Gv0.keep Kq1 nin0)
    have f22 : E2_ Z T18.heap b := (Eb0.keep Kq1)
    obtain ⟨T23, h23, X23, e23, W23, st23⟩ := putF X18 hx hZ hown (host := "") (Or.inl (wd hw 160 rfl)) Via.refl rfl f21 f22 (Or.inl (wd hw 161 rfl)) (wd hw 147 rfl) (ty := (.array .byte)) (by decide) rfl rfl (g := (mkF m 35 #[(sr b), (si (Int32.ofNat mm)), (si (Int32.ofNat cap))] [(.ref t2), (.ref b)])) rfl rfl (D 22 rfl)
    have z24 : n0 ≤ h23.size := Nat.le_trans z19 (Keep.of_wr W23).1
    have K25 : Keep h0 h23 [b] := K20.wr W23 (Or.inl (List.mem_of_getElem? (i := 0) rfl))
    have N23 := Fr.snoc X23 N18 gb
    have f26 : F4_ Z h23 b (.ref t2) := (f21.same W23)
    have go23 : Go p e below E0 T23 m 38 #[(sr b), (si (Int32.ofNat mm)), (si (Int32.ofNat cap))] [] := fun a b => go18 a (st23 a b)
    have f27 : E2_ Z h23 b := (f22.wr W23)
    have f28 : F1_ Z h23 b (.int (own_co cs)) := ((Gc0.keep Kq1 nin0).other W23 (Or.inr (slot_ne (Or.inl (wd hw 163 rfl)) (Or.inl (wd hw 161 rfl)) (by decide) (t := .byte) (t' := (.array .byte)) (by decide) (by decide))))
    have f29 : F2_ Z h23 b (.int (Int32.ofNat cs.length)) := ((Gn0.keep Kq1 nin0).other W23 (Or.inr (slot_ne (Or.inl (wd hw 176 rfl)) (Or.inl (wd hw 161 rfl)) (by decide) (t := .int) (t' := (.array .byte)) (by decide) (by decide))))
    have f30 : F3_ Z h23 b (.int (0 : Int32)) := ((Gm0.keep Kq1 nin0).other W23 (Or.inr (slot_ne (Or.inl (wd hw 343 rfl)) (Or.inl (wd hw 161 rfl)) (by decide) (t := .boolean) (t' := (.array .byte)) (by decide) (by decide))))
    have f31 : Yb Z h23 t2 kb2 (Int32.ofNat (own_k cs * own_cap cap mm)) (own_by cs) := (Aq2.other W23 (Ne.symm ne_b_t2))
    obtain ⟨fs, hr, hrun, hended, hW, hsame⟩ := X23.leave (v := none) (fun _ => rfl)
    refine ⟨_, _, go23 _ ?_, hrun, hended, _, _, rfl, ?_, ⟨_, rfl⟩, hW, hsame.mono (by decide) (by decide)⟩
    · exact X23.returnOut hx Bd.returns (D 11 rfl) hr
    · show QEC Z b t kb cap cs mm h0 n0 _ T23.heap _
      rw [e23]
      exact ⟨t2, kb2, rfl, N23, K25, ⟨f27, f26, f28, f29, f30, f31⟩, gq2, Or.inr zq2⟩
def QFS (Z : State) (of : Nat) (n : Nat) (md : Nat) (fv : Value) (h0 : Heap) (n0 : Nat) (v : Option Value) (h : Heap) (L : List Loc) : Prop := v = some (.int (Int32.ofNat of)) ∧ L = [] ∧ h = h0
abbrev RmFS : Room := ({ frames := 0, cells := 0, slots := 0, locals := 0 } : Room)
theorem rmFS (l : Launch) (Z : State) (a0 : Array Value) (hw : Tb a0 Z) (ws : List Jvm.Cond) (of : Nat) (n : Nat) (md : Nat) (fv : Value) (h0 : Heap) (n0 : Nat) (Z0 : n0 ≤ h0.size) (hfv : fv.isRef = true) (hfit : of + n ≤ md) (hmd : md ≤ 1040) :
    Met l Z h0 (⟨"jdk/internal/util/Preconditions", "checkFromIndexSize", "(IIILjava/util/function/BiFunction;)I"⟩ : MethodName) jdk_41_method_13_code 4 (some .int) RmFS ws #[(.int (Int32.ofNat of)), (.int (Int32.ofNat n)), (.int (Int32.ofNat md)), fv] (QFS Z of n md fv h0 n0) := by
  refine MetFree.of_bodySF (plainFor_of_name pn_10) hisR ?_
  intro p e s m args below meth c s₁ Bd hml0 hP hK
  obtain ⟨rfl, hZ, hh⟩ := hP
  have hx := Bd.exec
  have hby := Bd.bytes
  have D := dl hby d54_
  have hml : c.maxLocals = 4 := hml0
  have hown : s.vm.findClass "jdk/internal/util/Preconditions" = some m.cls := findClass_of_methodNamed Bd.named
  have hnm := (name_of_methodNamed Bd.named Bd.method).1
  have X0 : Stand p l e RmFS s m #[(.int (Int32.ofNat of)), (.int (Int32.ofNat n)), (.int (Int32.ofNat md)), fv] below meth c s₁ [] 0 0 := Stand.of_body Bd
  have e0 : s₁.heap = h0 := by rw [← hh, Bd.state]; rfl
  have N0 := Fr.nil n0
  obtain ⟨E0, hE0⟩ : ∃ z, z = s₁.setTop (entryFrame m #[(.int (Int32.ofNat of)), (.int (Int32.ofNat n)), (.int (Int32.ofNat md)), fv] 4) := ⟨_, rfl⟩
  rw [← hE0]
  have go0 : Go p e below E0 s₁ m 0 #[(si (Int32.ofNat of)), (si (Int32.ofNat n)), (si (Int32.ofNat md)), .val fv] [] := fun tgt kq => by rw [hE0]; exact castTop (ef_FT m (Int32.ofNat of) (Int32.ofNat n) (Int32.ofNat md) fv hfv) kq
  have go1 : Go p e below E0 s₁ m 12 #[(si (Int32.ofNat of)), (si (Int32.ofNat n)), (si (Int32.ofNat md)), .val fv] [(.int ((Int32.ofNat md) - (Int32.ofNat of))), (.int (Int32.ofNat n))] := fun tgt kq => go0 tgt (by
    refine XS.iloadN X0.here hx rfl (D 0 rfl) rfl ?_; refine XS.iloadN X0.here hx rfl (D 1 rfl) rfl ?_; refine XS.ior X0.here hx rfl (D 2 rfl) rfl ?_; refine XS.iloadN X0.here hx rfl (D 3 rfl) rfl ?_; refine XS.ior X0.here hx rfl (D 4 rfl) rfl ?_; refine XS.ifNo X0.here hx rfl (D 5 rfl) rfl ((if0 _ _).trans (flt (own_or (own_or (own_nn (by omega)) (own_nn (by omega))) (own_nn (by omega)))).1) ?_; refine XS.iloadN X0.here hx rfl (D 6 rfl) rfl ?_; refine XS.iloadN X0.here hx rfl (D 7 rfl) rfl ?_; refine XS.iloadN X0.here hx rfl (D 8 rfl) rfl ?_; refine XS.isub X0.here hx rfl (D 9 rfl) rfl ?_; exact kq)
  have go2 : Go p e below E0 s₁ m 12 #[(si (Int32.ofNat of)), (si (Int32.ofNat n)), (si (Int32.ofNat md)), .val fv] [(.int (Int32.ofNat (md - of))), (.int (Int32.ofNat n))] := by have q := go1; rw [show ((Int32.ofNat md) - (Int32.ofNat of)) = (Int32.ofNat (md - of)) from own_sub (by omega)] at q; exact q
  have go3 : Go p e below E0 s₁ m 24 #[(si (Int32.ofNat of)), (si (Int32.ofNat n)), (si (Int32.ofNat md)), .val fv] [(.int (Int32.ofNat of))] := fun tgt kq => go2 tgt (by
    refine XS.icmpYes X0.here hx rfl (pc0 := 12) (pc' := 23) rfl (D 10 rfl) rfl (flt (own_nlt (by omega) (by omega))).2.2.2 (by decide) (by decide) ?_; refine XS.iloadN X0.here hx rfl (D 11 rfl) rfl ?_; exact kq)
  obtain ⟨fs, hr, hrun, hended, hW, hsame⟩ := X0.leave (v := some (.int (Int32.ofNat of))) (fun h => by rw [Bd.returns] at h; cases h)
  refine ⟨_, _, go3 _ ?_, hrun, hended, _, _, rfl, ?_, ⟨_, rfl⟩, hW, hsame.mono (by decide) (by decide)⟩
  · exact retOut X0 hx Bd.returns rfl (Or.inl ⟨rfl, Or.inl rfl, _, rfl⟩) (D 12 rfl) hr
  · show QFS Z of n md fv h0 n0 _ s₁.heap _
    rw [e0]
    exact ⟨rfl, rfl, rfl⟩
def QSO (Z : State) (of : Nat) (n : Nat) (md : Nat) (G : Int32) (fv : Value) (h0 : Heap) (n0 : Nat) (v : Option Value) (h : Heap) (L : List Loc) : Prop := v = some (.int (Int32.ofNat of)) ∧ L = [] ∧ h = h0
abbrev RmSO : Room := ({ frames := 1, cells := 0, slots := 0, locals := 15 } : Room)
theorem rmSO (l : Launch) (Z : State) (a0 : Array Value) (hw : Tb a0 Z) (ws : List Jvm.Cond) (of : Nat) (n : Nat) (md : Nat) (G : Int32) (fv : Value) (h0 : Heap) (n0 : Nat) (Z0 : n0 ≤ h0.size) (hfit : of + n ≤ md) (hmd : md ≤ 1040) (W0 : own_W Z G fv) (O0 : own_O Z n0 h0) :
    Met l Z h0 (⟨"java/lang/String", "checkBoundsOffCount", "(III)I"⟩ : MethodName) jdk_42_method_157_code 3 (some .int) RmSO ws #[(.int (Int32.ofNat of)), (.int (Int32.ofNat n)), (.int (Int32.ofNat md))] (QSO Z of n md G fv h0 n0) := by
  refine MetFree.of_bodySF (plainFor_of_name pn_8) hisR ?_
  intro p e s m args below meth c s₁ Bd hml0 hP hK
  obtain ⟨rfl, hZ, hh⟩ := hP
  have hx := Bd.exec
  have hby := Bd.bytes
  have D := dl hby d55_
  have hml : c.maxLocals = 3 := hml0
  have hown : s.vm.findClass "java/lang/String" = some m.cls := findClass_of_methodNamed Bd.named
  have hnm := (name_of_methodNamed Bd.named Bd.method).1
  have X0 : Stand p l e RmSO s m #[(.int (Int32.ofNat of)), (.int (Int32.ofNat n)), (.int (Int32.ofNat md))] below meth c s₁ [] 0 0 := Stand.of_body Bd
  have e0 : s₁.heap = h0 := by rw [← hh, Bd.state]; rfl
  have N0 := Fr.nil n0
  obtain ⟨E0, hE0⟩ : ∃ z, z = s₁.setTop (entryFrame m #[(.int (Int32.ofNat of)), (.int (Int32.ofNat n)), (.int (Int32.ofNat md))] 3) := ⟨_, rfl⟩
  rw [← hE0]
  have go0 : Go p e below E0 s₁ m 0 #[(si (Int32.ofNat of)), (si (Int32.ofNat n)), (si (Int32.ofNat md))] [] := fun tgt kq => by rw [hE0]; exact castTop (ef_SE m (Int32.ofNat of) (Int32.ofNat n) (Int32.ofNat md)) kq
  have hfv := W0.2.2.2.1
  have go1 : Go p e below E0 s₁ m 3 #[(si (Int32.ofNat of)), (si (Int32.ofNat n)), (si (Int32.ofNat md))] [(.int (Int32.ofNat md)), (.int (Int32.ofNat n)), (.int (Int32.ofNat of))] := fun tgt kq => go0 tgt (by
    refine XS.iloadN X0.here hx rfl (D 0 rfl) rfl ?_; refine XS.iloadN X0.here hx rfl (D 1 rfl) rfl ?_; refine XS.iloadN X0.here hx rfl (D 2 rfl) rfl ?_; exact kq)
  obtain ⟨T2, X2, e2, st2⟩ := getS2 X0 hx hZ hown (host := "") (Or.inl (wd hw 81 rfl)) Via.refl e0 (W0.2.2.1.ext O0.2) (g := (mkF m 3 #[(si (Int32.ofNat of)), (si (Int32.ofNat n)), (si (Int32.ofNat md))] [(.int (Int32.ofNat md)), (.int (Int32.ofNat n)), (.int (Int32.ofNat of))])) rfl (D 3 rfl)
  have go2 : Go p e below E0 T2 m 6 #[(si (Int32.ofNat of)), (si (Int32.ofNat n)), (si (Int32.ofNat md))] [fv, (.int (Int32.ofNat md)), (.int (Int32.ofNat n)), (.int (Int32.ofNat of))] := fun a b => go1 a (st2 a b)
  obtain ⟨_, T3, L3, X3, hQ3, go3⟩ := own_cS X2 hx hZ hown (wd hw 335 rfl) (wd hw 336 rfl) (wd hw 82 rfl) (wd hw 337 rfl) (by decide) (W := 0) (rmFS l Z a0 hw [] of n md fv h0 n0 Z0 hfv hfit hmd) (by decide) (by decide) e2 (by decide) (by decide) go2 hml.symm (argsL := [(.int (Int32.ofNat of)), (.int (Int32.ofNat n)), (.int (Int32.ofNat md)), fv]) (rest := []) (lenOf pd_25 rfl) rfl rfl rfl (D 4 rfl)
  obtain ⟨rfl, rfl, e3⟩ := hQ3
  have N3 := Fr.app N0 (Fr.nil n0)
  obtain ⟨fs, hr, hrun, hended, hW, hsame⟩ := X3.leave (v := some (.int (Int32.ofNat of))) (fun h => by rw [Bd.returns] at h; cases h)
  refine ⟨_, _, go3 _ ?_, hrun, hended, _, _, rfl, ?_, ⟨_, rfl⟩, hW, hsame.mono (by decide) (by decide)⟩
  · exact retOut X3 hx Bd.returns rfl (Or.inl ⟨rfl, Or.inl rfl, _, rfl⟩) (D 5 rfl) hr
  · show QSO Z of n md G fv h0 n0 _ T3.heap _
    rw [e3]
    exact ⟨rfl, rfl, rfl⟩
def QUO (Z : State) (of : Nat) (n : Nat) (t : Addr) (kb : ClassId) (md : Nat) (bs : List Value) (G : Int32) (fv : Value) (h0 : Heap) (n0 : Nat) (v : Option Value) (h : Heap) (L : List Loc) : Prop := v = none ∧ L = [] ∧ h = h0
abbrev RmUO : Room := ({ frames := 2, cells := 0, slots := 0, locals := 29 } : Room)
theorem rmUO (l : Launch) (Z : State) (a0 : Array Value) (hw : Tb a0 Z) (ws : List Jvm.Cond) (of : Nat) (n : Nat) (t : Addr) (kb : ClassId) (md : Nat) (bs : List Value) (G : Int32) (fv : Value) (h0 : Heap) (n0 : Nat) (Z0 : n0 ≤ h0.size) (A0 : Yb Z h0 t kb (Int32.ofNat (2 * md)) bs) (hfit : of + n ≤ md) (hmd : md ≤ 1040) (W0 : own_W Z G fv) (O0 : own_O Z n0 h0) :
    Met l Z h0 (⟨"java/lang/StringUTF16", "checkBoundsOffCount", "(II[B)V"⟩ : MethodName) jdk_52_method_94_code 3 none RmUO ws #[(.int (Int32.ofNat of)), (.int (Int32.ofNat n)), (.ref t)] (QUO Z of n t kb md bs G fv h0 n0) := by
  refine MetFree.of_bodySF (plainFor_of_name pn_0) hisR ?_
  intro p e s m args below meth c s₁ Bd hml0 hP hK
  obtain ⟨rfl, hZ, hh⟩ := hP
  have hx := Bd.exec
  have hby := Bd.bytes
  have D := dl hby d56_
  have hml : c.maxLocals = 3 := hml0
  have hown : s.vm.findClass "java/lang/StringUTF16" = some m.cls := findClass_of_methodNamed Bd.named
  have hnm := (name_of_methodNamed Bd.named Bd.method).1
  have X0 : Stand p l e RmUO s m #[(.int (Int32.ofNat of)), (.int (Int32.ofNat n)), (.ref t)] below meth c s₁ [] 0 0 := Stand.of_body Bd
  have e0 : s₁.heap = h0 := by rw [← hh, Bd.state]; rfl
  have N0 := Fr.nil n0
  obtain ⟨E0, hE0⟩ : ∃ z, z = s₁.setTop (entryFrame m #[(.int (Int32.ofNat of)), (.int (Int32.ofNat n)), (.ref t)] 3) := ⟨_, rfl⟩
  rw [← hE0]
  have go0 : Go p e below E0 s₁ m 0 #[(si (Int32.ofNat of)), (si (Int32.ofNat n)), (sr t)] [] := fun tgt kq => by rw [hE0]; exact castTop (ef_UE m (Int32.ofNat of) (Int32.ofNat n) t) kq
  have go1 : Go p e below E0 s₁ m 3 #[(si (Int32.ofNat of)), (si (Int32.ofNat n)), (sr t)] [(.ref t), (.int (Int32.ofNat n)), (.int (Int32.ofNat of))] := fun tgt kq => go0 tgt (by
    refine XS.iloadN X0.here hx rfl (D 0 rfl) rfl ?_; refine XS.iloadN X0.here hx rfl (D 1 rfl) rfl ?_; refine XS.aloadN X0.here hx rfl (D 2 rfl) rfl rfl ?_; exact kq)
  obtain ⟨_, T2, L2, X2, hQ2, go2⟩ := own_cS X0 hx hZ hown (wd hw 290 rfl) (wd hw 291 rfl) (wd hw 26 rfl) (wd hw 292 rfl) (by decide) (W := 2) (rmUL l Z a0 hw [] t kb (Int32.ofNat (2 * md)) bs (Int32.ofNat md) h0 n0 Z0 A0 (own_shr (by omega))) (by decide) (by decide) e0 (by decide) (by decide) go1 hml.symm (argsL := [(.ref t)]) (rest := [(.int (Int32.ofNat n)), (.int (Int32.ofNat of))]) (lenOf pd_14 rfl) rfl rfl rfl (D 3 rfl)
  obtain ⟨rfl, rfl, e2⟩ := hQ2
  have N2 := Fr.app N0 (Fr.nil n0)
  obtain ⟨_, T3, L3, X3, hQ3, go3⟩ := own_cS X2 hx hZ hown (wd hw 332 rfl) (wd hw 333 rfl) (wd hw 11 rfl) (wd hw 334 rfl) (by decide) (W := 0) (rmSO l Z a0 hw [] of n md G fv h0 n0 Z0 hfit hmd W0 O0) (by decide) (by decide) e2 (by decide) (by decide) go2 hml.symm (argsL := [(.int (Int32.ofNat of)), (.int (Int32.ofNat n)), (.int (Int32.ofNat md))]) (rest := []) (lenOf pd_35 rfl) rfl rfl rfl (D 4 rfl)
  obtain ⟨rfl, rfl, e3⟩ := hQ3
  have N3 := Fr.app N2 (Fr.nil n0)
  have go4 : Go p e below E0 T3 m 10 #[(si (Int32.ofNat of)), (si (Int32.ofNat n)), (sr t)] [] := fun tgt kq => go3 tgt (by
    refine XS.pop X3.here hx rfl (D 5 rfl) rfl rfl ?_; exact kq)
  obtain ⟨fs, hr, hrun, hended, hW, hsame⟩ := X3.leave (v := none) (fun _ => rfl)
  refine ⟨_, _, go4 _ ?_, hrun, hended, _, _, rfl, ?_, ⟨_, rfl⟩, hW, hsame.mono (by decide) (by decide)⟩
  · exact X3.returnOut hx Bd.returns (D 6 rfl) hr
  · show QUO Z of n t kb md bs G fv h0 n0 _ T3.heap _
    rw [e3]
    exact ⟨rfl, rfl, rfl⟩
theorem ef_IN (m : MethodId) (x0 : Addr) (x1 : Int32) (x2 : Addr) (x3 : Int32) (x4 : Int32) : entryFrame m #[(.ref x0), (.int x1), (.ref x2), (.int x3), (.int x4)] 6 = mkF m 0 #[.val (.ref x0), .val (.int x1), .val (.ref x2), .val (.int x3), .val (.int x4), .unset] [] := by first | (simp [entryFrame, mkF, argsToLocals, Value.category, maxLocals]; done) | rfl
def QIN (Z : State) (sa : Addr) (ka : ClassId) (sl : Nat) (ds : List Int32) (da : Addr) (kd : ClassId) (md : Nat) (pre : List Int32) (of : Nat) (G : Int32) (fv : Value) (h0 : Heap) (n0 : Nat) (v : Option Value) (h : Heap) (L : List Loc) : Prop := v = none ∧ Fr n0 L ∧ Keep h0 h [da] ∧ Yb Z h da kd (Int32.ofNat (2 * md)) (own_flat (pre ++ ds))
abbrev RmIN : Room := ({ frames := 3, cells := 0, slots := 0, locals := 43 } : Room)
theorem rmIN (l : Launch) (Z : State) (a0 : Array Value) (hw : Tb a0 Z) (ws : List Jvm.Cond) (sa : Addr) (ka : ClassId) (sl : Nat) (ds : List Int32) (da : Addr) (kd : ClassId) (md : Nat) (pre : List Int32) (of : Nat) (G : Int32) (fv : Value) (h0 : Heap) (n0 : Nat) (Z0 : n0 ≤ h0.size) (As : Yb Z h0 sa ka (Int32.ofNat sl) (own_lats ds)) (Ad : Yb Z h0 da kd (Int32.ofNat (2 * md)) (own_flat pre)) (gd : n0 ≤ da) (nsd : sa ≠ da) (hof : of = pre.length) (hds : ds.length ≤ sl) (hsl : sl ≤ 1040) (hfit : of + ds.length ≤ md) (hmd : md ≤ 1040) (hl1 : own_l1 ds = true) (hwf : ∀ c ∈ ds, own_ch c) (W0 : own_W Z G fv) (O0 : own_O Z n0 h0) :
    Met l Z h0 (⟨"java/lang/StringUTF16", "inflate", "([BI[BII)V"⟩ : MethodName) jdk_52_method_86_code 6 none RmIN ws #[(.ref sa), (.int (0 : Int32)), (.ref da), (.int (Int32.ofNat of)), (.int (Int32.ofNat ds.length))] (QIN Z sa ka sl ds da kd md pre of G fv h0 n0) := by
  refine MetFree.of_bodySF (plainFor_of_name pn_0) hisR ?_
  intro p e s m args below meth c s₁ Bd hml0 hP hK
  obtain ⟨rfl, hZ, hh⟩ := hP
  have hx := Bd.exec
  have hby := Bd.bytes
  have D := dl hby d57_
  have hml : c.maxLocals = 6 := hml0
  have hown : s.vm.findClass "java/lang/StringUTF16" = some m.cls := findClass_of_methodNamed Bd.named
  have hnm := (name_of_methodNamed Bd.named Bd.method).1
  have X0 : Stand p l e RmIN s m #[(.ref sa), (.int (0 : Int32)), (.ref da), (.int (Int32.ofNat of)), (.int (Int32.ofNat ds.length))] below meth c s₁ [] 0 0 := Stand.of_body Bd
  have e0 : s₁.heap = h0 := by rw [← hh, Bd.state]; rfl
  have N0 := Fr.nil n0
  obtain ⟨E0, hE0⟩ : ∃ z, z = s₁.setTop (entryFrame m #[(.ref sa), (.int (0 : Int32)), (.ref da), (.int (Int32.ofNat of)), (.int (Int32.ofNat ds.length))] 6) := ⟨_, rfl⟩
  rw [← hE0]
  have go0 : Go p e below E0 s₁ m 0 #[(sr sa), (si 0), (sr da), (si (Int32.ofNat of)), (si (Int32.ofNat ds.length)), .unset] [] := fun tgt kq => by rw [hE0]; exact castTop (ef_IN m sa (0 : Int32) da (Int32.ofNat of) (Int32.ofNat ds.length)) kq
  have go1 : Go p e below E0 s₁ m 4 #[(sr sa), (si 0), (sr da), (si (Int32.ofNat of)), (si (Int32.ofNat ds.length)), .unset] [(.ref da), (.int (Int32.ofNat ds.length)), (.int (Int32.ofNat of))] := fun tgt kq => go0 tgt (by
    refine XS.iloadN X0.here hx rfl (D 0 rfl) rfl ?_; refine XS.iload X0.here hx rfl (D 1 rfl) rfl ?_; refine XS.aloadN X0.here hx rfl (D 2 rfl) rfl rfl ?_; exact kq)
  obtain ⟨_, T2, L2, X2, hQ2, go2⟩ := own_cS X0 hx hZ hown (wd hw 329 rfl) (wd hw 330 rfl) (wd hw 26 rfl) (wd hw 331 rfl) (by decide) (W := 0) (rmUO l Z a0 hw [] of ds.length da kd md (own_flat pre) G fv h0 n0 Z0 Ad hfit hmd W0 O0) (by decide) (by decide) e0 (by decide) (by decide) go1 hml.symm (argsL := [(.int (Int32.ofNat of)), (.int (Int32.ofNat ds.length)), (.ref da)]) (rest := []) (lenOf pd_30 rfl) rfl rfl rfl (D 3 rfl)
  obtain ⟨rfl, rfl, e2⟩ := hQ2
  have N2 := Fr.app N0 (Fr.nil n0)
  have go3 : Go p e below E0 T2 m 10 #[(sr sa), (si 0), (sr da), (si (Int32.ofNat of)), (si (Int32.ofNat ds.length)), (si 0)] [] := fun tgt kq => go2 tgt (by
    refine XS.iconst X2.here hx rfl (D 4 rfl) ?_; refine XS.istore X2.here hx rfl (D 5 rfl) rfl (l' := #[(sr sa), (si 0), (sr da), (si (Int32.ofNat of)), (si (Int32.ofNat ds.length)), (si 0)]) rfl ?_; exact kq)
  obtain ⟨d, k, hk, T4, h4, l4, X4, e4, N4, z4, K4, F4_0, F4_1, F4_2, go4⟩ : ∃ (d k : Nat), k + d = ds.length ∧ ∃ (T4 : State) (h4 : Heap) (l4 : List Loc), Stand p l e RmIN s m #[(.ref sa), (.int (0 : Int32)), (.ref da), (.int (Int32.ofNat of)), (.int (Int32.ofNat ds.length))] below meth c T4 l4 0 0 ∧ T4.heap = h4 ∧ Fr n0 l4 ∧ n0 ≤ h4.size ∧ Keep h0 h4 [da] ∧ own_O Z n0 h4 ∧ Yb Z h4 sa ka (Int32.ofNat sl) (own_lats ds) ∧ Yb Z h4 da kd (Int32.ofNat (2 * md)) (own_flat (pre ++ ds.take k)) ∧ Go p e below E0 T4 m 10 #[(sr sa), (si (Int32.ofNat k)), (sr da), (si (Int32.ofNat (of + k))), (si (Int32.ofNat ds.length)), (si (Int32.ofNat k))] [] := ⟨ds.length, 0, Nat.zero_add _, T2, h0, _, X2, e2, N2, Z0, (Keep.refl h0 [da]), O0, As, (by rw [List.take_zero, List.append_nil]; exact Ad), fun tgt kq => go3 tgt kq⟩
  induction d generalizing k T4 h4 l4
  case zero =>
    have ek : k = ds.length := hk
    have go5 : Go p e below E0 T4 m 41 #[(sr sa), (si (Int32.ofNat k)), (sr da), (si (Int32.ofNat (of + k))), (si (Int32.ofNat ds.length)), (si (Int32.ofNat k))] [] := fun tgt kq => go4 tgt (by
      refine XS.iload X4.here hx rfl (D 6 rfl) rfl ?_; refine XS.iload X4.here hx rfl (D 7 rfl) rfl ?_; refine XS.icmpYes X4.here hx rfl (pc0 := 14) (pc' := 41) rfl (D 8 rfl) rfl (flt (own_nlt (by omega) (by omega))).2.1 (by decide) (by decide) ?_; exact kq)
    obtain ⟨fs, hr, hrun, hended, hW, hsame⟩ := X4.leave (v := none) (fun _ => rfl)
    refine ⟨_, _, go5 _ ?_, hrun, hended, _, _, rfl, ?_, ⟨_, rfl⟩, hW, hsame.mono (by decide) (by decide)⟩
    · exact X4.returnOut hx Bd.returns (D 9 rfl) hr
    · show QIN Z sa ka sl ds da kd md pre of G fv h0 n0 _ T4.heap _
      rw [e4]
      exact ⟨rfl, N4, K4, by have q := F4_2; rw [ek, List.take_length] at q; exact q⟩
  case succ d ih =>
    obtain ⟨cc, hcc⟩ : ∃ cc, ds[k]? = some cc := ⟨_, List.getElem?_eq_getElem (by omega)⟩
    have hm := List.mem_of_getElem? hcc
    have go6 : Go p e below E0 T4 m 27 #[(sr sa), (si ((Int32.ofNat k) + (1 : Int32))), (sr da), (si ((Int32.ofNat (of + k)) + (1 : Int32))), (si (Int32.ofNat ds.length)), (si (Int32.ofNat k))] [(.int (Int32.ofNat k)), (.ref sa), (.int (Int32.ofNat (of + k))), (.ref da)] := fun tgt kq => go4 tgt (by
      refine XS.iload X4.here hx rfl (D 6 rfl) rfl ?_; refine XS.iload X4.here hx rfl (D 7 rfl) rfl ?_; refine XS.icmpNo X4.here hx rfl (D 8 rfl) rfl (tlt (own_lt (by omega) (by omega))).2.1 ?_; refine XS.aloadN X4.here hx rfl (D 10 rfl) rfl rfl ?_; refine XS.iloadN X4.here hx rfl (D 11 rfl) rfl ?_; refine XS.iinc X4.here hx rfl (D 12 rfl) rfl (l' := #[(sr sa), (si (Int32.ofNat k)), (sr da), (si ((Int32.ofNat (of + k)) + (1 : Int32))), (si (Int32.ofNat ds.length)), (si (Int32.ofNat k))]) rfl ?_; refine XS.aloadN X4.here hx rfl (D 13 rfl) rfl rfl ?_; refine XS.iloadN X4.here hx rfl (D 14 rfl) rfl ?_; refine XS.iinc X4.here hx rfl (D 15 rfl) rfl (l' := #[(sr sa), (si ((Int32.ofNat k) + (1 : Int32))), (sr da), (si ((Int32.ofNat (of + k)) + (1 : Int32))), (si (Int32.ofNat ds.length)), (si (Int32.ofNat k))]) rfl ?_; exact kq)
    obtain ⟨c7, Ar7, q7, S7, M7, Hh7, G7⟩ := id F4_1
    have hin7 : ¬ ((Int32.ofNat k) < 0 ∨ c7.slots.size ≤ ((Int32.ofNat k)).toNatClampNeg) := inb_of S7 ⟨own_nn (by omega), own_lt (by omega) (by omega)⟩
    have hat7 : c7.slots[((Int32.ofNat k)).toNatClampNeg]? = some (.int (own_lo cc)) := Hh7.at hin7 (by rw [own_cl (by omega)]; exact own_lats_at hcc)
    have go8 : Go p e below E0 T4 m 32 #[(sr sa), (si ((Int32.ofNat k) + (1 : Int32))), (sr da), (si ((Int32.ofNat (of + k)) + (1 : Int32))), (si (Int32.ofNat ds.length)), (si (Int32.ofNat k))] [(.int ((own_lo cc) &&& (255 : Int32))), (.int (Int32.ofNat (of + k))), (.ref da)] := fun tgt kq => go6 tgt (by
      refine X4.baloadBytes hx (j := (Int32.ofNat k)) (v := (.int (own_lo cc))) (by rw [e4]; exact Ar7.1) (State.isArrayOf_alike hZ.alike Ar7.2.1) Ar7.2.2 hin7 hat7 (g := (mkF m 27 #[(sr sa), (si ((Int32.ofNat k) + (1 : Int32))), (sr da), (si ((Int32.ofNat (of + k)) + (1 : Int32))), (si (Int32.ofNat ds.length)), (si (Int32.ofNat k))] [(.int (Int32.ofNat k)), (.ref sa), (.int (Int32.ofNat (of + k))), (.ref da)])) rfl rfl (D 16 rfl) _ ?_; refine XS.sipush X4.here hx rfl (D 17 rfl) ?_; refine XS.iand X4.here hx rfl (D 18 rfl) rfl ?_; exact kq)
    have go9 : Go p e below E0 T4 m 32 #[(sr sa), (si ((Int32.ofNat k) + (1 : Int32))), (sr da), (si ((Int32.ofNat (of + k)) + (1 : Int32))), (si (Int32.ofNat ds.length)), (si (Int32.ofNat k))] [(.int cc), (.int (Int32.ofNat (of + k))), (.ref da)] := by have q := go8; rw [show ((own_lo cc) &&& (255 : Int32)) = cc from (own_lo255 (hwf _ hm).1 (own_l1_iff.mp hl1 _ hm))] at q; exact q
    obtain ⟨_, T10, L10, X10, hQ10, go10⟩ := own_cS X4 hx hZ hown (wd hw 275 rfl) (wd hw 276 rfl) (wd hw 26 rfl) (wd hw 277 rfl) (by decide) (W := 0) (rmPU l Z a0 hw [] da kd md (of + k) (pre ++ ds.take k) cc G fv h4 n0 z4 F4_2 gd (by rw [List.length_append, List.length_take]; omega) (by omega) (by omega) W0 F4_0) (by decide) (by decide) e4 (by decide) (by decide) go9 hml.symm (argsL := [(.ref da), (.int (Int32.ofNat (of + k))), (.int cc)]) (rest := []) (lenOf pd_3 rfl) rfl rfl rfl (D 19 rfl)
    obtain ⟨rfl, N10q, Kp, Ap⟩ := hQ10
    have N10 := Fr.app N4 N10q
    have z11 : n0 ≤ T10.heap.size := Nat.le_trans z4 Kp.1
    have K12 : Keep h0 T10.heap [da] := K4.trans Kp (allS (Or.inl (List.mem_of_getElem? (i := 0) rfl)) all0)
    have go13 : Go p e below E0 T10 m 10 #[(sr sa), (si ((Int32.ofNat k) + (1 : Int32))), (sr da), (si ((Int32.ofNat (of + k)) + (1 : Int32))), (si (Int32.ofNat ds.length)), (si ((Int32.ofNat k) + (1 : Int32)))] [] := fun tgt kq => go10 tgt (by
      refine XS.iinc X10.here hx rfl (D 20 rfl) rfl (l' := #[(sr sa), (si ((Int32.ofNat k) + (1 : Int32))), (sr da), (si ((Int32.ofNat (of + k)) + (1 : Int32))), (si (Int32.ofNat ds.length)), (si ((Int32.ofNat k) + (1 : Int32)))]) rfl ?_; refine XS.goto X10.here hx rfl (pc0 := 38) (pc' := 10) rfl (D 21 rfl) (by decide) (by decide) ?_; exact kq)
    have f14 : own_O Z n0 T10.heap := (F4_0.keep Kp (allS gd all0))
    have f15 : Yb Z T10.heap sa ka (Int32.ofNat sl) (own_lats ds) := (F4_1.keep Kp (ninS nsd nin0))
    exact ih (k + 1) (by omega) _ _ _ X10 rfl N10 z11 K12 f14 f15 (by rw [own_take_snoc hcc, ← List.append_assoc]; exact Ap) (by rw [own_succ k, own_succ (of + k), Nat.add_assoc of k 1] at go13; exact go13)
theorem pd_39 : parseMethodDescriptor "([BI[BII)V" = some ⟨[(.array .byte), .int, (.array .byte), .int, .int], none⟩ := by decide +kernel
theorem ef_SF (m : MethodId) (x0 : Addr) (x1 : Int32) (x2 : Addr) (x3 : Int32) (x4 : Int32) : entryFrame m #[(.ref x0), (.int x1), (.ref x2), (.int x3), (.int x4)] 5 = mkF m 0 #[.val (.ref x0), .val (.int x1), .val (.ref x2), .val (.int x3), .val (.int x4)] [] := by first | (simp [entryFrame, mkF, argsToLocals, Value.category, maxLocals]; done) | rfl
def QSF (Z : State) (sa : Addr) (ka : ClassId) (sl : Nat) (ds : List Int32) (da : Addr) (kd : ClassId) (md : Nat) (pre : List Int32) (of : Nat) (G : Int32) (fv : Value) (h0 : Heap) (n0 : Nat) (v : Option Value) (h : Heap) (L : List Loc) : Prop := v = none ∧ Fr n0 L ∧ Keep h0 h [da] ∧ Yb Z h da kd (Int32.ofNat (2 * md)) (own_flat (pre ++ ds))
abbrev RmSF : Room := ({ frames := 4, cells := 0, slots := 0, locals := 60 } : Room)
theorem rmSF (l : Launch) (Z : State) (a0 : Array Value) (hw : Tb a0 Z) (ws : List Jvm.Cond) (sa : Addr) (ka : ClassId) (sl : Nat) (ds : List Int32) (da : Addr) (kd : ClassId) (md : Nat) (pre : List Int32) (of : Nat) (G : Int32) (fv : Value) (h0 : Heap) (n0 : Nat) (Z0 : n0 ≤ h0.size) (As : Yb Z h0 sa ka (Int32.ofNat sl) (own_lats ds)) (Ad : Yb Z h0 da kd (Int32.ofNat (2 * md)) (own_flat pre)) (gd : n0 ≤ da) (nsd : sa ≠ da) (hof : of = pre.length) (hds : ds.length ≤ sl) (hsl : sl ≤ 1040) (hfit : of + ds.length ≤ md) (hmd : md ≤ 1040) (hl1 : own_l1 ds = true) (hwf : ∀ c ∈ ds, own_ch c) (W0 : own_W Z G fv) (O0 : own_O Z n0 h0) :
    Met l Z h0 (⟨"java/lang/StringLatin1", "inflate", "([BI[BII)V"⟩ : MethodName) jdk_43_method_50_code 5 none RmSF ws #[(.ref sa), (.int (0 : Int32)), (.ref da), (.int (Int32.ofNat of)), (.int (Int32.ofNat ds.length))] (QSF Z sa ka sl ds da kd md pre of G fv h0 n0) := by
  refine MetFree.of_bodySF (plainFor_of_name pn_13) hisR ?_
  intro p e s m args below meth c s₁ Bd hml0 hP hK
  obtain ⟨rfl, hZ, hh⟩ := hP
  have hx := Bd.exec
  have hby := Bd.bytes
  have D := dl hby d58_
  have hml : c.maxLocals = 5 := hml0
  have hown : s.vm.findClass "java/lang/StringLatin1" = some m.cls := findClass_of_methodNamed Bd.named
  have hnm := (name_of_methodNamed Bd.named Bd.method).1
  have X0 : Stand p l e RmSF s m #[(.ref sa), (.int (0 : Int32)), (.ref da), (.int (Int32.ofNat of)), (.int (Int32.ofNat ds.length))] below meth c s₁ [] 0 0 := Stand.of_body Bd
  have e0 : s₁.heap = h0 := by rw [← hh, Bd.state]; rfl
  have N0 := Fr.nil n0
  obtain ⟨E0, hE0⟩ : ∃ z, z = s₁.setTop (entryFrame m #[(.ref sa), (.int (0 : Int32)), (.ref da), (.int (Int32.ofNat of)), (.int (Int32.ofNat ds.length))] 5) := ⟨_, rfl⟩
  rw [← hE0]
  have go0 : Go p e below E0 s₁ m 0 #[(sr sa), (si 0), (sr da), (si (Int32.ofNat of)), (si (Int32.ofNat ds.length))] [] := fun tgt kq => by rw [hE0]; exact castTop (ef_SF m sa (0 : Int32) da (Int32.ofNat of) (Int32.ofNat ds.length)) kq
  have go1 : Go p e below E0 s₁ m 6 #[(sr sa), (si 0), (sr da), (si (Int32.ofNat of)), (si (Int32.ofNat ds.length))] [(.int (Int32.ofNat ds.length)), (.int (Int32.ofNat of)), (.ref da), (.int 0), (.ref sa)] := fun tgt kq => go0 tgt (by
    refine XS.aloadN X0.here hx rfl (D 0 rfl) rfl rfl ?_; refine XS.iloadN X0.here hx rfl (D 1 rfl) rfl ?_; refine XS.aloadN X0.here hx rfl (D 2 rfl) rfl rfl ?_; refine XS.iloadN X0.here hx rfl (D 3 rfl) rfl ?_; refine XS.iload X0.here hx rfl (D 4 rfl) rfl ?_; exact kq)
  obtain ⟨_, T2, L2, X2, hQ2, go2⟩ := own_cS X0 hx hZ hown (wd hw 326 rfl) (wd hw 327 rfl) (wd hw 26 rfl) (wd hw 328 rfl) (by decide) (W := 0) (rmIN l Z a0 hw [] sa ka sl ds da kd md pre of G fv h0 n0 Z0 As Ad gd nsd hof hds hsl hfit hmd hl1 hwf W0 O0) (by decide) (by decide) e0 (by decide) (by decide) go1 hml.symm (argsL := [(.ref sa), (.int 0), (.ref da), (.int (Int32.ofNat of)), (.int (Int32.ofNat ds.length))]) (rest := []) (lenOf pd_39 rfl) rfl rfl rfl (D 5 rfl)
  obtain ⟨rfl, N2q, Kq1, Aq1⟩ := hQ2
  have N2 := Fr.app N0 N2q
  have z3 : n0 ≤ T2.heap.size := Nat.le_trans Z0 Kq1.1
  have K4 : Keep h0 T2.heap [da] := (Keep.refl h0 [da]).trans Kq1 (allS (Or.inl (List.mem_of_getElem? (i := 0) rfl)) all0)
  obtain ⟨fs, hr, hrun, hended, hW, hsame⟩ := X2.leave (v := none) (fun _ => rfl)
  refine ⟨_, _, go2 _ ?_, hrun, hended, _, _, rfl, ?_, ⟨_, rfl⟩, hW, hsame.mono (by decide) (by decide)⟩
  · exact X2.returnOut hx Bd.returns (D 6 rfl) hr
  · show QSF Z sa ka sl ds da kd md pre of G fv h0 n0 _ T2.heap _
    exact ⟨rfl, N2, K4, Aq1⟩
theorem ef_BF (m : MethodId) (x0 : Addr) : entryFrame m #[(.ref x0)] 2 = mkF m 0 #[.val (.ref x0), .unset] [] := by first | (simp [entryFrame, mkF, argsToLocals, Value.category, maxLocals]; done) | rfl
def QBF (Z : State) (b : Addr) (t : Addr) (kb : ClassId) (cap : Nat) (cs : List Int32) (G : Int32) (fv : Value) (h0 : Heap) (n0 : Nat) (v : Option Value) (h : Heap) (L : List Loc) : Prop := ∃ (t2 : Addr) (kb2 : ClassId), v = none ∧ Fr n0 L ∧ Keep h0 h [b] ∧ own_B Z h b t2 kb2 (2 * cap) 1 (own_flat cs) cs.length ∧ n0 ≤ t2 ∧ h0.size ≤ t2
abbrev RmBF : Room := ({ frames := 5, cells := 1, slots := 1040, locals := 76 } : Room)
theorem rmBF (l : Launch) (Z : State) (a0 : Array Value) (hw : Tb a0 Z) (ws : List Jvm.Cond) (b : Addr) (t : Addr) (kb : ClassId) (cap : Nat) (cs : List Int32) (G : Int32) (fv : Value) (h0 : Heap) (n0 : Nat) (Z0 : n0 ≤ h0.size) (B0 : own_B Z h0 b t kb cap 0 (own_lats cs) cs.length) (gb : n0 ≤ b) (gt : n0 ≤ t) (hcap : cap ≤ 517) (hcs : cs.length ≤ cap) (hl1 : own_l1 cs = true) (hwf : ∀ c ∈ cs, own_ch c) (W0 : own_W Z G fv) (O0 : own_O Z n0 h0) :
    Met l Z h0 y9_ jdk_68_method_11_code 2 none RmBF ws #[(.ref b)] (QBF Z b t kb cap cs G fv h0 n0) := by
  refine MetFree.of_bodySF (plainFor_of_name pn_16) hisR ?_
  intro p e s m args below meth c s₁ Bd hml0 hP hK
  obtain ⟨rfl, hZ, hh⟩ := hP
  have hx := Bd.exec
  have hby := Bd.bytes
  have D := dl hby d59_
  have hml : c.maxLocals = 2 := hml0
  have hown : s.vm.findClass "java/lang/AbstractStringBuilder" = some m.cls := findClass_of_methodNamed Bd.named
  have hnm := (name_of_methodNamed Bd.named Bd.method).1
  have X0 : Stand p l e RmBF s m #[(.ref b)] below meth c s₁ [] 0 0 := Stand.of_body Bd
  have e0 : s₁.heap = h0 := by rw [← hh, Bd.state]; rfl
  have N0 := Fr.nil n0
  obtain ⟨E0, hE0⟩ : ∃ z, z = s₁.setTop (entryFrame m #[(.ref b)] 2) := ⟨_, rfl⟩
  rw [← hE0]
  have go0 : Go p e below E0 s₁ m 0 #[(sr b), .unset] [] := fun tgt kq => by rw [hE0]; exact castTop (ef_BF m b) kq
  obtain ⟨Eb0, Gv0, Gc0, Gn0, Gm0, Ab0⟩ := id B0
  have ne_b0 : b ≠ t := Exa.neArv Eb0 Ab0 (wd hw 147 rfl)
  have go1 : Go p e below E0 s₁ m 1 #[(sr b), .unset] [(.ref b)] := fun tgt kq => go0 tgt (by
    refine XS.aloadN X0.here hx rfl (D 0 rfl) rfl rfl ?_; exact kq)
  obtain ⟨_, T2, L2, X2, hQ2, go2⟩ := own_cV X0 hx hZ hown (wd hw 212 rfl) (wd hw 213 rfl) (wd hw 215 rfl) (wd hw 214 rfl) (wd hw 156 rfl) (wd hw 216 rfl) (by decide) (W := 0) (rmBL0 l Z a0 hw [] b G fv h0 n0 Z0 Gc0 W0 O0) (by decide) (by decide) e0 (by decide) (by decide) Eb0 go1 hml.symm (argsL := []) (rest := []) (lenOf pd_18 rfl) rfl rfl rfl (D 1 rfl)
  obtain ⟨rfl, rfl, e2⟩ := hQ2
  have N2 := Fr.app N0 (Fr.nil n0)
  have go3 : Go p e below E0 T2 m 9 #[(sr b), .unset] [(.ref b)] := fun tgt kq => go2 tgt (by
    refine XS.ifYes X2.here hx rfl (pc0 := 4) (pc' := 8) rfl (D 2 rfl) rfl ((if0 _ _).trans (feq (by decide)).2) (by decide) (by decide) ?_; refine XS.aloadN X2.here hx rfl (D 3 rfl) rfl rfl ?_; exact kq)
  obtain ⟨T4, X4, e4, go4⟩ := own_gF X2 hx hZ hown (wd hw 160 rfl) e2 Gv0 go3 (D 4 rfl)
  obtain ⟨c5, Ar5, q5, S5, M5, -, -⟩ := id Ab0
  have go6 : Go p e below E0 T4 m 13 #[(sr b), .unset] [(.int (Int32.ofNat cap))] := fun tgt kq => go4 tgt (by
    refine X4.arraylength hx (by rw [e4]; exact Ar5.1) (State.isArrayOf_alike hZ.alike Ar5.2.1) (g := (mkF m 12 #[(sr b), .unset] [(.ref t)])) rfl rfl (D 5 rfl) _ ?_; rw [len_of S5 M5]; exact kq)
  obtain ⟨_, T7, L7, X7, hQ7, go7⟩ := own_cS X4 hx hZ hown (wd hw 322 rfl) (wd hw 269 rfl) (wd hw 26 rfl) (wd hw 270 rfl) (by decide) (W := 0) (rmNF520 l Z a0 hw [] cap h0 n0 Z0 (by omega)) (by decide) (by decide) e4 (by decide) (by decide) go6 hml.symm (argsL := [(.int (Int32.ofNat cap))]) (rest := []) (lenOf pd_2 rfl) rfl rfl rfl (D 6 rfl)
  obtain ⟨kn, rfl, N7q, Kq1, Aq1⟩ := hQ7
  have N7 := Fr.app N2 N7q
  obtain ⟨t2, g7⟩ : ∃ z, z = h0.size := ⟨_, rfl⟩
  rw [← g7] at go7 Aq1
  have ne_b_t2 : b ≠ t2 := Nat.ne_of_lt (Nat.lt_of_lt_of_le Eb0.lt (Nat.le_of_eq g7.symm))
  have ne_t_t2 : t ≠ t2 := Nat.ne_of_lt (Nat.lt_of_lt_of_le Ab0.lt (Nat.le_of_eq g7.symm))
  have ge_t2 : n0 ≤ t2 := Nat.le_trans Z0 (Nat.le_of_eq g7.symm)
  have hz_t2 : h0.size ≤ t2 := Nat.le_trans (Keep.refl h0 [b]).1 (Nat.le_of_eq g7.symm)
  have z8 : n0 ≤ T7.heap.size := Nat.le_trans Z0 Kq1.1
  have K9 : Keep h0 T7.heap [b] := (Keep.refl h0 [b]).trans Kq1 all0
  have go10 : Go p e below E0 T7 m 18 #[(sr b), (sr t2)] [(.ref b)] := fun tgt kq => go7 tgt (by
    refine XS.astoreN X7.here hx rfl (D 7 rfl) rfl rfl (l' := #[(sr b), (sr t2)]) rfl ?_; refine XS.aloadN X7.here hx rfl (D 8 rfl) rfl rfl ?_; exact kq)
  have f11 : F4_ Z T7.heap b (.ref t) := (Gv0.keep Kq1 nin0)
  obtain ⟨T12, X12, e12, go12⟩ := own_gF X7 hx hZ hown (wd hw 160 rfl) rfl f11 go10 (D 9 rfl)
  have go13 : Go p e below E0 T12 m 25 #[(sr b), (sr t2)] [(.ref b), (.int 0), (.ref t2), (.int 0), (.ref t)] := fun tgt kq => go12 tgt (by
    refine XS.iconst X12.here hx rfl (D 10 rfl) ?_; refine XS.aloadN X12.here hx rfl (D 11 rfl) rfl rfl ?_; refine XS.iconst X12.here hx rfl (D 12 rfl) ?_; refine XS.aloadN X12.here hx rfl (D 13 rfl) rfl rfl ?_; exact kq)
  have f14 : F2_ Z T7.heap b (.int (Int32.ofNat cs.length)) := (Gn0.keep Kq1 nin0)
  obtain ⟨T15, X15, e15, go15⟩ := own_gF X12 hx hZ hown (wd hw 175 rfl) e12 f14 go13 (D 14 rfl)
  have f16 : Yb Z T7.heap t kb (Int32.ofNat cap) (own_lats cs) := (Ab0.keep Kq1 nin0)
  have f17 : own_O Z n0 T7.heap := (O0.keep Kq1 all0)
  obtain ⟨_, T18, L18, X18, hQ18, go18⟩ := own_cS X15 hx hZ hown (wd hw 323 rfl) (wd hw 324 rfl) (wd hw 76 rfl) (wd hw 325 rfl) (by decide) (W := 0) (rmSF l Z a0 hw [] t kb cap cs t2 kn cap ([] : List Int32) 0 G fv T7.heap n0 z8 f16 Aq1 ge_t2 ne_t_t2 rfl hcs (by omega) (by omega) (by omega) hl1 hwf W0 f17) (by decide) (by decide) e15 (by decide) (by decide) go15 hml.symm (argsL := [(.ref t), (.int 0), (.ref t2), (.int 0), (.int (Int32.ofNat cs.length))]) (rest := []) (lenOf pd_39 rfl) rfl rfl rfl (D 15 rfl)
  obtain ⟨rfl, N18q, Kq2, Aq2⟩ := hQ18
  have N18 := Fr.app N7 N18q
  have z19 : n0 ≤ T18.heap.size := Nat.le_trans z8 Kq2.1
  have K20 : Keep h0 T18.heap [b] := K9.trans Kq2 (allS (Or.inr hz_t2) all0)
  have go21 : Go p e below E0 T18 m 33 #[(sr b), (sr t2)] [(.ref t2), (.ref b)] := fun tgt kq => go18 tgt (by
    refine XS.aloadN X18.here hx rfl (D 16 rfl) rfl rfl ?_; refine XS.aloadN X18.here hx rfl (D 17 rfl) rfl rfl ?_; exact kq)
  have f22 : F4_ Z T18.heap b (.ref t) := (f11.keep Kq2 (ninS ne_b_t2 nin0))
  have f23 : E2_ Z T18.heap b := ((Eb0.keep Kq1).keep Kq2)
  obtain ⟨T24, h24, X24, e24, W24, st24⟩ := putF X18 hx hZ hown (host := "") (Or.inl (wd hw 160 rfl)) Via.refl rfl f22 f23 (Or.inl (wd hw 161 rfl)) (wd hw 147 rfl) (ty := (.array .byte)) (by decide) rfl rfl (g := (mkF m 33 #[(sr b), (sr t2)] [(.ref t2), (.ref b)])) rfl rfl (D 18 rfl)
  have z25 : n0 ≤ h24.size := Nat.le_trans z19 (Keep.of_wr W24).1
  have K26 : Keep h0 h24 [b] := K20.wr W24 (Or.inl (List.mem_of_getElem? (i := 0) rfl))
  have N24 := Fr.snoc X24 N18 gb
  have f27 : F4_ Z h24 b (.ref t2) := (f22.same W24)
  have go24 : Go p e below E0 T24 m 36 #[(sr b), (sr t2)] [] := fun a b => go21 a (st24 a b)
  have go28 : Go p e below E0 T24 m 38 #[(sr b), (sr t2)] [(.int 1), (.ref b)] := fun tgt kq => go24 tgt (by
    refine XS.aloadN X24.here hx rfl (D 19 rfl) rfl rfl ?_; refine XS.iconst X24.here hx rfl (D 20 rfl) ?_; exact kq)
  have f29 : F1_ Z h24 b (.int (0 : Int32)) := (((Gc0.keep Kq1 nin0).keep Kq2 (ninS ne_b_t2 nin0)).other W24 (Or.inr (slot_ne (Or.inl (wd hw 163 rfl)) (Or.inl (wd hw 161 rfl)) (by decide) (t := .byte) (t' := (.array .byte)) (by decide) (by decide))))
  have f30 : E2_ Z h24 b := (f23.wr W24)
  obtain ⟨T31, h31, X31, e31, W31, st31⟩ := putF X24 hx hZ hown (host := "") (Or.inl (wd hw 162 rfl)) Via.refl e24 f29 f30 (Or.inl (wd hw 163 rfl)) (wd hw 147 rfl) (ty := .byte) (by decide) rfl rfl (g := (mkF m 38 #[(sr b), (sr t2)] [(.int 1), (.ref b)])) rfl rfl (D 21 rfl)
  have z32 : n0 ≤ h31.size := Nat.le_trans z25 (Keep.of_wr W31).1
  have K33 : Keep h0 h31 [b] := K26.wr W31 (Or.inl (List.mem_of_getElem? (i := 0) rfl))
  have N31 := Fr.snoc X31 N24 gb
  have f34 : F1_ Z h31 b (.int (1 : Int32)) := (f29.same W31)
  have go31 : Go p e below E0 T31 m 41 #[(sr b), (sr t2)] [] := fun a b => go28 a (st31 a b)
  have f35 : E2_ Z h31 b := (f30.wr W31)
  have f36 : F4_ Z h31 b (.ref t2) := (f27.other W31 (Or.inr (slot_ne (Or.inl (wd hw 161 rfl)) (Or.inl (wd hw 163 rfl)) (by decide) (t := (.array .byte)) (t' := .byte) (by decide) (by decide))))
  have f37 : F2_ Z h31 b (.int (Int32.ofNat cs.length)) := (((f14.keep Kq2 (ninS ne_b_t2 nin0)).other W24 (Or.inr (slot_ne (Or.inl (wd hw 176 rfl)) (Or.inl (wd hw 161 rfl)) (by decide) (t := .int) (t' := (.array .byte)) (by decide) (by decide)))).other W31 (Or.inr (slot_ne (Or.inl (wd hw 176 rfl)) (Or.inl (wd hw 163 rfl)) (by decide) (t := .int) (t' := .byte) (by decide) (by decide))))
  have f38 : F3_ Z h31 b (.int (0 : Int32)) := ((((Gm0.keep Kq1 nin0).keep Kq2 (ninS ne_b_t2 nin0)).other W24 (Or.inr (slot_ne (Or.inl (wd hw 343 rfl)) (Or.inl (wd hw 161 rfl)) (by decide) (t := .boolean) (t' := (.array .byte)) (by decide) (by decide)))).other W31 (Or.inr (slot_ne (Or.inl (wd hw 343 rfl)) (Or.inl (wd hw 163 rfl)) (by decide) (t := .boolean) (t' := .byte) (by decide) (by decide))))
  have f39 : Yb Z h31 t2 kn (Int32.ofNat (2 * cap)) (own_flat cs) := ((Aq2.other W24 (Ne.symm ne_b_t2)).other W31 (Ne.symm ne_b_t2))
  obtain ⟨fs, hr, hrun, hended, hW, hsame⟩ := X31.leave (v := none) (fun _ => rfl)
  refine ⟨_, _, go31 _ ?_, hrun, hended, _, _, rfl, ?_, ⟨_, rfl⟩, hW, hsame.mono (by decide) (by decide)⟩
  · exact X31.returnOut hx Bd.returns (D 22 rfl) hr
  · show QBF Z b t kb cap cs G fv h0 n0 _ T31.heap _
    rw [e31]
    exact ⟨t2, kn, rfl, N31, K33, ⟨f35, f36, f34, f37, f38, f39⟩, ge_t2, hz_t2⟩
def QBN (Z : State) (b : Addr) (G : Int32) (fv : Value) (h0 : Heap) (n0 : Nat) (v : Option Value) (h : Heap) (L : List Loc) : Prop := v = none ∧ L = [] ∧ h = h0
abbrev RmBN : Room := ({ frames := 1, cells := 0, slots := 0, locals := 12 } : Room)
theorem rmBN (l : Launch) (Z : State) (a0 : Array Value) (hw : Tb a0 Z) (ws : List Jvm.Cond) (b : Addr) (G : Int32) (fv : Value) (h0 : Heap) (n0 : Nat) (Z0 : n0 ≤ h0.size) (Eb0 : E2_ Z h0 b) (Gc0 : F1_ Z h0 b (.int (1 : Int32))) (W0 : own_W Z G fv) (O0 : own_O Z n0 h0) :
    Met l Z h0 y9_ jdk_68_method_11_code 2 none RmBN ws #[(.ref b)] (QBN Z b G fv h0 n0) := by
  refine MetFree.of_bodySF (plainFor_of_name pn_16) hisR ?_
  intro p e s m args below meth c s₁ Bd hml0 hP hK
  obtain ⟨rfl, hZ, hh⟩ := hP
  have hx := Bd.exec
  have hby := Bd.bytes
  have D := dl hby d59_
  have hml : c.maxLocals = 2 := hml0
  have hown : s.vm.findClass "java/lang/AbstractStringBuilder" = some m.cls := findClass_of_methodNamed Bd.named
  have hnm := (name_of_methodNamed Bd.named Bd.method).1
  have X0 : Stand p l e RmBN s m #[(.ref b)] below meth c s₁ [] 0 0 := Stand.of_body Bd
  have e0 : s₁.heap = h0 := by rw [← hh, Bd.state]; rfl
  have N0 := Fr.nil n0
  obtain ⟨E0, hE0⟩ : ∃ z, z = s₁.setTop (entryFrame m #[(.ref b)] 2) := ⟨_, rfl⟩
  rw [← hE0]
  have go0 : Go p e below E0 s₁ m 0 #[(sr b), .unset] [] := fun tgt kq => by rw [hE0]; exact castTop (ef_BF m b) kq
  have go1 : Go p e below E0 s₁ m 1 #[(sr b), .unset] [(.ref b)] := fun tgt kq => go0 tgt (by
    refine XS.aloadN X0.here hx rfl (D 0 rfl) rfl rfl ?_; exact kq)
  obtain ⟨_, T2, L2, X2, hQ2, go2⟩ := own_cV X0 hx hZ hown (wd hw 212 rfl) (wd hw 213 rfl) (wd hw 215 rfl) (wd hw 214 rfl) (wd hw 156 rfl) (wd hw 216 rfl) (by decide) (W := 0) (rmBL1 l Z a0 hw [] b G fv h0 n0 Z0 Gc0 W0 O0) (by decide) (by decide) e0 (by decide) (by decide) Eb0 go1 hml.symm (argsL := []) (rest := []) (lenOf pd_18 rfl) rfl rfl rfl (D 1 rfl)
  obtain ⟨rfl, rfl, e2⟩ := hQ2
  have N2 := Fr.app N0 (Fr.nil n0)
  have go3 : Go p e below E0 T2 m 7 #[(sr b), .unset] [] := fun tgt kq => go2 tgt (by
    refine XS.ifNo X2.here hx rfl (D 2 rfl) rfl ((if0 _ _).trans (teq rfl).2) ?_; exact kq)
  obtain ⟨fs, hr, hrun, hended, hW, hsame⟩ := X2.leave (v := none) (fun _ => rfl)
  refine ⟨_, _, go3 _ ?_, hrun, hended, _, _, rfl, ?_, ⟨_, rfl⟩, hW, hsame.mono (by decide) (by decide)⟩
  · exact X2.returnOut hx Bd.returns (D 23 rfl) hr
  · show QBN Z b G fv h0 n0 _ T2.heap _
    rw [e2]
    exact ⟨rfl, rfl, rfl⟩
def QIS (Z : State) (b : Addr) (x : Addr) (co : Int32) (G : Int32) (fv : Value) (h0 : Heap) (n0 : Nat) (v : Option Value) (h : Heap) (L : List Loc) : Prop := v = none ∧ L = [] ∧ h = h0
abbrev RmIS : Room := ({ frames := 1, cells := 0, slots := 0, locals := 13 } : Room)
theorem rmIS (l : Launch) (Z : State) (a0 : Array Value) (hw : Tb a0 Z) (ws : List Jvm.Cond) (b : Addr) (x : Addr) (co : Int32) (G : Int32) (fv : Value) (h0 : Heap) (n0 : Nat) (Z0 : n0 ≤ h0.size) (Eb0 : E2_ Z h0 b) (Gc0 : F1_ Z h0 b (.int co)) (Ex : E1_ Z h0 x) (Fc : F5_ Z h0 x (.int co)) (hn : nar .byte co = co) (W0 : own_W Z G fv) (O0 : own_O Z n0 h0) :
    Met l Z h0 y3_ jdk_68_method_71_code 2 none RmIS ws #[(.ref b), (.ref x)] (QIS Z b x co G fv h0 n0) := by
  refine MetFree.of_bodySF (plainFor_of_name pn_16) hisR ?_
  intro p e s m args below meth c s₁ Bd hml0 hP hK
  obtain ⟨rfl, hZ, hh⟩ := hP
  have hx := Bd.exec
  have hby := Bd.bytes
  have D := dl hby d60_
  have hml : c.maxLocals = 2 := hml0
  have hown : s.vm.findClass "java/lang/AbstractStringBuilder" = some m.cls := findClass_of_methodNamed Bd.named
  have hnm := (name_of_methodNamed Bd.named Bd.method).1
  have X0 : Stand p l e RmIS s m #[(.ref b), (.ref x)] below meth c s₁ [] 0 0 := Stand.of_body Bd
  have e0 : s₁.heap = h0 := by rw [← hh, Bd.state]; rfl
  have N0 := Fr.nil n0
  obtain ⟨E0, hE0⟩ : ∃ z, z = s₁.setTop (entryFrame m #[(.ref b), (.ref x)] 2) := ⟨_, rfl⟩
  rw [← hE0]
  have go0 : Go p e below E0 s₁ m 0 #[(sr b), (sr x)] [] := fun tgt kq => by rw [hE0]; exact castTop (ef_N520 m b x) kq
  obtain ⟨T1, X1, e1, st1⟩ := getS2 X0 hx hZ hown (host := "") (Or.inl (wd hw 159 rfl)) Via.refl e0 (W0.1.ext O0.2) (g := (mkF m 0 #[(sr b), (sr x)] [])) rfl (D 0 rfl)
  have go1 : Go p e below E0 T1 m 3 #[(sr b), (sr x)] [(.int G)] := fun a b => go0 a (st1 a b)
  have go2 : Go p e below E0 T1 m 7 #[(sr b), (sr x)] [(.ref b)] := fun tgt kq => go1 tgt (by
    refine XS.ifNo X1.here hx rfl (D 1 rfl) rfl ((if0 _ _).trans (feq W0.2.1).1) ?_; refine XS.aloadN X1.here hx rfl (D 2 rfl) rfl rfl ?_; exact kq)
  obtain ⟨T3, X3, e3, go3⟩ := own_gF X1 hx hZ hown (wd hw 162 rfl) e1 Gc0 go2 (D 3 rfl)
  have go4 : Go p e below E0 T3 m 11 #[(sr b), (sr x)] [(.ref x), (.int co)] := fun tgt kq => go3 tgt (by
    refine XS.aloadN X3.here hx rfl (D 4 rfl) rfl rfl ?_; exact kq)
  obtain ⟨_, T5, L5, X5, hQ5, go5⟩ := own_cV X3 hx hZ hown (wd hw 192 rfl) (wd hw 60 rfl) (wd hw 62 rfl) (wd hw 61 rfl) (wd hw 11 rfl) (wd hw 63 rfl) (by decide) (W := 1) (rmCO l Z a0 hw [] x co G fv h0 n0 Z0 Fc hn W0 O0) (by decide) (by decide) e3 (by decide) (by decide) Ex go4 hml.symm (argsL := []) (rest := [(.int co)]) (lenOf pd_17 rfl) rfl rfl rfl (D 5 rfl)
  obtain ⟨rfl, rfl, e5⟩ := hQ5
  have N5 := Fr.app N0 (Fr.nil n0)
  have go6 : Go p e below E0 T5 m 21 #[(sr b), (sr x)] [] := fun tgt kq => go5 tgt (by
    refine XS.icmpYes X5.here hx rfl (pc0 := 14) (pc' := 21) rfl (D 6 rfl) rfl (teq rfl).1 (by decide) (by decide) ?_; exact kq)
  obtain ⟨fs, hr, hrun, hended, hW, hsame⟩ := X5.leave (v := none) (fun _ => rfl)
  refine ⟨_, _, go6 _ ?_, hrun, hended, _, _, rfl, ?_, ⟨_, rfl⟩, hW, hsame.mono (by decide) (by decide)⟩
  · exact X5.returnOut hx Bd.returns (D 7 rfl) hr
  · show QIS Z b x co G fv h0 n0 _ T5.heap _
    rw [e5]
    exact ⟨rfl, rfl, rfl⟩
theorem pd_40 : parseMethodDescriptor "()V" = some ⟨[], none⟩ := by decide +kernel
def QIM (Z : State) (b : Addr) (x : Addr) (G : Int32) (fv : Value) (h0 : Heap) (n0 : Nat) (v : Option Value) (h : Heap) (L : List Loc) : Prop := v = none ∧ L = [] ∧ h = h0
abbrev RmIM : Room := ({ frames := 2, cells := 0, slots := 0, locals := 25 } : Room)
theorem rmIM (l : Launch) (Z : State) (a0 : Array Value) (hw : Tb a0 Z) (ws : List Jvm.Cond) (b : Addr) (x : Addr) (G : Int32) (fv : Value) (h0 : Heap) (n0 : Nat) (Z0 : n0 ≤ h0.size) (Eb0 : E2_ Z h0 b) (Gc0 : F1_ Z h0 b (.int (1 : Int32))) (Ex : E1_ Z h0 x) (Fc : F5_ Z h0 x (.int (0 : Int32))) (W0 : own_W Z G fv) (O0 : own_O Z n0 h0) :
    Met l Z h0 y3_ jdk_68_method_71_code 2 none RmIM ws #[(.ref b), (.ref x)] (QIM Z b x G fv h0 n0) := by
  refine MetFree.of_bodySF (plainFor_of_name pn_16) hisR ?_
  intro p e s m args below meth c s₁ Bd hml0 hP hK
  obtain ⟨rfl, hZ, hh⟩ := hP
  have hx := Bd.exec
  have hby := Bd.bytes
  have D := dl hby d60_
  have hml : c.maxLocals = 2 := hml0
  have hown : s.vm.findClass "java/lang/AbstractStringBuilder" = some m.cls := findClass_of_methodNamed Bd.named
  have hnm := (name_of_methodNamed Bd.named Bd.method).1
  have X0 : Stand p l e RmIM s m #[(.ref b), (.ref x)] below meth c s₁ [] 0 0 := Stand.of_body Bd
  have e0 : s₁.heap = h0 := by rw [← hh, Bd.state]; rfl
  have N0 := Fr.nil n0
  obtain ⟨E0, hE0⟩ : ∃ z, z = s₁.setTop (entryFrame m #[(.ref b), (.ref x)] 2) := ⟨_, rfl⟩
  rw [← hE0]
  have go0 : Go p e below E0 s₁ m 0 #[(sr b), (sr x)] [] := fun tgt kq => by rw [hE0]; exact castTop (ef_N520 m b x) kq
  obtain ⟨T1, X1, e1, st1⟩ := getS2 X0 hx hZ hown (host := "") (Or.inl (wd hw 159 rfl)) Via.refl e0 (W0.1.ext O0.2) (g := (mkF m 0 #[(sr b), (sr x)] [])) rfl (D 0 rfl)
  have go1 : Go p e below E0 T1 m 3 #[(sr b), (sr x)] [(.int G)] := fun a b => go0 a (st1 a b)
  have go2 : Go p e below E0 T1 m 7 #[(sr b), (sr x)] [(.ref b)] := fun tgt kq => go1 tgt (by
    refine XS.ifNo X1.here hx rfl (D 1 rfl) rfl ((if0 _ _).trans (feq W0.2.1).1) ?_; refine XS.aloadN X1.here hx rfl (D 2 rfl) rfl rfl ?_; exact kq)
  obtain ⟨T3, X3, e3, go3⟩ := own_gF X1 hx hZ hown (wd hw 162 rfl) e1 Gc0 go2 (D 3 rfl)
  have go4 : Go p e below E0 T3 m 11 #[(sr b), (sr x)] [(.ref x), (.int 1)] := fun tgt kq => go3 tgt (by
    refine XS.aloadN X3.here hx rfl (D 4 rfl) rfl rfl ?_; exact kq)
  obtain ⟨_, T5, L5, X5, hQ5, go5⟩ := own_cV X3 hx hZ hown (wd hw 192 rfl) (wd hw 60 rfl) (wd hw 62 rfl) (wd hw 61 rfl) (wd hw 11 rfl) (wd hw 63 rfl) (by decide) (W := 1) (rmCO l Z a0 hw [] x (0 : Int32) G fv h0 n0 Z0 Fc (by decide) W0 O0) (by decide) (by decide) e3 (by decide) (by decide) Ex go4 hml.symm (argsL := []) (rest := [(.int 1)]) (lenOf pd_17 rfl) rfl rfl rfl (D 5 rfl)
  obtain ⟨rfl, rfl, e5⟩ := hQ5
  have N5 := Fr.app N0 (Fr.nil n0)
  have go6 : Go p e below E0 T5 m 18 #[(sr b), (sr x)] [(.ref b)] := fun tgt kq => go5 tgt (by
    refine XS.icmpNo X5.here hx rfl (D 6 rfl) rfl (feq (by decide)).1 ?_; refine XS.aloadN X5.here hx rfl (D 8 rfl) rfl rfl ?_; exact kq)
  obtain ⟨_, T7, L7, X7, hQ7, go7⟩ := own_cV X5 hx hZ hown (wd hw 317 rfl) (own_decl (wd hw 318 rfl) (wd hw 321 rfl)) (wd hw 320 rfl) (wd hw 318 rfl) (wd hw 156 rfl) (wd hw 321 rfl) (by decide) (W := 0) (rmBN l Z a0 hw [] b G fv h0 n0 Z0 Eb0 Gc0 W0 O0) (by decide) (by decide) e5 (by decide) (by decide) Eb0 go6 hml.symm (argsL := []) (rest := []) (lenOf pd_40 rfl) rfl rfl rfl (D 9 rfl)
  obtain ⟨rfl, rfl, e7⟩ := hQ7
  have N7 := Fr.app N5 (Fr.nil n0)
  obtain ⟨fs, hr, hrun, hended, hW, hsame⟩ := X7.leave (v := none) (fun _ => rfl)
  refine ⟨_, _, go7 _ ?_, hrun, hended, _, _, rfl, ?_, ⟨_, rfl⟩, hW, hsame.mono (by decide) (by decide)⟩
  · exact X7.returnOut hx Bd.returns (D 7 rfl) hr
  · show QIM Z b x G fv h0 n0 _ T7.heap _
    rw [e7]
    exact ⟨rfl, rfl, rfl⟩
def QIW (Z : State) (b : Addr) (t : Addr) (kb : ClassId) (cap : Nat) (cs : List Int32) (x : Addr) (G : Int32) (fv : Value) (h0 : Heap) (n0 : Nat) (v : Option Value) (h : Heap) (L : List Loc) : Prop := ∃ (t2 : Addr) (kb2 : ClassId), v = none ∧ Fr n0 L ∧ Keep h0 h [b] ∧ own_B Z h b t2 kb2 (2 * cap) 1 (own_flat cs) cs.length ∧ n0 ≤ t2 ∧ h0.size ≤ t2
abbrev RmIW : Room := ({ frames := 6, cells := 1, slots := 1040, locals := 89 } : Room)
theorem rmIW (l : Launch) (Z : State) (a0 : Array Value) (hw : Tb a0 Z) (ws : List Jvm.Cond) (b : Addr) (t : Addr) (kb : ClassId) (cap : Nat) (cs : List Int32) (x : Addr) (G : Int32) (fv : Value) (h0 : Heap) (n0 : Nat) (Z0 : n0 ≤ h0.size) (B0 : own_B Z h0 b t kb cap 0 (own_lats cs) cs.length) (gb : n0 ≤ b) (gt : n0 ≤ t) (hcap : cap ≤ 517) (hcs : cs.length ≤ cap) (hl1 : own_l1 cs = true) (hwf : ∀ c ∈ cs, own_ch c) (Ex : E1_ Z h0 x) (Fc : F5_ Z h0 x (.int (1 : Int32))) (W0 : own_W Z G fv) (O0 : own_O Z n0 h0) :
    Met l Z h0 y3_ jdk_68_method_71_code 2 none RmIW ws #[(.ref b), (.ref x)] (QIW Z b t kb cap cs x G fv h0 n0) := by
  refine MetFree.of_bodySF (plainFor_of_name pn_16) hisR ?_
  intro p e s m args below meth c s₁ Bd hml0 hP hK
  obtain ⟨rfl, hZ, hh⟩ := hP
  have hx := Bd.exec
  have hby := Bd.bytes
  have D := dl hby d60_
  have hml : c.maxLocals = 2 := hml0
  have hown : s.vm.findClass "java/lang/AbstractStringBuilder" = some m.cls := findClass_of_methodNamed Bd.named
  have hnm := (name_of_methodNamed Bd.named Bd.method).1
  have X0 : Stand p l e RmIW s m #[(.ref b), (.ref x)] below meth c s₁ [] 0 0 := Stand.of_body Bd
  have e0 : s₁.heap = h0 := by rw [← hh, Bd.state]; rfl
  have N0 := Fr.nil n0
  obtain ⟨E0, hE0⟩ : ∃ z, z = s₁.setTop (entryFrame m #[(.ref b), (.ref x)] 2) := ⟨_, rfl⟩
  rw [← hE0]
  have go0 : Go p e below E0 s₁ m 0 #[(sr b), (sr x)] [] := fun tgt kq => by rw [hE0]; exact castTop (ef_N520 m b x) kq
  obtain ⟨Eb0, -, Gc0, -⟩ := id B0
  obtain ⟨T1, X1, e1, st1⟩ := getS2 X0 hx hZ hown (host := "") (Or.inl (wd hw 159 rfl)) Via.refl e0 (W0.1.ext O0.2) (g := (mkF m 0 #[(sr b), (sr x)] [])) rfl (D 0 rfl)
  have go1 : Go p e below E0 T1 m 3 #[(sr b), (sr x)] [(.int G)] := fun a b => go0 a (st1 a b)
  have go2 : Go p e below E0 T1 m 7 #[(sr b), (sr x)] [(.ref b)] := fun tgt kq => go1 tgt (by
    refine XS.ifNo X1.here hx rfl (D 1 rfl) rfl ((if0 _ _).trans (feq W0.2.1).1) ?_; refine XS.aloadN X1.here hx rfl (D 2 rfl) rfl rfl ?_; exact kq)
  obtain ⟨T3, X3, e3, go3⟩ := own_gF X1 hx hZ hown (wd hw 162 rfl) e1 Gc0 go2 (D 3 rfl)
  have go4 : Go p e below E0 T3 m 11 #[(sr b), (sr x)] [(.ref x), (.int 0)] := fun tgt kq => go3 tgt (by
    refine XS.aloadN X3.here hx rfl (D 4 rfl) rfl rfl ?_; exact kq)
  obtain ⟨_, T5, L5, X5, hQ5, go5⟩ := own_cV X3 hx hZ hown (wd hw 192 rfl) (wd hw 60 rfl) (wd hw 62 rfl) (wd hw 61 rfl) (wd hw 11 rfl) (wd hw 63 rfl) (by decide) (W := 1) (rmCO l Z a0 hw [] x (1 : Int32) G fv h0 n0 Z0 Fc (by decide) W0 O0) (by decide) (by decide) e3 (by decide) (by decide) Ex go4 hml.symm (argsL := []) (rest := [(.int 0)]) (lenOf pd_17 rfl) rfl rfl rfl (D 5 rfl)
  obtain ⟨rfl, rfl, e5⟩ := hQ5
  have N5 := Fr.app N0 (Fr.nil n0)
  have go6 : Go p e below E0 T5 m 18 #[(sr b), (sr x)] [(.ref b)] := fun tgt kq => go5 tgt (by
    refine XS.icmpNo X5.here hx rfl (D 6 rfl) rfl (feq (by decide)).1 ?_; refine XS.aloadN X5.here hx rfl (D 8 rfl) rfl rfl ?_; exact kq)
  obtain ⟨_, T7, L7, X7, hQ7, go7⟩ := own_cV X5 hx hZ hown (wd hw 317 rfl) (own_decl (wd hw 318 rfl) (wd hw 321 rfl)) (wd hw 320 rfl) (wd hw 318 rfl) (wd hw 156 rfl) (wd hw 321 rfl) (by decide) (W := 0) (rmBF l Z a0 hw [] b t kb cap cs G fv h0 n0 Z0 B0 gb gt hcap hcs hl1 hwf W0 O0) (by decide) (by decide) e5 (by decide) (by decide) Eb0 go6 hml.symm (argsL := []) (rest := []) (lenOf pd_40 rfl) rfl rfl rfl (D 9 rfl)
  obtain ⟨t2, kb2, rfl, N7q, Kq1, B2, gq2, zq2⟩ := hQ7
  have N7 := Fr.app N5 N7q
  have z8 : n0 ≤ T7.heap.size := Nat.le_trans Z0 Kq1.1
  have K9 : Keep h0 T7.heap [b] := (Keep.refl h0 [b]).trans Kq1 (allS (Or.inl (List.mem_of_getElem? (i := 0) rfl)) all0)
  obtain ⟨fs, hr, hrun, hended, hW, hsame⟩ := X7.leave (v := none) (fun _ => rfl)
  refine ⟨_, _, go7 _ ?_, hrun, hended, _, _, rfl, ?_, ⟨_, rfl⟩, hW, hsame.mono (by decide) (by decide)⟩
  · exact X7.returnOut hx Bd.returns (D 7 rfl) hr
  · show QIW Z b t kb cap cs x G fv h0 n0 _ T7.heap _
    exact ⟨t2, kb2, rfl, N7, K9, B2, gq2, zq2⟩
theorem ef_GS (m : MethodId) (x0 : Addr) (x1 : Addr) (x2 : Int32) (x3 : Int32) : entryFrame m #[(.ref x0), (.ref x1), (.int x2), (.int x3)] 4 = mkF m 0 #[.val (.ref x0), .val (.ref x1), .val (.int x2), .val (.int x3)] [] := by first | (simp [entryFrame, mkF, argsToLocals, Value.category, maxLocals]; done) | rfl
def QGS (Z : State) (x : Addr) (tx : Addr) (kx : ClassId) (lx : Nat) (bs : List Value) (t : Addr) (kb : ClassId) (ln : Nat) (vd : List Value) (of : Nat) (co : Int32) (G : Int32) (fv : Value) (h0 : Heap) (n0 : Nat) (v : Option Value) (h : Heap) (L : List Loc) : Prop := v = none ∧ Fr n0 L ∧ Keep h0 h [t] ∧ Yb Z h t kb (Int32.ofNat ln) (vd ++ bs)
abbrev RmGS : Room := ({ frames := 1, cells := 0, slots := 0, locals := 18 } : Room)
theorem rmGS (l : Launch) (Z : State) (a0 : Array Value) (hw : Tb a0 Z) (ws : List Jvm.Cond) (x : Addr) (tx : Addr) (kx : ClassId) (lx : Nat) (bs : List Value) (t : Addr) (kb : ClassId) (ln : Nat) (vd : List Value) (of : Nat) (co : Int32) (G : Int32) (fv : Value) (h0 : Heap) (n0 : Nat) (Z0 : n0 ≤ h0.size) (Ex : E1_ Z h0 x) (Fv : F6_ Z h0 x (.ref tx)) (Fc : F5_ Z h0 x (.int co)) (hn : nar .byte co = co) (Ax : Yb Z h0 tx kx (Int32.ofNat lx) bs) (At : Yb Z h0 t kb (Int32.ofNat ln) vd) (gt : n0 ≤ t) (hbs : bs.length = lx) (hof : ((Int32.ofNat of) <<< (co &&& 31)) = (Int32.ofNat vd.length)) (hfit : vd.length + lx ≤ ln) (hln : ln ≤ 2080) (W0 : own_W Z G fv) (O0 : own_O Z n0 h0) :
    Met l Z h0 y10_ jdk_42_method_147_code 4 none RmGS ws #[(.ref x), (.ref t), (.int (Int32.ofNat of)), (.int co)] (QGS Z x tx kx lx bs t kb ln vd of co G fv h0 n0) := by
  refine MetFree.of_bodySF (plainFor_of_name pn_8) hisR ?_
  intro p e s m args below meth c s₁ Bd hml0 hP hK
  obtain ⟨rfl, hZ, hh⟩ := hP
  have hx := Bd.exec
  have hby := Bd.bytes
  have D := dl hby d61_
  have hml : c.maxLocals = 4 := hml0
  have hown : s.vm.findClass "java/lang/String" = some m.cls := findClass_of_methodNamed Bd.named
  have hnm := (name_of_methodNamed Bd.named Bd.method).1
  have X0 : Stand p l e RmGS s m #[(.ref x), (.ref t), (.int (Int32.ofNat of)), (.int co)] below meth c s₁ [] 0 0 := Stand.of_body Bd
  have e0 : s₁.heap = h0 := by rw [← hh, Bd.state]; rfl
  have N0 := Fr.nil n0
  obtain ⟨E0, hE0⟩ : ∃ z, z = s₁.setTop (entryFrame m #[(.ref x), (.ref t), (.int (Int32.ofNat of)), (.int co)] 4) := ⟨_, rfl⟩
  rw [← hE0]
  have go0 : Go p e below E0 s₁ m 0 #[(sr x), (sr t), (si (Int32.ofNat of)), (si co)] [] := fun tgt kq => by rw [hE0]; exact castTop (ef_GS m x t (Int32.ofNat of) co) kq
  have hcl : (Int32.ofNat lx).toNatClampNeg = lx := own_cl (by omega)
  have hcd : (Int32.ofNat vd.length).toNatClampNeg = vd.length := own_cl (by omega)
  have go1 : Go p e below E0 s₁ m 1 #[(sr x), (sr t), (si (Int32.ofNat of)), (si co)] [(.ref x)] := fun tgt kq => go0 tgt (by
    refine XS.aloadN X0.here hx rfl (D 0 rfl) rfl rfl ?_; exact kq)
  obtain ⟨_, T2, L2, X2, hQ2, go2⟩ := own_cV X0 hx hZ hown (wd hw 59 rfl) (wd hw 60 rfl) (wd hw 62 rfl) (wd hw 61 rfl) (wd hw 11 rfl) (wd hw 63 rfl) (by decide) (W := 0) (rmCO l Z a0 hw [] x co G fv h0 n0 Z0 Fc hn W0 O0) (by decide) (by decide) e0 (by decide) (by decide) Ex go1 hml.symm (argsL := []) (rest := []) (lenOf pd_17 rfl) rfl rfl rfl (D 1 rfl)
  obtain ⟨rfl, rfl, e2⟩ := hQ2
  have N2 := Fr.app N0 (Fr.nil n0)
  have go3 : Go p e below E0 T2 m 9 #[(sr x), (sr t), (si (Int32.ofNat of)), (si co)] [(.ref x)] := fun tgt kq => go2 tgt (by
    refine XS.iloadN X2.here hx rfl (D 2 rfl) rfl ?_; refine XS.icmpNo X2.here hx rfl (D 3 rfl) rfl (teq rfl).2 ?_; refine XS.aloadN X2.here hx rfl (D 4 rfl) rfl rfl ?_; exact kq)
  obtain ⟨T4, X4, e4, go4⟩ := own_gF X2 hx hZ hown (wd hw 37 rfl) e2 Fv go3 (D 5 rfl)
  have go5 : Go p e below E0 T4 m 17 #[(sr x), (sr t), (si (Int32.ofNat of)), (si co)] [(.int ((Int32.ofNat of) <<< (co &&& 31))), (.ref t), (.int 0), (.ref tx)] := fun tgt kq => go4 tgt (by
    refine XS.iconst X4.here hx rfl (D 6 rfl) ?_; refine XS.aloadN X4.here hx rfl (D 7 rfl) rfl rfl ?_; refine XS.iloadN X4.here hx rfl (D 8 rfl) rfl ?_; refine XS.iloadN X4.here hx rfl (D 9 rfl) rfl ?_; refine XS.ishl X4.here hx rfl (D 10 rfl) rfl ?_; exact kq)
  have go6 : Go p e below E0 T4 m 17 #[(sr x), (sr t), (si (Int32.ofNat of)), (si co)] [(.int (Int32.ofNat vd.length)), (.ref t), (.int 0), (.ref tx)] := by have q := go5; rw [show ((Int32.ofNat of) <<< (co &&& 31)) = (Int32.ofNat vd.length) from hof] at q; exact q
  have go7 : Go p e below E0 T4 m 18 #[(sr x), (sr t), (si (Int32.ofNat of)), (si co)] [(.ref x), (.int (Int32.ofNat vd.length)), (.ref t), (.int 0), (.ref tx)] := fun tgt kq => go6 tgt (by
    refine XS.aloadN X4.here hx rfl (D 11 rfl) rfl rfl ?_; exact kq)
  obtain ⟨T8, X8, e8, go8⟩ := own_gF X4 hx hZ hown (wd hw 37 rfl) e4 Fv go7 (D 12 rfl)
  obtain ⟨c9, Ar9, q9, S9, M9, -, -⟩ := id Ax
  have go10 : Go p e below E0 T8 m 22 #[(sr x), (sr t), (si (Int32.ofNat of)), (si co)] [(.int (Int32.ofNat lx)), (.int (Int32.ofNat vd.length)), (.ref t), (.int 0), (.ref tx)] := fun tgt kq => go8 tgt (by
    refine X8.arraylength hx (by rw [e8]; exact Ar9.1) (State.isArrayOf_alike hZ.alike Ar9.2.1) (g := (mkF m 21 #[(sr x), (sr t), (si (Int32.ofNat of)), (si co)] [(.ref tx), (.int (Int32.ofNat vd.length)), (.ref t), (.int 0), (.ref tx)])) rfl rfl (D 13 rfl) _ ?_; rw [len_of S9 M9]; exact kq)
  have pd11 : Yb Z h0 t kb (Int32.ofNat ln) (vd ++ List.replicate (lx) (.int (0 : Int32))) := At.pad (pad_rep vd (.int (0 : Int32)) (lx))
  obtain ⟨T11, h11, l11, X11, e11, N11, Kc11, Ar11, st11⟩ := cpA X8 hx hZ hown (wd hw 198 rfl) (wd hw 201 rfl) (wd hw 199 rfl) (wd hw 200 rfl) e8 Ax pd11 (Or.inl ⟨rfl, rfl⟩) (by decide) (own_nn (by omega)) (own_nn (by omega)) (by rw [own_z0, hcl]; omega) (by rw [hcd, hcl, own_cl (by omega)]; omega) (us := bs) (by rw [hcl, own_z0]; exact (own_range_eq bs (.int (0 : Int32)) lx hbs).symm) (by rw [hcd, hcl, List.length_append, List.length_replicate]; exact Nat.le_refl _) N2 gt (g := (mkF m 22 #[(sr x), (sr t), (si (Int32.ofNat of)), (si co)] [(.int (Int32.ofNat lx)), (.int (Int32.ofNat vd.length)), (.ref t), (.int 0), (.ref tx)])) rfl (by rw [hml]; rfl) rfl (D 14 rfl) (by decide) (W := 0) (by show 2 * 0 + _ ≤ _; exact Nat.le_of_eq rfl) (by decide)
  have z12 : n0 ≤ h11.size := Nat.le_trans Z0 Kc11.1
  have K13 : Keep h0 h11 [t] := (Keep.refl h0 [t]).trans Kc11 (allS (Or.inl (List.mem_of_getElem? (i := 0) rfl)) all0)
  have f14 : Yb Z h11 t kb (Int32.ofNat ln) (vd ++ bs) := (by have q := Ar11; rw [hcd, hcl, own_pads] at q; exact q)
  have go11 : Go p e below E0 T11 m 25 #[(sr x), (sr t), (si (Int32.ofNat of)), (si co)] [] := fun a b => go10 a (st11 a b)
  have go15 : Go p e below E0 T11 m 43 #[(sr x), (sr t), (si (Int32.ofNat of)), (si co)] [] := fun tgt kq => go11 tgt (by
    refine XS.goto X11.here hx rfl (pc0 := 25) (pc' := 43) rfl (D 15 rfl) (by decide) (by decide) ?_; exact kq)
  obtain ⟨fs, hr, hrun, hended, hW, hsame⟩ := X11.leave (v := none) (fun _ => rfl)
  refine ⟨_, _, go15 _ ?_, hrun, hended, _, _, rfl, ?_, ⟨_, rfl⟩, hW, hsame.mono (by decide) (by decide)⟩
  · exact X11.returnOut hx Bd.returns (D 16 rfl) hr
  · show QGS Z x tx kx lx bs t kb ln vd of co G fv h0 n0 _ T11.heap _
    rw [e11]
    exact ⟨rfl, N11, K13, f14⟩
def QGX (Z : State) (x : Addr) (tx : Addr) (kx : ClassId) (ds : List Int32) (t : Addr) (kb : ClassId) (md : Nat) (pre : List Int32) (G : Int32) (fv : Value) (h0 : Heap) (n0 : Nat) (v : Option Value) (h : Heap) (L : List Loc) : Prop := v = none ∧ Fr n0 L ∧ Keep h0 h [t] ∧ Yb Z h t kb (Int32.ofNat (2 * md)) (own_flat (pre ++ ds))
abbrev RmGX : Room := ({ frames := 5, cells := 0, slots := 0, locals := 76 } : Room)
theorem rmGX (l : Launch) (Z : State) (a0 : Array Value) (hw : Tb a0 Z) (ws : List Jvm.Cond) (x : Addr) (tx : Addr) (kx : ClassId) (ds : List Int32) (t : Addr) (kb : ClassId) (md : Nat) (pre : List Int32) (G : Int32) (fv : Value) (h0 : Heap) (n0 : Nat) (Z0 : n0 ≤ h0.size) (Ex : E1_ Z h0 x) (Fv : F6_ Z h0 x (.ref tx)) (Fc : F5_ Z h0 x (.int (0 : Int32))) (Ax : Yb Z h0 tx kx (Int32.ofNat ds.length) (own_lats ds)) (At : Yb Z h0 t kb (Int32.ofNat (2 * md)) (own_flat pre)) (gt : n0 ≤ t) (ntt : tx ≠ t) (hfit : pre.length + ds.length ≤ md) (hmd : md ≤ 1040) (hl1 : own_l1 ds = true) (hwf : ∀ c ∈ ds, own_ch c) (W0 : own_W Z G fv) (O0 : own_O Z n0 h0) :
    Met l Z h0 y10_ jdk_42_method_147_code 4 none RmGX ws #[(.ref x), (.ref t), (.int (Int32.ofNat pre.length)), (.int (1 : Int32))] (QGX Z x tx kx ds t kb md pre G fv h0 n0) := by
  refine MetFree.of_bodySF (plainFor_of_name pn_8) hisR ?_
  intro p e s m args below meth c s₁ Bd hml0 hP hK
  obtain ⟨rfl, hZ, hh⟩ := hP
  have hx := Bd.exec
  have hby := Bd.bytes
  have D := dl hby d61_
  have hml : c.maxLocals = 4 := hml0
  have hown : s.vm.findClass "java/lang/String" = some m.cls := findClass_of_methodNamed Bd.named
  have hnm := (name_of_methodNamed Bd.named Bd.method).1
  have X0 : Stand p l e RmGX s m #[(.ref x), (.ref t), (.int (Int32.ofNat pre.length)), (.int (1 : Int32))] below meth c s₁ [] 0 0 := Stand.of_body Bd
  have e0 : s₁.heap = h0 := by rw [← hh, Bd.state]; rfl
  have N0 := Fr.nil n0
  obtain ⟨E0, hE0⟩ : ∃ z, z = s₁.setTop (entryFrame m #[(.ref x), (.ref t), (.int (Int32.ofNat pre.length)), (.int (1 : Int32))] 4) := ⟨_, rfl⟩
  rw [← hE0]
  have go0 : Go p e below E0 s₁ m 0 #[(sr x), (sr t), (si (Int32.ofNat pre.length)), (si 1)] [] := fun tgt kq => by rw [hE0]; exact castTop (ef_GS m x t (Int32.ofNat pre.length) (1 : Int32)) kq
  have go1 : Go p e below E0 s₁ m 1 #[(sr x), (sr t), (si (Int32.ofNat pre.length)), (si 1)] [(.ref x)] := fun tgt kq => go0 tgt (by
    refine XS.aloadN X0.here hx rfl (D 0 rfl) rfl rfl ?_; exact kq)
  obtain ⟨_, T2, L2, X2, hQ2, go2⟩ := own_cV X0 hx hZ hown (wd hw 59 rfl) (wd hw 60 rfl) (wd hw 62 rfl) (wd hw 61 rfl) (wd hw 11 rfl) (wd hw 63 rfl) (by decide) (W := 0) (rmCO l Z a0 hw [] x (0 : Int32) G fv h0 n0 Z0 Fc (by decide) W0 O0) (by decide) (by decide) e0 (by decide) (by decide) Ex go1 hml.symm (argsL := []) (rest := []) (lenOf pd_17 rfl) rfl rfl rfl (D 1 rfl)
  obtain ⟨rfl, rfl, e2⟩ := hQ2
  have N2 := Fr.app N0 (Fr.nil n0)
  have go3 : Go p e below E0 T2 m 29 #[(sr x), (sr t), (si (Int32.ofNat pre.length)), (si 1)] [(.ref x)] := fun tgt kq => go2 tgt (by
    refine XS.iloadN X2.here hx rfl (D 2 rfl) rfl ?_; refine XS.icmpYes X2.here hx rfl (pc0 := 5) (pc' := 28) rfl (D 3 rfl) rfl (feq (by decide)).2 (by decide) (by decide) ?_; refine XS.aloadN X2.here hx rfl (D 17 rfl) rfl rfl ?_; exact kq)
  obtain ⟨T4, X4, e4, go4⟩ := own_gF X2 hx hZ hown (wd hw 37 rfl) e2 Fv go3 (D 18 rfl)
  have go5 : Go p e below E0 T4 m 36 #[(sr x), (sr t), (si (Int32.ofNat pre.length)), (si 1)] [(.ref x), (.int (Int32.ofNat pre.length)), (.ref t), (.int 0), (.ref tx)] := fun tgt kq => go4 tgt (by
    refine XS.iconst X4.here hx rfl (D 19 rfl) ?_; refine XS.aloadN X4.here hx rfl (D 20 rfl) rfl rfl ?_; refine XS.iloadN X4.here hx rfl (D 21 rfl) rfl ?_; refine XS.aloadN X4.here hx rfl (D 22 rfl) rfl rfl ?_; exact kq)
  obtain ⟨T6, X6, e6, go6⟩ := own_gF X4 hx hZ hown (wd hw 37 rfl) e4 Fv go5 (D 23 rfl)
  obtain ⟨c7, Ar7, q7, S7, M7, -, -⟩ := id Ax
  have go8 : Go p e below E0 T6 m 40 #[(sr x), (sr t), (si (Int32.ofNat pre.length)), (si 1)] [(.int (Int32.ofNat ds.length)), (.int (Int32.ofNat pre.length)), (.ref t), (.int 0), (.ref tx)] := fun tgt kq => go6 tgt (by
    refine X6.arraylength hx (by rw [e6]; exact Ar7.1) (State.isArrayOf_alike hZ.alike Ar7.2.1) (g := (mkF m 39 #[(sr x), (sr t), (si (Int32.ofNat pre.length)), (si 1)] [(.ref tx), (.int (Int32.ofNat pre.length)), (.ref t), (.int 0), (.ref tx)])) rfl rfl (D 24 rfl) _ ?_; rw [len_of S7 M7]; exact kq)
  obtain ⟨_, T9, L9, X9, hQ9, go9⟩ := own_cS X6 hx hZ hown (wd hw 338 rfl) (wd hw 324 rfl) (wd hw 76 rfl) (wd hw 325 rfl) (by decide) (W := 0) (rmSF l Z a0 hw [] tx kx ds.length ds t kb md pre pre.length G fv h0 n0 Z0 Ax At gt ntt rfl (Nat.le_refl _) (by omega) hfit hmd hl1 hwf W0 O0) (by decide) (by decide) e6 (by decide) (by decide) go8 hml.symm (argsL := [(.ref tx), (.int 0), (.ref t), (.int (Int32.ofNat pre.length)), (.int (Int32.ofNat ds.length))]) (rest := []) (lenOf pd_39 rfl) rfl rfl rfl (D 25 rfl)
  obtain ⟨rfl, N9q, Kq1, Aq1⟩ := hQ9
  have N9 := Fr.app N2 N9q
  have z10 : n0 ≤ T9.heap.size := Nat.le_trans Z0 Kq1.1
  have K11 : Keep h0 T9.heap [t] := (Keep.refl h0 [t]).trans Kq1 (allS (Or.inl (List.mem_of_getElem? (i := 0) rfl)) all0)
  obtain ⟨fs, hr, hrun, hended, hW, hsame⟩ := X9.leave (v := none) (fun _ => rfl)
  refine ⟨_, _, go9 _ ?_, hrun, hended, _, _, rfl, ?_, ⟨_, rfl⟩, hW, hsame.mono (by decide) (by decide)⟩
  · exact X9.returnOut hx Bd.returns (D 16 rfl) hr
  · show QGX Z x tx kx ds t kb md pre G fv h0 n0 _ T9.heap _
    exact ⟨rfl, N9, K11, Aq1⟩
theorem pd_41 : parseMethodDescriptor "(Ljava/lang/String;)V" = some ⟨[(.object "java/lang/String")], none⟩ := by decide +kernel
theorem pd_42 : parseMethodDescriptor "([BIB)V" = some ⟨[(.array .byte), .int, .byte], none⟩ := by decide +kernel
theorem ef_PS (m : MethodId) (x0 : Addr) (x1 : Int32) (x2 : Addr) : entryFrame m #[(.ref x0), (.int x1), (.ref x2)] 3 = mkF m 0 #[.val (.ref x0), .val (.int x1), .val (.ref x2)] [] := by first | (simp [entryFrame, mkF, argsToLocals, Value.category, maxLocals]; done) | rfl
def QPS (Z : State) (b : Addr) (t : Addr) (kb : ClassId) (cap : Nat) (cs : List Int32) (x : Addr) (tx : Addr) (kx : ClassId) (ds : List Int32) (G : Int32) (fv : Value) (h0 : Heap) (n0 : Nat) (v : Option Value) (h : Heap) (L : List Loc) : Prop := ∃ (t2 : Addr) (kb2 : ClassId), v = none ∧ Fr n0 L ∧ Keep h0 h [b, t] ∧ own_B Z h b t2 kb2 (own_k (cs ++ ds) * cap) (own_co (cs ++ ds)) (own_by (cs ++ ds)) cs.length ∧ n0 ≤ t2
abbrev RmPS : Room := ({ frames := 7, cells := 1, slots := 1040, locals := 102 } : Room)
theorem rmPS (l : Launch) (Z : State) (a0 : Array Value) (hw : Tb a0 Z) (ws : List Jvm.Cond) (b : Addr) (t : Addr) (kb : ClassId) (cap : Nat) (cs : List Int32) (x : Addr) (tx : Addr) (kx : ClassId) (ds : List Int32) (G : Int32) (fv : Value) (h0 : Heap) (n0 : Nat) (Z0 : n0 ≤ h0.size) (B0 : own_B Z h0 b t kb (own_k cs * cap) (own_co cs) (own_by cs) cs.length) (gb : n0 ≤ b) (gt : n0 ≤ t) (hcap : cap ≤ 517) (hcs : cs.length ≤ cap) (Ex : E1_ Z h0 x) (Fv : F6_ Z h0 x (.ref tx)) (Fc : F5_ Z h0 x (.int (own_co ds))) (Ax : Yb Z h0 tx kx (Int32.ofNat (own_k ds * ds.length)) (own_by ds)) (nxb : x ≠ b) (ntt : tx ≠ t) (hfit : cs.length + ds.length ≤ cap) (hwc : ∀ c ∈ cs, own_ch c) (hwd : ∀ c ∈ ds, own_ch c) (W0 : own_W Z G fv) (O0 : own_O Z n0 h0) :
    Met l Z h0 (⟨"java/lang/AbstractStringBuilder", "putStringAt", "(ILjava/lang/String;)V"⟩ : MethodName) jdk_68_method_73_code 3 none RmPS ws #[(.ref b), (.int (Int32.ofNat cs.length)), (.ref x)] (QPS Z b t kb cap cs x tx kx ds G fv h0 n0) := by
  refine MetFree.of_bodySF (plainFor_of_name pn_16) hisR ?_
  intro p e s m args below meth c s₁ Bd hml0 hP hK
  obtain ⟨rfl, hZ, hh⟩ := hP
  have hx := Bd.exec
  have hby := Bd.bytes
  have D := dl hby d62_
  have hml : c.maxLocals = 3 := hml0
  have hown : s.vm.findClass "java/lang/AbstractStringBuilder" = some m.cls := findClass_of_methodNamed Bd.named
  have hnm := (name_of_methodNamed Bd.named Bd.method).1
  have X0 : Stand p l e RmPS s m #[(.ref b), (.int (Int32.ofNat cs.length)), (.ref x)] below meth c s₁ [] 0 0 := Stand.of_body Bd
  have e0 : s₁.heap = h0 := by rw [← hh, Bd.state]; rfl
  have N0 := Fr.nil n0
  obtain ⟨E0, hE0⟩ : ∃ z, z = s₁.setTop (entryFrame m #[(.ref b), (.int (Int32.ofNat cs.length)), (.ref x)] 3) := ⟨_, rfl⟩
  rw [← hE0]
  have go0 : Go p e below E0 s₁ m 0 #[(sr b), (si (Int32.ofNat cs.length)), (sr x)] [] := fun tgt kq => by rw [hE0]; exact castTop (ef_PS m b (Int32.ofNat cs.length) x) kq
  have go1 : Go p e below E0 s₁ m 2 #[(sr b), (si (Int32.ofNat cs.length)), (sr x)] [(.ref x), (.ref b)] := fun tgt kq => go0 tgt (by
    refine XS.aloadN X0.here hx rfl (D 0 rfl) rfl rfl ?_; refine XS.aloadN X0.here hx rfl (D 1 rfl) rfl rfl ?_; exact kq)
  by_cases u1 : own_l1 cs = true
  · by_cases u2 : own_l1 ds = true
    · have B1 : own_B Z h0 b t kb cap (0 : Int32) (own_lats cs) cs.length := by have q := B0; rw [own_k0 u1, own_c0 u1, own_by0 u1, Nat.one_mul] at q; exact q
      have Fc1 : F5_ Z h0 x (.int (0 : Int32)) := by have q := Fc; rw [own_c0 u2] at q; exact q
      have Ax1 : Yb Z h0 tx kx (Int32.ofNat ds.length) (own_lats ds) := by have q := Ax; rw [own_by0 u2, own_k0 u2, Nat.one_mul] at q; exact q
      obtain ⟨Eb1, Gv1, Gc1, Gn1, Gm1, Ab1⟩ := id B1
      have ne_b1 : b ≠ t := Exa.neArv Eb1 Ab1 (wd hw 147 rfl)
      have ne_b_tx : b ≠ tx := Exa.neArv Eb1 Ax1 (wd hw 147 rfl)
      have ne_x_t : x ≠ t := Exa.neArv Ex Ab1 (wd hw 10 rfl)
      obtain ⟨_, T2, L2, X2, hQ2, go2⟩ := own_cV X0 hx hZ hown (wd hw 187 rfl) (own_decl (wd hw 188 rfl) (wd hw 191 rfl)) (wd hw 190 rfl) (wd hw 188 rfl) (wd hw 156 rfl) (wd hw 191 rfl) (by decide) (W := 0) (rmIS l Z a0 hw [] b x (0 : Int32) G fv h0 n0 Z0 Eb1 Gc1 Ex Fc1 (by decide) W0 O0) (by decide) (by decide) e0 (by decide) (by decide) Eb1 go1 hml.symm (argsL := [(.ref x)]) (rest := []) (lenOf pd_41 rfl) rfl rfl rfl (D 2 rfl)
      obtain ⟨rfl, rfl, e2⟩ := hQ2
      have N2 := Fr.app N0 (Fr.nil n0)
      have go3 : Go p e below E0 T2 m 7 #[(sr b), (si (Int32.ofNat cs.length)), (sr x)] [(.ref b), (.ref x)] := fun tgt kq => go2 tgt (by
        refine XS.aloadN X2.here hx rfl (D 3 rfl) rfl rfl ?_; refine XS.aloadN X2.here hx rfl (D 4 rfl) rfl rfl ?_; exact kq)
      obtain ⟨T4, X4, e4, go4⟩ := own_gF X2 hx hZ hown (wd hw 160 rfl) e2 Gv1 go3 (D 5 rfl)
      have go5 : Go p e below E0 T4 m 12 #[(sr b), (si (Int32.ofNat cs.length)), (sr x)] [(.ref b), (.int (Int32.ofNat cs.length)), (.ref t), (.ref x)] := fun tgt kq => go4 tgt (by
        refine XS.iloadN X4.here hx rfl (D 6 rfl) rfl ?_; refine XS.aloadN X4.here hx rfl (D 7 rfl) rfl rfl ?_; exact kq)
      obtain ⟨T6, X6, e6, go6⟩ := own_gF X4 hx hZ hown (wd hw 162 rfl) e4 Gc1 go5 (D 8 rfl)
      obtain ⟨_, T7, L7, X7, hQ7, go7⟩ := own_cV X6 hx hZ hown (wd hw 193 rfl) (wd hw 194 rfl) (wd hw 196 rfl) (wd hw 195 rfl) (wd hw 11 rfl) (wd hw 197 rfl) (by decide) (W := 0) (rmGS l Z a0 hw [] x tx kx ds.length (own_lats ds) t kb cap (own_lats cs) cs.length (0 : Int32) G fv h0 n0 Z0 Ex Fv Fc1 (by decide) Ax1 Ab1 gt (own_lats_len ds) (by rw [own_lats_len]; exact own_shl0 _) (by rw [own_lats_len]; omega) (by omega) W0 O0) (by decide) (by decide) e6 (by decide) (by decide) Ex go6 hml.symm (argsL := [(.ref t), (.int (Int32.ofNat cs.length)), (.int 0)]) (rest := []) (lenOf pd_42 rfl) rfl rfl rfl (D 9 rfl)
      obtain ⟨rfl, N7q, Kq3, Aq3⟩ := hQ7
      have N7 := Fr.app N2 N7q
      have z8 : n0 ≤ T7.heap.size := Nat.le_trans Z0 Kq3.1
      have K9 : Keep h0 T7.heap [b, t] := (Keep.refl h0 [b, t]).trans Kq3 (allS (Or.inl (List.mem_of_getElem? (i := 1) rfl)) all0)
      have hz := own_la u1 u2
      have f10 : E2_ Z T7.heap b := (Eb1.keep Kq3)
      have f11 : F4_ Z T7.heap b (.ref t) := (Gv1.keep Kq3 (ninS ne_b1 nin0))
      have f12 : F1_ Z T7.heap b (.int (0 : Int32)) := (Gc1.keep Kq3 (ninS ne_b1 nin0))
      have f13 : F2_ Z T7.heap b (.int (Int32.ofNat cs.length)) := (Gn1.keep Kq3 (ninS ne_b1 nin0))
      have f14 : F3_ Z T7.heap b (.int (0 : Int32)) := (Gm1.keep Kq3 (ninS ne_b1 nin0))
      obtain ⟨fs, hr, hrun, hended, hW, hsame⟩ := X7.leave (v := none) (fun _ => rfl)
      refine ⟨_, _, go7 _ ?_, hrun, hended, _, _, rfl, ?_, ⟨_, rfl⟩, hW, hsame.mono (by decide) (by decide)⟩
      · exact X7.returnOut hx Bd.returns (D 10 rfl) hr
      · show QPS Z b t kb cap cs x tx kx ds G fv h0 n0 _ T7.heap _
        exact ⟨t, kb, rfl, N7, K9, by rw [own_k0 hz, own_c0 hz, own_by0 hz, Nat.one_mul]; exact ⟨f10, f11, f12, f13, f14, (by rw [own_lats_app]; exact Aq3)⟩, gt⟩
    · have B1 : own_B Z h0 b t kb cap (0 : Int32) (own_lats cs) cs.length := by have q := B0; rw [own_k0 u1, own_c0 u1, own_by0 u1, Nat.one_mul] at q; exact q
      have Fc1 : F5_ Z h0 x (.int (1 : Int32)) := by have q := Fc; rw [own_c1 u2] at q; exact q
      have Ax1 : Yb Z h0 tx kx (Int32.ofNat (2 * ds.length)) (own_flat ds) := by have q := Ax; rw [own_by1 u2, own_k1 u2] at q; exact q
      obtain ⟨Eb1, Gv1, Gc1, Gn1, Gm1, Ab1⟩ := id B1
      have ne_b1 : b ≠ t := Exa.neArv Eb1 Ab1 (wd hw 147 rfl)
      have ne_b_tx : b ≠ tx := Exa.neArv Eb1 Ax1 (wd hw 147 rfl)
      have ne_x_t : x ≠ t := Exa.neArv Ex Ab1 (wd hw 10 rfl)
      obtain ⟨_, T15, L15, X15, hQ15, go15⟩ := own_cV X0 hx hZ hown (wd hw 187 rfl) (own_decl (wd hw 188 rfl) (wd hw 191 rfl)) (wd hw 190 rfl) (wd hw 188 rfl) (wd hw 156 rfl) (wd hw 191 rfl) (by decide) (W := 0) (rmIW l Z a0 hw [] b t kb cap cs x G fv h0 n0 Z0 B1 gb gt hcap hcs u1 hwc Ex Fc1 W0 O0) (by decide) (by decide) e0 (by decide) (by decide) Eb1 go1 hml.symm (argsL := [(.ref x)]) (rest := []) (lenOf pd_41 rfl) rfl rfl rfl (D 2 rfl)
      obtain ⟨t2, kb2, rfl, N15q, Kq1, B2, gq2, zq2⟩ := hQ15
      have N15 := Fr.app N0 N15q
      have z16 : n0 ≤ T15.heap.size := Nat.le_trans Z0 Kq1.1
      have K17 : Keep h0 T15.heap [b, t] := (Keep.refl h0 [b, t]).trans Kq1 (allS (Or.inl (List.mem_of_getElem? (i := 0) rfl)) all0)
      obtain ⟨Eb2, Gv2, Gc2, Gn2, Gm2, Ab2⟩ := id B2
      have ne_b2 : b ≠ t2 := Exa.neArv Eb2 Ab2 (wd hw 147 rfl)
      have ne_tx_t2 : tx ≠ t2 := Nat.ne_of_lt (Nat.lt_of_lt_of_le Ax.lt zq2)
      have ne_x_t2 : x ≠ t2 := Nat.ne_of_lt (Nat.lt_of_lt_of_le Ex.lt zq2)
      have go18 : Go p e below E0 T15 m 7 #[(sr b), (si (Int32.ofNat cs.length)), (sr x)] [(.ref b), (.ref x)] := fun tgt kq => go15 tgt (by
        refine XS.aloadN X15.here hx rfl (D 3 rfl) rfl rfl ?_; refine XS.aloadN X15.here hx rfl (D 4 rfl) rfl rfl ?_; exact kq)
      obtain ⟨T19, X19, e19, go19⟩ := own_gF X15 hx hZ hown (wd hw 160 rfl) rfl Gv2 go18 (D 5 rfl)
      have go20 : Go p e below E0 T19 m 12 #[(sr b), (si (Int32.ofNat cs.length)), (sr x)] [(.ref b), (.int (Int32.ofNat cs.length)), (.ref t2), (.ref x)] := fun tgt kq => go19 tgt (by
        refine XS.iloadN X19.here hx rfl (D 6 rfl) rfl ?_; refine XS.aloadN X19.here hx rfl (D 7 rfl) rfl rfl ?_; exact kq)
      obtain ⟨T21, X21, e21, go21⟩ := own_gF X19 hx hZ hown (wd hw 162 rfl) e19 Gc2 go20 (D 8 rfl)
      have f22 : E1_ Z T15.heap x := (Ex.keep Kq1)
      have f23 : F6_ Z T15.heap x (.ref tx) := (Fv.keep Kq1 (ninS nxb nin0))
      have f24 : F5_ Z T15.heap x (.int (1 : Int32)) := (Fc1.keep Kq1 (ninS nxb nin0))
      have f25 : Yb Z T15.heap tx kx (Int32.ofNat (2 * ds.length)) (own_flat ds) := (Ax1.keep Kq1 (ninS (Ne.symm ne_b_tx) nin0))
      have f26 : own_O Z n0 T15.heap := (O0.keep Kq1 (allS gb all0))
      obtain ⟨_, T27, L27, X27, hQ27, go27⟩ := own_cV X21 hx hZ hown (wd hw 193 rfl) (wd hw 194 rfl) (wd hw 196 rfl) (wd hw 195 rfl) (wd hw 11 rfl) (wd hw 197 rfl) (by decide) (W := 0) (rmGS l Z a0 hw [] x tx kx (2 * ds.length) (own_flat ds) t2 kb2 (2 * cap) (own_flat cs) cs.length (1 : Int32) G fv T15.heap n0 z16 f22 f23 f24 (by decide) f25 Ab2 gq2 (own_flat_len ds) (by rw [own_flat_len]; exact own_shl (by omega)) (by rw [own_flat_len]; omega) (by omega) W0 f26) (by decide) (by decide) e21 (by decide) (by decide) f22 go21 hml.symm (argsL := [(.ref t2), (.int (Int32.ofNat cs.length)), (.int 1)]) (rest := []) (lenOf pd_42 rfl) rfl rfl rfl (D 9 rfl)
      obtain ⟨rfl, N27q, Kq3, Aq3⟩ := hQ27
      have N27 := Fr.app N15 N27q
      have z28 : n0 ≤ T27.heap.size := Nat.le_trans z16 Kq3.1
      have K29 : Keep h0 T27.heap [b, t] := K17.trans Kq3 (allS (Or.inr zq2) all0)
      have hz := own_nl (cs := cs) u2
      have f30 : E2_ Z T27.heap b := (Eb2.keep Kq3)
      have f31 : F4_ Z T27.heap b (.ref t2) := (Gv2.keep Kq3 (ninS ne_b2 nin0))
      have f32 : F1_ Z T27.heap b (.int (1 : Int32)) := (Gc2.keep Kq3 (ninS ne_b2 nin0))
      have f33 : F2_ Z T27.heap b (.int (Int32.ofNat cs.length)) := (Gn2.keep Kq3 (ninS ne_b2 nin0))
      have f34 : F3_ Z T27.heap b (.int (0 : Int32)) := (Gm2.keep Kq3 (ninS ne_b2 nin0))
      obtain ⟨fs, hr, hrun, hended, hW, hsame⟩ := X27.leave (v := none) (fun _ => rfl)
      refine ⟨_, _, go27 _ ?_, hrun, hended, _, _, rfl, ?_, ⟨_, rfl⟩, hW, hsame.mono (by decide) (by decide)⟩
      · exact X27.returnOut hx Bd.returns (D 10 rfl) hr
      · show QPS Z b t kb cap cs x tx kx ds G fv h0 n0 _ T27.heap _
        exact ⟨t2, kb2, rfl, N27, K29, by rw [own_k1 hz, own_c1 hz, own_by1 hz]; exact ⟨f30, f31, f32, f33, f34, (by rw [own_flat_app]; exact Aq3)⟩, gq2⟩
  · by_cases u2 : own_l1 ds = true
    · have B1 : own_B Z h0 b t kb (2 * cap) (1 : Int32) (own_flat cs) cs.length := by have q := B0; rw [own_k1 u1, own_c1 u1, own_by1 u1] at q; exact q
      have Fc1 : F5_ Z h0 x (.int (0 : Int32)) := by have q := Fc; rw [own_c0 u2] at q; exact q
      have Ax1 : Yb Z h0 tx kx (Int32.ofNat ds.length) (own_lats ds) := by have q := Ax; rw [own_by0 u2, own_k0 u2, Nat.one_mul] at q; exact q
      obtain ⟨Eb1, Gv1, Gc1, Gn1, Gm1, Ab1⟩ := id B1
      have ne_b1 : b ≠ t := Exa.neArv Eb1 Ab1 (wd hw 147 rfl)
      have ne_b_tx : b ≠ tx := Exa.neArv Eb1 Ax1 (wd hw 147 rfl)
      have ne_x_t : x ≠ t := Exa.neArv Ex Ab1 (wd hw 10 rfl)
      obtain ⟨_, T35, L35, X35, hQ35, go35⟩ := own_cV X0 hx hZ hown (wd hw 187 rfl) (own_decl (wd hw 188 rfl) (wd hw 191 rfl)) (wd hw 190 rfl) (wd hw 188 rfl) (wd hw 156 rfl) (wd hw 191 rfl) (by decide) (W := 0) (rmIM l Z a0 hw [] b x G fv h0 n0 Z0 Eb1 Gc1 Ex Fc1 W0 O0) (by decide) (by decide) e0 (by decide) (by decide) Eb1 go1 hml.symm (argsL := [(.ref x)]) (rest := []) (lenOf pd_41 rfl) rfl rfl rfl (D 2 rfl)
      obtain ⟨rfl, rfl, e35⟩ := hQ35
      have N35 := Fr.app N0 (Fr.nil n0)
      have go36 : Go p e below E0 T35 m 7 #[(sr b), (si (Int32.ofNat cs.length)), (sr x)] [(.ref b), (.ref x)] := fun tgt kq => go35 tgt (by
        refine XS.aloadN X35.here hx rfl (D 3 rfl) rfl rfl ?_; refine XS.aloadN X35.here hx rfl (D 4 rfl) rfl rfl ?_; exact kq)
      obtain ⟨T37, X37, e37, go37⟩ := own_gF X35 hx hZ hown (wd hw 160 rfl) e35 Gv1 go36 (D 5 rfl)
      have go38 : Go p e below E0 T37 m 12 #[(sr b), (si (Int32.ofNat cs.length)), (sr x)] [(.ref b), (.int (Int32.ofNat cs.length)), (.ref t), (.ref x)] := fun tgt kq => go37 tgt (by
        refine XS.iloadN X37.here hx rfl (D 6 rfl) rfl ?_; refine XS.aloadN X37.here hx rfl (D 7 rfl) rfl rfl ?_; exact kq)
      obtain ⟨T39, X39, e39, go39⟩ := own_gF X37 hx hZ hown (wd hw 162 rfl) e37 Gc1 go38 (D 8 rfl)
      obtain ⟨_, T40, L40, X40, hQ40, go40⟩ := own_cV X39 hx hZ hown (wd hw 193 rfl) (wd hw 194 rfl) (wd hw 196 rfl) (wd hw 195 rfl) (wd hw 11 rfl) (wd hw 197 rfl) (by decide) (W := 0) (rmGX l Z a0 hw [] x tx kx ds t kb cap cs G fv h0 n0 Z0 Ex Fv Fc1 Ax1 Ab1 gt ntt hfit (by omega) u2 hwd W0 O0) (by decide) (by decide) e39 (by decide) (by decide) Ex go39 hml.symm (argsL := [(.ref t), (.int (Int32.ofNat cs.length)), (.int 1)]) (rest := []) (lenOf pd_42 rfl) rfl rfl rfl (D 9 rfl)
      obtain ⟨rfl, N40q, Kq3, Aq3⟩ := hQ40
      have N40 := Fr.app N35 N40q
      have z41 : n0 ≤ T40.heap.size := Nat.le_trans Z0 Kq3.1
      have K42 : Keep h0 T40.heap [b, t] := (Keep.refl h0 [b, t]).trans Kq3 (allS (Or.inl (List.mem_of_getElem? (i := 1) rfl)) all0)
      have hz := own_nr (ds := ds) u1
      have f43 : E2_ Z T40.heap b := (Eb1.keep Kq3)
      have f44 : F4_ Z T40.heap b (.ref t) := (Gv1.keep Kq3 (ninS ne_b1 nin0))
      have f45 : F1_ Z T40.heap b (.int (1 : Int32)) := (Gc1.keep Kq3 (ninS ne_b1 nin0))
      have f46 : F2_ Z T40.heap b (.int (Int32.ofNat cs.length)) := (Gn1.keep Kq3 (ninS ne_b1 nin0))
      have f47 : F3_ Z T40.heap b (.int (0 : Int32)) := (Gm1.keep Kq3 (ninS ne_b1 nin0))
      obtain ⟨fs, hr, hrun, hended, hW, hsame⟩ := X40.leave (v := none) (fun _ => rfl)
      refine ⟨_, _, go40 _ ?_, hrun, hended, _, _, rfl, ?_, ⟨_, rfl⟩, hW, hsame.mono (by decide) (by decide)⟩
      · exact X40.returnOut hx Bd.returns (D 10 rfl) hr
      · show QPS Z b t kb cap cs x tx kx ds G fv h0 n0 _ T40.heap _
        exact ⟨t, kb, rfl, N40, K42, by rw [own_k1 hz, own_c1 hz, own_by1 hz]; exact ⟨f43, f44, f45, f46, f47, Aq3⟩, gt⟩
    · have B1 : own_B Z h0 b t kb (2 * cap) (1 : Int32) (own_flat cs) cs.length := by have q := B0; rw [own_k1 u1, own_c1 u1, own_by1 u1] at q; exact q
      have Fc1 : F5_ Z h0 x (.int (1 : Int32)) := by have q := Fc; rw [own_c1 u2] at q; exact q
      have Ax1 : Yb Z h0 tx kx (Int32.ofNat (2 * ds.length)) (own_flat ds) := by have q := Ax; rw [own_by1 u2, own_k1 u2] at q; exact q
      obtain ⟨Eb1, Gv1, Gc1, Gn1, Gm1, Ab1⟩ := id B1
      have ne_b1 : b ≠ t := Exa.neArv Eb1 Ab1 (wd hw 147 rfl)
      have ne_b_tx : b ≠ tx := Exa.neArv Eb1 Ax1 (wd hw 147 rfl)
      have ne_x_t : x ≠ t := Exa.neArv Ex Ab1 (wd hw 10 rfl)
      obtain ⟨_, T48, L48, X48, hQ48, go48⟩ := own_cV X0 hx hZ hown (wd hw 187 rfl) (own_decl (wd hw 188 rfl) (wd hw 191 rfl)) (wd hw 190 rfl) (wd hw 188 rfl) (wd hw 156 rfl) (wd hw 191 rfl) (by decide) (W := 0) (rmIS l Z a0 hw [] b x (1 : Int32) G fv h0 n0 Z0 Eb1 Gc1 Ex Fc1 (by decide) W0 O0) (by decide) (by decide) e0 (by decide) (by decide) Eb1 go1 hml.symm (argsL := [(.ref x)]) (rest := []) (lenOf pd_41 rfl) rfl rfl rfl (D 2 rfl)
      obtain ⟨rfl, rfl, e48⟩ := hQ48
      have N48 := Fr.app N0 (Fr.nil n0)
      have go49 : Go p e below E0 T48 m 7 #[(sr b), (si (Int32.ofNat cs.length)), (sr x)] [(.ref b), (.ref x)] := fun tgt kq => go48 tgt (by
        refine XS.aloadN X48.here hx rfl (D 3 rfl) rfl rfl ?_; refine XS.aloadN X48.here hx rfl (D 4 rfl) rfl rfl ?_; exact kq)
      obtain ⟨T50, X50, e50, go50⟩ := own_gF X48 hx hZ hown (wd hw 160 rfl) e48 Gv1 go49 (D 5 rfl)
      have go51 : Go p e below E0 T50 m 12 #[(sr b), (si (Int32.ofNat cs.length)), (sr x)] [(.ref b), (.int (Int32.ofNat cs.length)), (.ref t), (.ref x)] := fun tgt kq => go50 tgt (by
        refine XS.iloadN X50.here hx rfl (D 6 rfl) rfl ?_; refine XS.aloadN X50.here hx rfl (D 7 rfl) rfl rfl ?_; exact kq)
      obtain ⟨T52, X52, e52, go52⟩ := own_gF X50 hx hZ hown (wd hw 162 rfl) e50 Gc1 go51 (D 8 rfl)
      obtain ⟨_, T53, L53, X53, hQ53, go53⟩ := own_cV X52 hx hZ hown (wd hw 193 rfl) (wd hw 194 rfl) (wd hw 196 rfl) (wd hw 195 rfl) (wd hw 11 rfl) (wd hw 197 rfl) (by decide) (W := 0) (rmGS l Z a0 hw [] x tx kx (2 * ds.length) (own_flat ds) t kb (2 * cap) (own_flat cs) cs.length (1 : Int32) G fv h0 n0 Z0 Ex Fv Fc1 (by decide) Ax1 Ab1 gt (own_flat_len ds) (by rw [own_flat_len]; exact own_shl (by omega)) (by rw [own_flat_len]; omega) (by omega) W0 O0) (by decide) (by decide) e52 (by decide) (by decide) Ex go52 hml.symm (argsL := [(.ref t), (.int (Int32.ofNat cs.length)), (.int 1)]) (rest := []) (lenOf pd_42 rfl) rfl rfl rfl (D 9 rfl)
      obtain ⟨rfl, N53q, Kq3, Aq3⟩ := hQ53
      have N53 := Fr.app N48 N53q
      have z54 : n0 ≤ T53.heap.size := Nat.le_trans Z0 Kq3.1
      have K55 : Keep h0 T53.heap [b, t] := (Keep.refl h0 [b, t]).trans Kq3 (allS (Or.inl (List.mem_of_getElem? (i := 1) rfl)) all0)
      have hz := own_nl (cs := cs) u2
      have f56 : E2_ Z T53.heap b := (Eb1.keep Kq3)
      have f57 : F4_ Z T53.heap b (.ref t) := (Gv1.keep Kq3 (ninS ne_b1 nin0))
      have f58 : F1_ Z T53.heap b (.int (1 : Int32)) := (Gc1.keep Kq3 (ninS ne_b1 nin0))
      have f59 : F2_ Z T53.heap b (.int (Int32.ofNat cs.length)) := (Gn1.keep Kq3 (ninS ne_b1 nin0))
      have f60 : F3_ Z T53.heap b (.int (0 : Int32)) := (Gm1.keep Kq3 (ninS ne_b1 nin0))
      obtain ⟨fs, hr, hrun, hended, hW, hsame⟩ := X53.leave (v := none) (fun _ => rfl)
      refine ⟨_, _, go53 _ ?_, hrun, hended, _, _, rfl, ?_, ⟨_, rfl⟩, hW, hsame.mono (by decide) (by decide)⟩
      · exact X53.returnOut hx Bd.returns (D 10 rfl) hr
      · show QPS Z b t kb cap cs x tx kx ds G fv h0 n0 _ T53.heap _
        exact ⟨t, kb, rfl, N53, K55, by rw [own_k1 hz, own_c1 hz, own_by1 hz]; exact ⟨f56, f57, f58, f59, f60, (by rw [own_flat_app]; exact Aq3)⟩, gt⟩
theorem pd_43 : parseMethodDescriptor "(I)V" = some ⟨[.int], none⟩ := by decide +kernel
theorem pd_44 : parseMethodDescriptor "(ILjava/lang/String;)V" = some ⟨[.int, (.object "java/lang/String")], none⟩ := by decide +kernel
def QAP (Z : State) (b : Addr) (t : Addr) (kb : ClassId) (cap : Nat) (cs : List Int32) (x : Addr) (tx : Addr) (kx : ClassId) (ds : List Int32) (G : Int32) (fv : Value) (h0 : Heap) (n0 : Nat) (v : Option Value) (h : Heap) (L : List Loc) : Prop := ∃ (t2 : Addr) (kb2 : ClassId), v = some (.ref b) ∧ Fr n0 L ∧ Keep h0 h [b, t] ∧ own_B Z h b t2 kb2 (own_k (cs ++ ds) * own_cap cap (cs.length + ds.length)) (own_co (cs ++ ds)) (own_by (cs ++ ds)) (cs ++ ds).length ∧ n0 ≤ t2
abbrev RmAP : Room := ({ frames := 8, cells := 2, slots := 3120, locals := 116 } : Room)
theorem rmAP (l : Launch) (Z : State) (a0 : Array Value) (hw : Tb a0 Z) (ws : List Jvm.Cond) (b : Addr) (t : Addr) (kb : ClassId) (cap : Nat) (cs : List Int32) (x : Addr) (tx : Addr) (kx : ClassId) (ds : List Int32) (G : Int32) (fv : Value) (h0 : Heap) (n0 : Nat) (Z0 : n0 ≤ h0.size) (B0 : own_B Z h0 b t kb (own_k cs * cap) (own_co cs) (own_by cs) cs.length) (gb : n0 ≤ b) (gt : n0 ≤ t) (hcap : cap ≤ 517) (hcs : cs.length ≤ cap) (Ex : E1_ Z h0 x) (Fv : F6_ Z h0 x (.ref tx)) (Fc : F5_ Z h0 x (.int (own_co ds))) (Ax : Yb Z h0 tx kx (Int32.ofNat (own_k ds * ds.length)) (own_by ds)) (nxb : x ≠ b) (ntt : tx ≠ t) (hm5 : cs.length + ds.length ≤ 517) (hc2 : own_cap cap (cs.length + ds.length) ≤ 517) (hwc : ∀ c ∈ cs, own_ch c) (hwd : ∀ c ∈ ds, own_ch c) (W0 : own_W Z G fv) (O0 : own_O Z n0 h0) :
    Met l Z h0 (⟨"java/lang/AbstractStringBuilder", "append", "(Ljava/lang/String;)Ljava/lang/AbstractStringBuilder;"⟩ : MethodName) jdk_68_method_22_code 3 (some (.object "java/lang/AbstractStringBuilder")) RmAP ws #[(.ref b), (.ref x)] (QAP Z b t kb cap cs x tx kx ds G fv h0 n0) := by
  refine MetFree.of_bodySF (plainFor_of_name pn_16) hisR ?_
  intro p e s m args below meth c s₁ Bd hml0 hP hK
  obtain ⟨rfl, hZ, hh⟩ := hP
  have hx := Bd.exec
  have hby := Bd.bytes
  have D := dl hby d63_
  have hml : c.maxLocals = 3 := hml0
  have hown : s.vm.findClass "java/lang/AbstractStringBuilder" = some m.cls := findClass_of_methodNamed Bd.named
  have hnm := (name_of_methodNamed Bd.named Bd.method).1
  have X0 : Stand p l e RmAP s m #[(.ref b), (.ref x)] below meth c s₁ [] 0 0 := Stand.of_body Bd
  have e0 : s₁.heap = h0 := by rw [← hh, Bd.state]; rfl
  have N0 := Fr.nil n0
  obtain ⟨E0, hE0⟩ : ∃ z, z = s₁.setTop (entryFrame m #[(.ref b), (.ref x)] 3) := ⟨_, rfl⟩
  rw [← hE0]
  have go0 : Go p e below E0 s₁ m 0 #[(sr b), (sr x), .unset] [] := fun tgt kq => by rw [hE0]; exact castTop (ef_LE m b x) kq
  obtain ⟨Eb0, Gv0, Gc0, Gn0, Gm0, Ab0⟩ := id B0
  have ne_b0 : b ≠ t := Exa.neArv Eb0 Ab0 (wd hw 147 rfl)
  have ne_b_tx : b ≠ tx := Exa.neArv Eb0 Ax (wd hw 147 rfl)
  have qq4 := own_cap_b hcap (show cs.length + ds.length ≤ 518 by omega)
  have go1 : Go p e below E0 s₁ m 10 #[(sr b), (sr x), .unset] [(.ref x)] := fun tgt kq => go0 tgt (by
    refine XS.aloadN X0.here hx rfl (D 0 rfl) rfl rfl ?_; refine XS.ifnonnullYes X0.here hx rfl (pc0 := 1) (pc' := 9) rfl (D 1 rfl) rfl (by decide) (by decide) ?_; refine XS.aloadN X0.here hx rfl (D 2 rfl) rfl rfl ?_; exact kq)
  obtain ⟨_, T2, L2, X2, hQ2, go2⟩ := own_cV X0 hx hZ hown (wd hw 174 rfl) (wd hw 55 rfl) (wd hw 57 rfl) (wd hw 56 rfl) (wd hw 11 rfl) (wd hw 58 rfl) (by decide) (W := 0) (rmLN l Z a0 hw [] x tx kx (Int32.ofNat (own_k ds * ds.length)) (own_by ds) (own_co ds) (Int32.ofNat ds.length) G fv h0 n0 Z0 Ex Fv Fc (own_co_nar ds) Ax (own_lenk (by omega)) W0 O0) (by decide) (by decide) e0 (by decide) (by decide) Ex go1 hml.symm (argsL := []) (rest := []) (lenOf pd_21 rfl) rfl rfl rfl (D 3 rfl)
  obtain ⟨rfl, rfl, e2⟩ := hQ2
  have N2 := Fr.app N0 (Fr.nil n0)
  have go3 : Go p e below E0 T2 m 16 #[(sr b), (sr x), (si (Int32.ofNat ds.length))] [(.ref b), (.ref b)] := fun tgt kq => go2 tgt (by
    refine XS.istoreN X2.here hx rfl (D 4 rfl) rfl (l' := #[(sr b), (sr x), (si (Int32.ofNat ds.length))]) rfl ?_; refine XS.aloadN X2.here hx rfl (D 5 rfl) rfl rfl ?_; refine XS.aloadN X2.here hx rfl (D 6 rfl) rfl rfl ?_; exact kq)
  obtain ⟨T4, X4, e4, go4⟩ := own_gF X2 hx hZ hown (wd hw 175 rfl) e2 Gn0 go3 (D 7 rfl)
  have go5 : Go p e below E0 T4 m 21 #[(sr b), (sr x), (si (Int32.ofNat ds.length))] [(.int ((Int32.ofNat cs.length) + (Int32.ofNat ds.length))), (.ref b)] := fun tgt kq => go4 tgt (by
    refine XS.iloadN X4.here hx rfl (D 8 rfl) rfl ?_; refine XS.iadd X4.here hx rfl (D 9 rfl) rfl ?_; exact kq)
  have go6 : Go p e below E0 T4 m 21 #[(sr b), (sr x), (si (Int32.ofNat ds.length))] [(.int (Int32.ofNat (cs.length + ds.length))), (.ref b)] := by have q := go5; rw [show ((Int32.ofNat cs.length) + (Int32.ofNat ds.length)) = (Int32.ofNat (cs.length + ds.length)) from own_add _ _] at q; exact q
  obtain ⟨_, T7, L7, X7, hQ7, go7⟩ := own_cV X4 hx hZ hown (wd hw 177 rfl) (own_decl (wd hw 178 rfl) (wd hw 181 rfl)) (wd hw 180 rfl) (wd hw 178 rfl) (wd hw 156 rfl) (wd hw 181 rfl) (by decide) (W := 0) (rmEC l Z a0 hw [] b t kb cap cs (cs.length + ds.length) h0 n0 Z0 B0 gb gt hcap hcs (by omega)) (by decide) (by decide) e4 (by decide) (by decide) Eb0 go6 hml.symm (argsL := [(.int (Int32.ofNat (cs.length + ds.length)))]) (rest := []) (lenOf pd_43 rfl) rfl rfl rfl (D 10 rfl)
  obtain ⟨t2, kb2, rfl, N7q, Kq1, B2, gq2, d2⟩ := hQ7
  have N7 := Fr.app N2 N7q
  have z8 : n0 ≤ T7.heap.size := Nat.le_trans Z0 Kq1.1
  have K9 : Keep h0 T7.heap [b, t] := (Keep.refl h0 [b, t]).trans Kq1 (allS (Or.inl (List.mem_of_getElem? (i := 0) rfl)) all0)
  obtain ⟨Eb2, Gv2, Gc2, Gn2, Gm2, Ab2⟩ := id B2
  have ne_b2 : b ≠ t2 := Exa.neArv Eb2 Ab2 (wd hw 147 rfl)
  have ntt2 : tx ≠ t2 := d2.elim (fun e => e ▸ ntt) (fun q => Nat.ne_of_lt (Nat.lt_of_lt_of_le Ax.lt q))
  have go10 : Go p e below E0 T7 m 26 #[(sr b), (sr x), (si (Int32.ofNat ds.length))] [(.ref b), (.ref b)] := fun tgt kq => go7 tgt (by
    refine XS.aloadN X7.here hx rfl (D 11 rfl) rfl rfl ?_; refine XS.aloadN X7.here hx rfl (D 12 rfl) rfl rfl ?_; exact kq)
  obtain ⟨T11, X11, e11, go11⟩ := own_gF X7 hx hZ hown (wd hw 175 rfl) rfl Gn2 go10 (D 13 rfl)
  have f12 : E1_ Z T7.heap x := (Ex.keep Kq1)
  have f13 : F6_ Z T7.heap x (.ref tx) := (Fv.keep Kq1 (ninS nxb nin0))
  have f14 : F5_ Z T7.heap x (.int (own_co ds)) := (Fc.keep Kq1 (ninS nxb nin0))
  have f15 : Yb Z T7.heap tx kx (Int32.ofNat (own_k ds * ds.length)) (own_by ds) := (Ax.keep Kq1 (ninS (Ne.symm ne_b_tx) nin0))
  have f16 : own_O Z n0 T7.heap := (O0.keep Kq1 (allS gb all0))
  have go17 : Go p e below E0 T11 m 30 #[(sr b), (sr x), (si (Int32.ofNat ds.length))] [(.ref x), (.int (Int32.ofNat cs.length)), (.ref b)] := fun tgt kq => go11 tgt (by
    refine XS.aloadN X11.here hx rfl (D 14 rfl) rfl rfl ?_; exact kq)
  obtain ⟨_, T18, L18, X18, hQ18, go18⟩ := own_cV X11 hx hZ hown (wd hw 182 rfl) (own_decl (wd hw 183 rfl) (wd hw 186 rfl)) (wd hw 185 rfl) (wd hw 183 rfl) (wd hw 156 rfl) (wd hw 186 rfl) (by decide) (W := 0) (rmPS l Z a0 hw [] b t2 kb2 (own_cap cap (cs.length + ds.length)) cs x tx kx ds G fv T7.heap n0 z8 B2 gb gq2 hc2 (by omega) f12 f13 f14 f15 nxb ntt2 (by omega) hwc hwd W0 f16) (by decide) (by decide) e11 (by decide) (by decide) Eb2 go17 hml.symm (argsL := [(.int (Int32.ofNat cs.length)), (.ref x)]) (rest := []) (lenOf pd_44 rfl) rfl rfl rfl (D 15 rfl)
  obtain ⟨t3, kb3, rfl, N18q, Kq2, B3, gq3⟩ := hQ18
  have N18 := Fr.app N7 N18q
  have z19 : n0 ≤ T18.heap.size := Nat.le_trans z8 Kq2.1
  have K20 : Keep h0 T18.heap [b, t] := K9.trans Kq2 (allS (Or.inl (List.mem_of_getElem? (i := 0) rfl)) (allS (d2.elim (fun e => Or.inl (by rw [e]; exact List.mem_of_getElem? (i := 1) rfl)) Or.inr) all0))
  obtain ⟨Eb3, Gv3, Gc3, Gn3, Gm3, Ab3⟩ := id B3
  have ne_b3 : b ≠ t3 := Exa.neArv Eb3 Ab3 (wd hw 147 rfl)
  have go21 : Go p e below E0 T18 m 35 #[(sr b), (sr x), (si (Int32.ofNat ds.length))] [(.ref b), (.ref b)] := fun tgt kq => go18 tgt (by
    refine XS.aloadN X18.here hx rfl (D 16 rfl) rfl rfl ?_; refine XS.dup X18.here hx rfl (D 17 rfl) rfl rfl ?_; exact kq)
  obtain ⟨T22, X22, e22, go22⟩ := own_gF X18 hx hZ hown (wd hw 175 rfl) rfl Gn3 go21 (D 18 rfl)
  have go23 : Go p e below E0 T22 m 40 #[(sr b), (sr x), (si (Int32.ofNat ds.length))] [(.int ((Int32.ofNat cs.length) + (Int32.ofNat ds.length))), (.ref b)] := fun tgt kq => go22 tgt (by
    refine XS.iloadN X22.here hx rfl (D 19 rfl) rfl ?_; refine XS.iadd X22.here hx rfl (D 20 rfl) rfl ?_; exact kq)
  have go24 : Go p e below E0 T22 m 40 #[(sr b), (sr x), (si (Int32.ofNat ds.length))] [(.int (Int32.ofNat (cs.length + ds.length))), (.ref b)] := by have q := go23; rw [show ((Int32.ofNat cs.length) + (Int32.ofNat ds.length)) = (Int32.ofNat (cs.length + ds.length)) from own_add _ _] at q; exact q
  obtain ⟨T25, h25, X25, e25, W25, st25⟩ := putF X22 hx hZ hown (host := "") (Or.inl (wd hw 175 rfl)) Via.refl e22 Gn3 Eb3 (Or.inl (wd hw 176 rfl)) (wd hw 147 rfl) (ty := .int) (by decide) rfl rfl (g := (mkF m 40 #[(sr b), (sr x), (si (Int32.ofNat ds.length))] [(.int (Int32.ofNat (cs.length + ds.length))), (.ref b)])) rfl rfl (D 21 rfl)
  have z26 : n0 ≤ h25.size := Nat.le_trans z19 (Keep.of_wr W25).1
  have K27 : Keep h0 h25 [b, t] := K20.wr W25 (Or.inl (List.mem_of_getElem? (i := 0) rfl))
  have N25 := Fr.snoc X25 N18 gb
  have f28 : F2_ Z h25 b (.int (Int32.ofNat (cs.length + ds.length))) := (Gn3.same W25)
  have go25 : Go p e below E0 T25 m 43 #[(sr b), (sr x), (si (Int32.ofNat ds.length))] [] := fun a b => go24 a (st25 a b)
  have f29 : E2_ Z h25 b := (Eb3.wr W25)
  have f30 : F4_ Z h25 b (.ref t3) := (Gv3.other W25 (Or.inr (slot_ne (Or.inl (wd hw 161 rfl)) (Or.inl (wd hw 176 rfl)) (by decide) (t := (.array .byte)) (t' := .int) (by decide) (by decide))))
  have f31 : F1_ Z h25 b (.int (own_co (cs ++ ds))) := (Gc3.other W25 (Or.inr (slot_ne (Or.inl (wd hw 163 rfl)) (Or.inl (wd hw 176 rfl)) (by decide) (t := .byte) (t' := .int) (by decide) (by decide))))
  have f32 : F3_ Z h25 b (.int (0 : Int32)) := (Gm3.other W25 (Or.inr (slot_ne (Or.inl (wd hw 343 rfl)) (Or.inl (wd hw 176 rfl)) (by decide) (t := .boolean) (t' := .int) (by decide) (by decide))))
  have f33 : Yb Z h25 t3 kb3 (Int32.ofNat (own_k (cs ++ ds) * own_cap cap (cs.length + ds.length))) (own_by (cs ++ ds)) := (Ab3.other W25 (Ne.symm ne_b3))
  have go34 : Go p e below E0 T25 m 44 #[(sr b), (sr x), (si (Int32.ofNat ds.length))] [(.ref b)] := fun tgt kq => go25 tgt (by
    refine XS.aloadN X25.here hx rfl (D 22 rfl) rfl rfl ?_; exact kq)
  obtain ⟨fs, hr, hrun, hended, hW, hsame⟩ := X25.leave (v := some (.ref b)) (fun h => by rw [Bd.returns] at h; cases h)
  refine ⟨_, _, go34 _ ?_, hrun, hended, _, _, rfl, ?_, ⟨_, rfl⟩, hW, hsame.mono (by decide) (by decide)⟩
  · exact retOut X25 hx Bd.returns rfl (Or.inr (Or.inr (Or.inr (Or.inr ⟨rfl, rfl, rfl⟩)))) (D 23 rfl) hr
  · show QAP Z b t kb cap cs x tx kx ds G fv h0 n0 _ T25.heap _
    rw [e25]
    exact ⟨t3, kb3, rfl, N25, K27, by rw [List.length_append]; exact ⟨f29, f30, f31, f28, f32, f33⟩, gq3⟩
theorem pd_45 : parseMethodDescriptor "(Ljava/lang/String;)Ljava/lang/AbstractStringBuilder;" = some ⟨[(.object "java/lang/String")], some (.object "java/lang/AbstractStringBuilder")⟩ := by decide +kernel
theorem pn_46 : plainName "java/lang/StringBuilder" = true := by first | (simp [plainName, overriddenIn]; done) | decide +kernel
def QSA (Z : State) (b : Addr) (t : Addr) (kb : ClassId) (cap : Nat) (cs : List Int32) (x : Addr) (tx : Addr) (kx : ClassId) (ds : List Int32) (G : Int32) (fv : Value) (h0 : Heap) (n0 : Nat) (v : Option Value) (h : Heap) (L : List Loc) : Prop := ∃ (t2 : Addr) (kb2 : ClassId), v = some (.ref b) ∧ Fr n0 L ∧ Keep h0 h [b, t] ∧ own_B Z h b t2 kb2 (own_k (cs ++ ds) * own_cap cap (cs.length + ds.length)) (own_co (cs ++ ds)) (own_by (cs ++ ds)) (cs ++ ds).length ∧ n0 ≤ t2
abbrev RmSA : Room := ({ frames := 9, cells := 2, slots := 3120, locals := 130 } : Room)
theorem rmSA (l : Launch) (Z : State) (a0 : Array Value) (hw : Tb a0 Z) (ws : List Jvm.Cond) (b : Addr) (t : Addr) (kb : ClassId) (cap : Nat) (cs : List Int32) (x : Addr) (tx : Addr) (kx : ClassId) (ds : List Int32) (G : Int32) (fv : Value) (h0 : Heap) (n0 : Nat) (Z0 : n0 ≤ h0.size) (B0 : own_B Z h0 b t kb (own_k cs * cap) (own_co cs) (own_by cs) cs.length) (gb : n0 ≤ b) (gt : n0 ≤ t) (hcap : cap ≤ 517) (hcs : cs.length ≤ cap) (Ex : E1_ Z h0 x) (Fv : F6_ Z h0 x (.ref tx)) (Fc : F5_ Z h0 x (.int (own_co ds))) (Ax : Yb Z h0 tx kx (Int32.ofNat (own_k ds * ds.length)) (own_by ds)) (nxb : x ≠ b) (ntt : tx ≠ t) (hm5 : cs.length + ds.length ≤ 517) (hc2 : own_cap cap (cs.length + ds.length) ≤ 517) (hwc : ∀ c ∈ cs, own_ch c) (hwd : ∀ c ∈ ds, own_ch c) (W0 : own_W Z G fv) (O0 : own_O Z n0 h0) :
    Met l Z h0 (⟨"java/lang/StringBuilder", "append", "(Ljava/lang/String;)Ljava/lang/StringBuilder;"⟩ : MethodName) jdk_67_method_7_code 2 (some (.object "java/lang/StringBuilder")) RmSA ws #[(.ref b), (.ref x)] (QSA Z b t kb cap cs x tx kx ds G fv h0 n0) := by
  refine MetFree.of_bodySF (plainFor_of_name pn_46) hisR ?_
  intro p e s m args below meth c s₁ Bd hml0 hP hK
  obtain ⟨rfl, hZ, hh⟩ := hP
  have hx := Bd.exec
  have hby := Bd.bytes
  have D := dl hby d64_
  have hml : c.maxLocals = 2 := hml0
  have hown : s.vm.findClass "java/lang/StringBuilder" = some m.cls := findClass_of_methodNamed Bd.named
  have hnm := (name_of_methodNamed Bd.named Bd.method).1
  have X0 : Stand p l e RmSA s m #[(.ref b), (.ref x)] below meth c s₁ [] 0 0 := Stand.of_body Bd
  have e0 : s₁.heap = h0 := by rw [← hh, Bd.state]; rfl
  have N0 := Fr.nil n0
  obtain ⟨E0, hE0⟩ : ∃ z, z = s₁.setTop (entryFrame m #[(.ref b), (.ref x)] 2) := ⟨_, rfl⟩
  rw [← hE0]
  have go0 : Go p e below E0 s₁ m 0 #[(sr b), (sr x)] [] := fun tgt kq => by rw [hE0]; exact castTop (ef_N520 m b x) kq
  have Eb0 := B0.1
  have go1 : Go p e below E0 s₁ m 2 #[(sr b), (sr x)] [(.ref x), (.ref b)] := fun tgt kq => go0 tgt (by
    refine XS.aloadN X0.here hx rfl (D 0 rfl) rfl rfl ?_; refine XS.aloadN X0.here hx rfl (D 1 rfl) rfl rfl ?_; exact kq)
  obtain ⟨_, T2, L2, X2, hQ2, go2⟩ := own_cU X0 hx hZ hown (wd hw 169 rfl) (own_same ⟨by decide, by decide⟩ (wd hw 172 rfl) (wd hw 233 rfl)) (wd hw 170 rfl) (wd hw 171 rfl) (wd hw 156 rfl) (wd hw 173 rfl) (by decide) (W := 0) (rmAP l Z a0 hw [] b t kb cap cs x tx kx ds G fv h0 n0 Z0 B0 gb gt hcap hcs Ex Fv Fc Ax nxb ntt hm5 hc2 hwc hwd W0 O0) (by decide) (by decide) e0 (by decide) (by decide) Eb0 go1 hml.symm (argsL := [(.ref x)]) (rest := []) (lenOf pd_45 rfl) rfl rfl rfl (D 2 rfl)
  obtain ⟨t2, kb2, rfl, N2q, Kq1, B2, gq2⟩ := hQ2
  have N2 := Fr.app N0 N2q
  have z3 : n0 ≤ T2.heap.size := Nat.le_trans Z0 Kq1.1
  have K4 : Keep h0 T2.heap [b, t] := (Keep.refl h0 [b, t]).trans Kq1 (allS (Or.inl (List.mem_of_getElem? (i := 0) rfl)) (allS (Or.inl (List.mem_of_getElem? (i := 1) rfl)) all0))
  have go5 : Go p e below E0 T2 m 7 #[(sr b), (sr x)] [(.ref b)] := fun tgt kq => go2 tgt (by
    refine XS.pop X2.here hx rfl (D 3 rfl) rfl rfl ?_; refine XS.aloadN X2.here hx rfl (D 4 rfl) rfl rfl ?_; exact kq)
  obtain ⟨fs, hr, hrun, hended, hW, hsame⟩ := X2.leave (v := some (.ref b)) (fun h => by rw [Bd.returns] at h; cases h)
  refine ⟨_, _, go5 _ ?_, hrun, hended, _, _, rfl, ?_, ⟨_, rfl⟩, hW, hsame.mono (by decide) (by decide)⟩
  · exact retOut X2 hx Bd.returns rfl (Or.inr (Or.inr (Or.inr (Or.inr ⟨rfl, rfl, rfl⟩)))) (D 5 rfl) hr
  · show QSA Z b t kb cap cs x tx kx ds G fv h0 n0 _ T2.heap _
    exact ⟨t2, kb2, rfl, N2, K4, B2, gq2⟩
def QPB (Z : State) (t : Addr) (kb : ClassId) (n : Nat) (k : Nat) (cs : List Int32) (cc : Int32) (G : Int32) (fv : Value) (h0 : Heap) (n0 : Nat) (v : Option Value) (h : Heap) (L : List Loc) : Prop := v = none ∧ Fr n0 L ∧ Keep h0 h [t] ∧ Yb Z h t kb (Int32.ofNat (2 * n)) (own_flat (cs ++ [cc]))
abbrev RmPB : Room := ({ frames := 3, cells := 0, slots := 0, locals := 40 } : Room)
theorem rmPB (l : Launch) (Z : State) (a0 : Array Value) (hw : Tb a0 Z) (ws : List Jvm.Cond) (t : Addr) (kb : ClassId) (n : Nat) (k : Nat) (cs : List Int32) (cc : Int32) (G : Int32) (fv : Value) (h0 : Heap) (n0 : Nat) (Z0 : n0 ≤ h0.size) (A0 : Yb Z h0 t kb (Int32.ofNat (2 * n)) (own_flat cs)) (gt : n0 ≤ t) (hk : k = cs.length) (hn : k < n) (hn2 : n ≤ 2100) (W0 : own_W Z G fv) (O0 : own_O Z n0 h0) :
    Met l Z h0 (⟨"java/lang/StringUTF16", "putCharSB", "([BII)V"⟩ : MethodName) jdk_52_method_71_code 3 none RmPB ws #[(.ref t), (.int (Int32.ofNat k)), (.int cc)] (QPB Z t kb n k cs cc G fv h0 n0) := by
  refine MetFree.of_bodySF (plainFor_of_name pn_0) hisR ?_
  intro p e s m args below meth c s₁ Bd hml0 hP hK
  obtain ⟨rfl, hZ, hh⟩ := hP
  have hx := Bd.exec
  have hby := Bd.bytes
  have D := dl hby d65_
  have hml : c.maxLocals = 3 := hml0
  have hown : s.vm.findClass "java/lang/StringUTF16" = some m.cls := findClass_of_methodNamed Bd.named
  have hnm := (name_of_methodNamed Bd.named Bd.method).1
  have X0 : Stand p l e RmPB s m #[(.ref t), (.int (Int32.ofNat k)), (.int cc)] below meth c s₁ [] 0 0 := Stand.of_body Bd
  have e0 : s₁.heap = h0 := by rw [← hh, Bd.state]; rfl
  have N0 := Fr.nil n0
  obtain ⟨E0, hE0⟩ : ∃ z, z = s₁.setTop (entryFrame m #[(.ref t), (.int (Int32.ofNat k)), (.int cc)] 3) := ⟨_, rfl⟩
  rw [← hE0]
  have go0 : Go p e below E0 s₁ m 0 #[(sr t), (si (Int32.ofNat k)), (si cc)] [] := fun tgt kq => by rw [hE0]; exact castTop (ef_PU m t (Int32.ofNat k) cc) kq
  have go1 : Go p e below E0 s₁ m 2 #[(sr t), (si (Int32.ofNat k)), (si cc)] [(.ref t), (.int (Int32.ofNat k))] := fun tgt kq => go0 tgt (by
    refine XS.iloadN X0.here hx rfl (D 0 rfl) rfl ?_; refine XS.aloadN X0.here hx rfl (D 1 rfl) rfl rfl ?_; exact kq)
  obtain ⟨_, T2, L2, X2, hQ2, go2⟩ := own_cS X0 hx hZ hown (wd hw 287 rfl) (wd hw 288 rfl) (wd hw 26 rfl) (wd hw 289 rfl) (by decide) (W := 0) (rmUC l Z a0 hw [] t kb (Int32.ofNat (2 * n)) (own_flat cs) (Int32.ofNat n) (Int32.ofNat k) G fv h0 n0 Z0 A0 (own_shr (by omega)) (own_nn (by omega)) (own_lt (by omega) hn) W0 O0) (by decide) (by decide) e0 (by decide) (by decide) go1 hml.symm (argsL := [(.int (Int32.ofNat k)), (.ref t)]) (rest := []) (lenOf pd_15 rfl) rfl rfl rfl (D 2 rfl)
  obtain ⟨rfl, rfl, e2⟩ := hQ2
  have N2 := Fr.app N0 (Fr.nil n0)
  have go3 : Go p e below E0 T2 m 8 #[(sr t), (si (Int32.ofNat k)), (si cc)] [(.int cc), (.int (Int32.ofNat k)), (.ref t)] := fun tgt kq => go2 tgt (by
    refine XS.aloadN X2.here hx rfl (D 3 rfl) rfl rfl ?_; refine XS.iloadN X2.here hx rfl (D 4 rfl) rfl ?_; refine XS.iloadN X2.here hx rfl (D 5 rfl) rfl ?_; exact kq)
  obtain ⟨_, T4, L4, X4, hQ4, go4⟩ := own_cS X2 hx hZ hown (wd hw 275 rfl) (wd hw 276 rfl) (wd hw 26 rfl) (wd hw 277 rfl) (by decide) (W := 0) (rmPU l Z a0 hw [] t kb n k cs cc G fv h0 n0 Z0 A0 gt hk hn hn2 W0 O0) (by decide) (by decide) e2 (by decide) (by decide) go3 hml.symm (argsL := [(.ref t), (.int (Int32.ofNat k)), (.int cc)]) (rest := []) (lenOf pd_3 rfl) rfl rfl rfl (D 6 rfl)
  obtain ⟨rfl, N4q, Kq1, Aq1⟩ := hQ4
  have N4 := Fr.app N2 N4q
  have z5 : n0 ≤ T4.heap.size := Nat.le_trans Z0 Kq1.1
  have K6 : Keep h0 T4.heap [t] := (Keep.refl h0 [t]).trans Kq1 (allS (Or.inl (List.mem_of_getElem? (i := 0) rfl)) all0)
  obtain ⟨fs, hr, hrun, hended, hW, hsame⟩ := X4.leave (v := none) (fun _ => rfl)
  refine ⟨_, _, go4 _ ?_, hrun, hended, _, _, rfl, ?_, ⟨_, rfl⟩, hW, hsame.mono (by decide) (by decide)⟩
  · exact X4.returnOut hx Bd.returns (D 7 rfl) hr
  · show QPB Z t kb n k cs cc G fv h0 n0 _ T4.heap _
    exact ⟨rfl, N4, K6, Aq1⟩
def QAC (Z : State) (b : Addr) (t : Addr) (kb : ClassId) (cap : Nat) (cs : List Int32) (G : Int32) (fv : Value) (h0 : Heap) (n0 : Nat) (v : Option Value) (h : Heap) (L : List Loc) : Prop := ∃ (t2 : Addr) (kb2 : ClassId), v = some (.ref b) ∧ Fr n0 L ∧ Keep h0 h [b, t] ∧ own_B Z h b t2 kb2 (own_k (cs ++ [125]) * own_cap cap (cs.length + 1)) (own_co (cs ++ [125])) (own_by (cs ++ [125])) (cs ++ [125]).length ∧ n0 ≤ t2
abbrev RmAC : Room := ({ frames := 4, cells := 1, slots := 2080, locals := 62 } : Room)
theorem rmAC (l : Launch) (Z : State) (a0 : Array Value) (hw : Tb a0 Z) (ws : List Jvm.Cond) (b : Addr) (t : Addr) (kb : ClassId) (cap : Nat) (cs : List Int32) (G : Int32) (fv : Value) (h0 : Heap) (n0 : Nat) (Z0 : n0 ≤ h0.size) (B0 : own_B Z h0 b t kb (own_k cs * cap) (own_co cs) (own_by cs) cs.length) (gb : n0 ≤ b) (gt : n0 ≤ t) (hcap : cap ≤ 517) (hcs : cs.length ≤ cap) (hm5 : cs.length + 1 ≤ 518) (hwc : ∀ c ∈ cs, own_ch c) (W0 : own_W Z G fv) (O0 : own_O Z n0 h0) :
    Met l Z h0 (⟨"java/lang/AbstractStringBuilder", "append", "(C)Ljava/lang/AbstractStringBuilder;"⟩ : MethodName) jdk_68_method_31_code 2 (some (.object "java/lang/AbstractStringBuilder")) RmAC ws #[(.ref b), (.int (125 : Int32))] (QAC Z b t kb cap cs G fv h0 n0) := by
  refine MetFree.of_bodySF (plainFor_of_name pn_16) hisR ?_
  intro p e s m args below meth c s₁ Bd hml0 hP hK
  obtain ⟨rfl, hZ, hh⟩ := hP
  have hx := Bd.exec
  have hby := Bd.bytes
  have D := dl hby d66_
  have hml : c.maxLocals = 2 := hml0
  have hown : s.vm.findClass "java/lang/AbstractStringBuilder" = some m.cls := findClass_of_methodNamed Bd.named
  have hnm := (name_of_methodNamed Bd.named Bd.method).1
  have X0 : Stand p l e RmAC s m #[(.ref b), (.int (125 : Int32))] below meth c s₁ [] 0 0 := Stand.of_body Bd
  have e0 : s₁.heap = h0 := by rw [← hh, Bd.state]; rfl
  have N0 := Fr.nil n0
  obtain ⟨E0, hE0⟩ : ∃ z, z = s₁.setTop (entryFrame m #[(.ref b), (.int (125 : Int32))] 2) := ⟨_, rfl⟩
  rw [← hE0]
  have go0 : Go p e below E0 s₁ m 0 #[(sr b), (si 125)] [] := fun tgt kq => by rw [hE0]; exact castTop (ef_GC m b (125 : Int32)) kq
  obtain ⟨Eb0, Gv0, Gc0, Gn0, Gm0, Ab0⟩ := id B0
  have ne_b0 : b ≠ t := Exa.neArv Eb0 Ab0 (wd hw 147 rfl)
  have qq4 := own_cap_b hcap hm5
  have go1 : Go p e below E0 s₁ m 2 #[(sr b), (si 125)] [(.ref b), (.ref b)] := fun tgt kq => go0 tgt (by
    refine XS.aloadN X0.here hx rfl (D 0 rfl) rfl rfl ?_; refine XS.aloadN X0.here hx rfl (D 1 rfl) rfl rfl ?_; exact kq)
  obtain ⟨T2, X2, e2, go2⟩ := own_gF X0 hx hZ hown (wd hw 175 rfl) e0 Gn0 go1 (D 2 rfl)
  have go3 : Go p e below E0 T2 m 7 #[(sr b), (si 125)] [(.int ((Int32.ofNat cs.length) + (1 : Int32))), (.ref b)] := fun tgt kq => go2 tgt (by
    refine XS.iconst X2.here hx rfl (D 3 rfl) ?_; refine XS.iadd X2.here hx rfl (D 4 rfl) rfl ?_; exact kq)
  have go4 : Go p e below E0 T2 m 7 #[(sr b), (si 125)] [(.int (Int32.ofNat (cs.length + 1))), (.ref b)] := by have q := go3; rw [show ((Int32.ofNat cs.length) + (1 : Int32)) = (Int32.ofNat (cs.length + 1)) from own_succ _] at q; exact q
  obtain ⟨_, T5, L5, X5, hQ5, go5⟩ := own_cV X2 hx hZ hown (wd hw 177 rfl) (own_decl (wd hw 178 rfl) (wd hw 181 rfl)) (wd hw 180 rfl) (wd hw 178 rfl) (wd hw 156 rfl) (wd hw 181 rfl) (by decide) (W := 0) (rmEC l Z a0 hw [] b t kb cap cs (cs.length + 1) h0 n0 Z0 B0 gb gt hcap hcs hm5) (by decide) (by decide) e2 (by decide) (by decide) Eb0 go4 hml.symm (argsL := [(.int (Int32.ofNat (cs.length + 1)))]) (rest := []) (lenOf pd_43 rfl) rfl rfl rfl (D 5 rfl)
  obtain ⟨t2, kb2, rfl, N5q, Kq1, B2, gq2, d2⟩ := hQ5
  have N5 := Fr.app N0 N5q
  have z6 : n0 ≤ T5.heap.size := Nat.le_trans Z0 Kq1.1
  have K7 : Keep h0 T5.heap [b, t] := (Keep.refl h0 [b, t]).trans Kq1 (allS (Or.inl (List.mem_of_getElem? (i := 0) rfl)) all0)
  by_cases u1 : own_l1 cs = true
  · have B3 : own_B Z T5.heap b t2 kb2 (own_cap cap (cs.length + 1)) (0 : Int32) (own_lats cs) cs.length := by have q := B2; rw [own_k0 u1, own_c0 u1, own_by0 u1, Nat.one_mul] at q; exact q
    obtain ⟨Eb3, Gv3, Gc3, Gn3, Gm3, Ab3⟩ := id B3
    have ne_b3 : b ≠ t2 := Exa.neArv Eb3 Ab3 (wd hw 147 rfl)
    have f8 : own_O Z n0 T5.heap := (O0.keep Kq1 (allS gb all0))
    have go9 : Go p e below E0 T5 m 11 #[(sr b), (si 125)] [(.ref b)] := fun tgt kq => go5 tgt (by
      refine XS.aloadN X5.here hx rfl (D 6 rfl) rfl rfl ?_; exact kq)
    obtain ⟨_, T10, L10, X10, hQ10, go10⟩ := own_cV X5 hx hZ hown (wd hw 212 rfl) (wd hw 213 rfl) (wd hw 215 rfl) (wd hw 214 rfl) (wd hw 156 rfl) (wd hw 216 rfl) (by decide) (W := 0) (rmBL0 l Z a0 hw [] b G fv T5.heap n0 z6 Gc3 W0 f8) (by decide) (by decide) rfl (by decide) (by decide) Eb3 go9 hml.symm (argsL := []) (rest := []) (lenOf pd_18 rfl) rfl rfl rfl (D 7 rfl)
    obtain ⟨rfl, rfl, e10⟩ := hQ10
    have N10 := Fr.app N5 (Fr.nil n0)
    have go11 : Go p e below E0 T10 m 18 #[(sr b), (si 125)] [(.int 125)] := fun tgt kq => go10 tgt (by
      refine XS.ifNo X10.here hx rfl (D 8 rfl) rfl ((if0 _ _).trans (feq (by decide)).1) ?_; refine XS.iloadN X10.here hx rfl (D 9 rfl) rfl ?_; exact kq)
    obtain ⟨_, T12, L12, X12, hQ12, go12⟩ := own_cS X10 hx hZ hown (wd hw 217 rfl) (wd hw 131 rfl) (wd hw 76 rfl) (wd hw 132 rfl) (by decide) (W := 0) (rmCC1 l Z a0 hw [] (125 : Int32) T5.heap n0 z6 (by decide)) (by decide) (by decide) e10 (by decide) (by decide) go11 hml.symm (argsL := [(.int 125)]) (rest := []) (lenOf pd_23 rfl) rfl rfl rfl (D 10 rfl)
    obtain ⟨rfl, rfl, e12⟩ := hQ12
    have N12 := Fr.app N10 (Fr.nil n0)
    have go13 : Go p e below E0 T12 m 25 #[(sr b), (si 125)] [(.ref b)] := fun tgt kq => go12 tgt (by
      refine XS.ifNo X12.here hx rfl (D 11 rfl) rfl ((if0 _ _).trans (feq (by decide)).1) ?_; refine XS.aloadN X12.here hx rfl (D 12 rfl) rfl rfl ?_; exact kq)
    obtain ⟨T14, X14, e14, go14⟩ := own_gF X12 hx hZ hown (wd hw 160 rfl) e12 Gv3 go13 (D 13 rfl)
    have go15 : Go p e below E0 T14 m 30 #[(sr b), (si 125)] [(.ref b), (.ref b), (.ref t2)] := fun tgt kq => go14 tgt (by
      refine XS.aloadN X14.here hx rfl (D 14 rfl) rfl rfl ?_; refine XS.dup X14.here hx rfl (D 15 rfl) rfl rfl ?_; exact kq)
    obtain ⟨T16, X16, e16, go16⟩ := own_gF X14 hx hZ hown (wd hw 175 rfl) e14 Gn3 go15 (D 16 rfl)
    have go17 : Go p e below E0 T16 m 36 #[(sr b), (si 125)] [(.int ((Int32.ofNat cs.length) + (1 : Int32))), (.ref b), (.int (Int32.ofNat cs.length)), (.ref t2)] := fun tgt kq => go16 tgt (by
      refine XS.dupX1 X16.here hx rfl (D 17 rfl) rfl rfl rfl ?_; refine XS.iconst X16.here hx rfl (D 18 rfl) ?_; refine XS.iadd X16.here hx rfl (D 19 rfl) rfl ?_; exact kq)
    have go18 : Go p e below E0 T16 m 36 #[(sr b), (si 125)] [(.int (Int32.ofNat (cs.length + 1))), (.ref b), (.int (Int32.ofNat cs.length)), (.ref t2)] := by have q := go17; rw [show ((Int32.ofNat cs.length) + (1 : Int32)) = (Int32.ofNat (cs.length + 1)) from own_succ _] at q; exact q
    obtain ⟨T19, h19, X19, e19, W19, st19⟩ := putF X16 hx hZ hown (host := "") (Or.inl (wd hw 175 rfl)) Via.refl e16 Gn3 Eb3 (Or.inl (wd hw 176 rfl)) (wd hw 147 rfl) (ty := .int) (by decide) rfl rfl (g := (mkF m 36 #[(sr b), (si 125)] [(.int (Int32.ofNat (cs.length + 1))), (.ref b), (.int (Int32.ofNat cs.length)), (.ref t2)])) rfl rfl (D 20 rfl)
    have z20 : n0 ≤ h19.size := Nat.le_trans z6 (Keep.of_wr W19).1
    have K21 : Keep h0 h19 [b, t] := K7.wr W19 (Or.inl (List.mem_of_getElem? (i := 0) rfl))
    have N19 := Fr.snoc X19 N12 gb
    have f22 : F2_ Z h19 b (.int (Int32.ofNat (cs.length + 1))) := (Gn3.same W19)
    have go19 : Go p e below E0 T19 m 39 #[(sr b), (si 125)] [(.int (Int32.ofNat cs.length)), (.ref t2)] := fun a b => go18 a (st19 a b)
    have hl2 := own_lats_len cs
    have go23 : Go p e below E0 T19 m 41 #[(sr b), (si 125)] [(.int ((125 : Int32).toInt8.toInt32)), (.int (Int32.ofNat cs.length)), (.ref t2)] := fun tgt kq => go19 tgt (by
      refine XS.iloadN X19.here hx rfl (D 21 rfl) rfl ?_; refine XS.i2b X19.here hx rfl (D 22 rfl) rfl ?_; exact kq)
    have f24 : Yb Z h19 t2 kb2 (Int32.ofNat (own_cap cap (cs.length + 1))) (own_lats cs) := (Ab3.other W19 (Ne.symm ne_b3))
    have p25 : Yb Z h19 t2 kb2 (Int32.ofNat (own_cap cap (cs.length + 1))) ((own_lats cs) ++ [(.int (0 : Int32))]) := f24.pad (pad_rep (own_lats cs) (.int (0 : Int32)) 1)
    obtain ⟨c25, Ar25, q25, S25, M25, Hh25, G25⟩ := id p25
    obtain ⟨T25, h25, X25, e25, W25, st25⟩ := stB X19 hx hZ e19 Ar25 (j := (Int32.ofNat cs.length)) (inb_of S25 ⟨own_nn (by omega), own_lt (by omega) (by omega)⟩) (g := (mkF m 41 #[(sr b), (si 125)] [(.int ((125 : Int32).toInt8.toInt32)), (.int (Int32.ofNat cs.length)), (.ref t2)])) rfl rfl (D 23 rfl)
    have z26 : n0 ≤ h25.size := Nat.le_trans z20 (Keep.of_wr W25).1
    have K27 : Keep h0 h25 [b, t] := K21.wr W25 (d2.elim (fun e => Or.inl (by rw [e]; exact List.mem_of_getElem? (i := 1) rfl)) Or.inr)
    have N25 := Fr.snoc X25 N19 gq2
    have f28 : Yb Z h25 t2 kb2 (Int32.ofNat (own_cap cap (cs.length + 1))) ((own_lats cs) ++ [(Value.int (own_lo 125))]) := (by rw [← own_push (own_lats cs) (.int (0 : Int32)) (Value.int (own_lo 125))]; exact Arv.set Ar25 q25 S25 M25 Hh25 G25 (fits_nar_byte _) W25 (own_lats cs).length (by rw [own_cl (by omega), hl2]) (by simp))
    have go25 : Go p e below E0 T25 m 42 #[(sr b), (si 125)] [] := fun a b => go23 a (st25 a b)
    have hz := own_la u1 (own_l1_one (c := 125) (by decide))
    have f29 : E2_ Z h25 b := ((Eb3.wr W19).wr W25)
    have f30 : F4_ Z h25 b (.ref t2) := ((Gv3.other W19 (Or.inr (slot_ne (Or.inl (wd hw 161 rfl)) (Or.inl (wd hw 176 rfl)) (by decide) (t := (.array .byte)) (t' := .int) (by decide) (by decide)))).other W25 (Or.inl ne_b3))
    have f31 : F1_ Z h25 b (.int (0 : Int32)) := ((Gc3.other W19 (Or.inr (slot_ne (Or.inl (wd hw 163 rfl)) (Or.inl (wd hw 176 rfl)) (by decide) (t := .byte) (t' := .int) (by decide) (by decide)))).other W25 (Or.inl ne_b3))
    have f32 : F2_ Z h25 b (.int (Int32.ofNat (cs.length + 1))) := (f22.other W25 (Or.inl ne_b3))
    have f33 : F3_ Z h25 b (.int (0 : Int32)) := ((Gm3.other W19 (Or.inr (slot_ne (Or.inl (wd hw 343 rfl)) (Or.inl (wd hw 176 rfl)) (by decide) (t := .boolean) (t' := .int) (by decide) (by decide)))).other W25 (Or.inl ne_b3))
    have go34 : Go p e below E0 T25 m 76 #[(sr b), (si 125)] [(.ref b)] := fun tgt kq => go25 tgt (by
      refine XS.goto X25.here hx rfl (pc0 := 42) (pc' := 75) rfl (D 24 rfl) (by decide) (by decide) ?_; refine XS.aloadN X25.here hx rfl (D 25 rfl) rfl rfl ?_; exact kq)
    obtain ⟨fs, hr, hrun, hended, hW, hsame⟩ := X25.leave (v := some (.ref b)) (fun h => by rw [Bd.returns] at h; cases h)
    refine ⟨_, _, go34 _ ?_, hrun, hended, _, _, rfl, ?_, ⟨_, rfl⟩, hW, hsame.mono (by decide) (by decide)⟩
    · exact retOut X25 hx Bd.returns rfl (Or.inr (Or.inr (Or.inr (Or.inr ⟨rfl, rfl, rfl⟩)))) (D 26 rfl) hr
    · show QAC Z b t kb cap cs G fv h0 n0 _ T25.heap _
      rw [e25]
      exact ⟨t2, kb2, rfl, N25, K27, by rw [own_k0 hz, own_c0 hz, own_by0 hz, Nat.one_mul, List.length_append]; exact ⟨f29, f30, f31, f32, f33, (by rw [own_lats_app]; exact f28)⟩, gq2⟩
  · have B3 : own_B Z T5.heap b t2 kb2 (2 * own_cap cap (cs.length + 1)) (1 : Int32) (own_flat cs) cs.length := by have q := B2; rw [own_k1 u1, own_c1 u1, own_by1 u1] at q; exact q
    obtain ⟨Eb3, Gv3, Gc3, Gn3, Gm3, Ab3⟩ := id B3
    have ne_b3 : b ≠ t2 := Exa.neArv Eb3 Ab3 (wd hw 147 rfl)
    have f35 : own_O Z n0 T5.heap := (O0.keep Kq1 (allS gb all0))
    have go36 : Go p e below E0 T5 m 11 #[(sr b), (si 125)] [(.ref b)] := fun tgt kq => go5 tgt (by
      refine XS.aloadN X5.here hx rfl (D 6 rfl) rfl rfl ?_; exact kq)
    obtain ⟨_, T37, L37, X37, hQ37, go37⟩ := own_cV X5 hx hZ hown (wd hw 212 rfl) (wd hw 213 rfl) (wd hw 215 rfl) (wd hw 214 rfl) (wd hw 156 rfl) (wd hw 216 rfl) (by decide) (W := 0) (rmBL1 l Z a0 hw [] b G fv T5.heap n0 z6 Gc3 W0 f35) (by decide) (by decide) rfl (by decide) (by decide) Eb3 go36 hml.symm (argsL := []) (rest := []) (lenOf pd_18 rfl) rfl rfl rfl (D 7 rfl)
    obtain ⟨rfl, rfl, e37⟩ := hQ37
    have N37 := Fr.app N5 (Fr.nil n0)
    have go38 : Go p e below E0 T37 m 46 #[(sr b), (si 125)] [(.ref b)] := fun tgt kq => go37 tgt (by
      refine XS.ifYes X37.here hx rfl (pc0 := 14) (pc' := 45) rfl (D 8 rfl) rfl ((if0 _ _).trans (teq rfl).1) (by decide) (by decide) ?_; refine XS.aloadN X37.here hx rfl (D 27 rfl) rfl rfl ?_; exact kq)
    obtain ⟨_, T39, L39, X39, hQ39, go39⟩ := own_cV X37 hx hZ hown (wd hw 212 rfl) (wd hw 213 rfl) (wd hw 215 rfl) (wd hw 214 rfl) (wd hw 156 rfl) (wd hw 216 rfl) (by decide) (W := 0) (rmBL1 l Z a0 hw [] b G fv T5.heap n0 z6 Gc3 W0 f35) (by decide) (by decide) e37 (by decide) (by decide) Eb3 go38 hml.symm (argsL := []) (rest := []) (lenOf pd_18 rfl) rfl rfl rfl (D 28 rfl)
    obtain ⟨rfl, rfl, e39⟩ := hQ39
    have N39 := Fr.app N37 (Fr.nil n0)
    have go40 : Go p e below E0 T39 m 57 #[(sr b), (si 125)] [(.ref b)] := fun tgt kq => go39 tgt (by
      refine XS.ifYes X39.here hx rfl (pc0 := 49) (pc' := 56) rfl (D 29 rfl) rfl ((if0 _ _).trans (teq rfl).1) (by decide) (by decide) ?_; refine XS.aloadN X39.here hx rfl (D 30 rfl) rfl rfl ?_; exact kq)
    obtain ⟨T41, X41, e41, go41⟩ := own_gF X39 hx hZ hown (wd hw 160 rfl) e39 Gv3 go40 (D 31 rfl)
    have go42 : Go p e below E0 T41 m 62 #[(sr b), (si 125)] [(.ref b), (.ref b), (.ref t2)] := fun tgt kq => go41 tgt (by
      refine XS.aloadN X41.here hx rfl (D 32 rfl) rfl rfl ?_; refine XS.dup X41.here hx rfl (D 33 rfl) rfl rfl ?_; exact kq)
    obtain ⟨T43, X43, e43, go43⟩ := own_gF X41 hx hZ hown (wd hw 175 rfl) e41 Gn3 go42 (D 34 rfl)
    have go44 : Go p e below E0 T43 m 68 #[(sr b), (si 125)] [(.int ((Int32.ofNat cs.length) + (1 : Int32))), (.ref b), (.int (Int32.ofNat cs.length)), (.ref t2)] := fun tgt kq => go43 tgt (by
      refine XS.dupX1 X43.here hx rfl (D 35 rfl) rfl rfl rfl ?_; refine XS.iconst X43.here hx rfl (D 36 rfl) ?_; refine XS.iadd X43.here hx rfl (D 37 rfl) rfl ?_; exact kq)
    have go45 : Go p e below E0 T43 m 68 #[(sr b), (si 125)] [(.int (Int32.ofNat (cs.length + 1))), (.ref b), (.int (Int32.ofNat cs.length)), (.ref t2)] := by have q := go44; rw [show ((Int32.ofNat cs.length) + (1 : Int32)) = (Int32.ofNat (cs.length + 1)) from own_succ _] at q; exact q
    obtain ⟨T46, h46, X46, e46, W46, st46⟩ := putF X43 hx hZ hown (host := "") (Or.inl (wd hw 175 rfl)) Via.refl e43 Gn3 Eb3 (Or.inl (wd hw 176 rfl)) (wd hw 147 rfl) (ty := .int) (by decide) rfl rfl (g := (mkF m 68 #[(sr b), (si 125)] [(.int (Int32.ofNat (cs.length + 1))), (.ref b), (.int (Int32.ofNat cs.length)), (.ref t2)])) rfl rfl (D 38 rfl)
    have z47 : n0 ≤ h46.size := Nat.le_trans z6 (Keep.of_wr W46).1
    have K48 : Keep h0 h46 [b, t] := K7.wr W46 (Or.inl (List.mem_of_getElem? (i := 0) rfl))
    have N46 := Fr.snoc X46 N39 gb
    have f49 : F2_ Z h46 b (.int (Int32.ofNat (cs.length + 1))) := (Gn3.same W46)
    have go46 : Go p e below E0 T46 m 71 #[(sr b), (si 125)] [(.int (Int32.ofNat cs.length)), (.ref t2)] := fun a b => go45 a (st46 a b)
    have f50 : Yb Z h46 t2 kb2 (Int32.ofNat (2 * own_cap cap (cs.length + 1))) (own_flat cs) := (Ab3.other W46 (Ne.symm ne_b3))
    have f51 : own_O Z n0 h46 := (f35.wr W46 gb)
    have go52 : Go p e below E0 T46 m 72 #[(sr b), (si 125)] [(.int 125), (.int (Int32.ofNat cs.length)), (.ref t2)] := fun tgt kq => go46 tgt (by
      refine XS.iloadN X46.here hx rfl (D 39 rfl) rfl ?_; exact kq)
    obtain ⟨_, T53, L53, X53, hQ53, go53⟩ := own_cS X46 hx hZ hown (wd hw 339 rfl) (wd hw 340 rfl) (wd hw 26 rfl) (wd hw 341 rfl) (by decide) (W := 0) (rmPB l Z a0 hw [] t2 kb2 (own_cap cap (cs.length + 1)) cs.length cs (125 : Int32) G fv h46 n0 z47 f50 gq2 rfl (by omega) (by omega) W0 f51) (by decide) (by decide) e46 (by decide) (by decide) go52 hml.symm (argsL := [(.ref t2), (.int (Int32.ofNat cs.length)), (.int 125)]) (rest := []) (lenOf pd_3 rfl) rfl rfl rfl (D 40 rfl)
    obtain ⟨rfl, N53q, Kq4, Aq4⟩ := hQ53
    have N53 := Fr.app N46 N53q
    have z54 : n0 ≤ T53.heap.size := Nat.le_trans z47 Kq4.1
    have K55 : Keep h0 T53.heap [b, t] := K48.trans Kq4 (allS (d2.elim (fun e => Or.inl (by rw [e]; exact List.mem_of_getElem? (i := 1) rfl)) Or.inr) all0)
    have hz := own_nr (ds := [125]) u1
    have f56 : E2_ Z T53.heap b := ((Eb3.wr W46).keep Kq4)
    have f57 : F4_ Z T53.heap b (.ref t2) := ((Gv3.other W46 (Or.inr (slot_ne (Or.inl (wd hw 161 rfl)) (Or.inl (wd hw 176 rfl)) (by decide) (t := (.array .byte)) (t' := .int) (by decide) (by decide)))).keep Kq4 (ninS ne_b3 nin0))
    have f58 : F1_ Z T53.heap b (.int (1 : Int32)) := ((Gc3.other W46 (Or.inr (slot_ne (Or.inl (wd hw 163 rfl)) (Or.inl (wd hw 176 rfl)) (by decide) (t := .byte) (t' := .int) (by decide) (by decide)))).keep Kq4 (ninS ne_b3 nin0))
    have f59 : F2_ Z T53.heap b (.int (Int32.ofNat (cs.length + 1))) := (f49.keep Kq4 (ninS ne_b3 nin0))
    have f60 : F3_ Z T53.heap b (.int (0 : Int32)) := ((Gm3.other W46 (Or.inr (slot_ne (Or.inl (wd hw 343 rfl)) (Or.inl (wd hw 176 rfl)) (by decide) (t := .boolean) (t' := .int) (by decide) (by decide)))).keep Kq4 (ninS ne_b3 nin0))
    have go61 : Go p e below E0 T53 m 76 #[(sr b), (si 125)] [(.ref b)] := fun tgt kq => go53 tgt (by
      refine XS.aloadN X53.here hx rfl (D 25 rfl) rfl rfl ?_; exact kq)
    obtain ⟨fs, hr, hrun, hended, hW, hsame⟩ := X53.leave (v := some (.ref b)) (fun h => by rw [Bd.returns] at h; cases h)
    refine ⟨_, _, go61 _ ?_, hrun, hended, _, _, rfl, ?_, ⟨_, rfl⟩, hW, hsame.mono (by decide) (by decide)⟩
    · exact retOut X53 hx Bd.returns rfl (Or.inr (Or.inr (Or.inr (Or.inr ⟨rfl, rfl, rfl⟩)))) (D 26 rfl) hr
    · show QAC Z b t kb cap cs G fv h0 n0 _ T53.heap _
      exact ⟨t2, kb2, rfl, N53, K55, by rw [own_k1 hz, own_c1 hz, own_by1 hz, List.length_append]; exact ⟨f56, f57, f58, f59, f60, Aq4⟩, gq2⟩
theorem pd_47 : parseMethodDescriptor "(C)Ljava/lang/AbstractStringBuilder;" = some ⟨[.char], some (.object "java/lang/AbstractStringBuilder")⟩ := by decide +kernel
def QSC (Z : State) (b : Addr) (t : Addr) (kb : ClassId) (cap : Nat) (cs : List Int32) (G : Int32) (fv : Value) (h0 : Heap) (n0 : Nat) (v : Option Value) (h : Heap) (L : List Loc) : Prop := ∃ (t2 : Addr) (kb2 : ClassId), v = some (.ref b) ∧ Fr n0 L ∧ Keep h0 h [b, t] ∧ own_B Z h b t2 kb2 (own_k (cs ++ [125]) * own_cap cap (cs.length + 1)) (own_co (cs ++ [125])) (own_by (cs ++ [125])) (cs ++ [125]).length ∧ n0 ≤ t2
abbrev RmSC : Room := ({ frames := 5, cells := 1, slots := 2080, locals := 75 } : Room)
theorem rmSC (l : Launch) (Z : State) (a0 : Array Value) (hw : Tb a0 Z) (ws : List Jvm.Cond) (b : Addr) (t : Addr) (kb : ClassId) (cap : Nat) (cs : List Int32) (G : Int32) (fv : Value) (h0 : Heap) (n0 : Nat) (Z0 : n0 ≤ h0.size) (B0 : own_B Z h0 b t kb (own_k cs * cap) (own_co cs) (own_by cs) cs.length) (gb : n0 ≤ b) (gt : n0 ≤ t) (hcap : cap ≤ 517) (hcs : cs.length ≤ cap) (hm5 : cs.length + 1 ≤ 518) (hwc : ∀ c ∈ cs, own_ch c) (W0 : own_W Z G fv) (O0 : own_O Z n0 h0) :
    Met l Z h0 (⟨"java/lang/StringBuilder", "append", "(C)Ljava/lang/StringBuilder;"⟩ : MethodName) jdk_67_method_14_code 2 (some (.object "java/lang/StringBuilder")) RmSC ws #[(.ref b), (.int (125 : Int32))] (QSC Z b t kb cap cs G fv h0 n0) := by
  refine MetFree.of_bodySF (plainFor_of_name pn_46) hisR ?_
  intro p e s m args below meth c s₁ Bd hml0 hP hK
  obtain ⟨rfl, hZ, hh⟩ := hP
  have hx := Bd.exec
  have hby := Bd.bytes
  have D := dl hby d67_
  have hml : c.maxLocals = 2 := hml0
  have hown : s.vm.findClass "java/lang/StringBuilder" = some m.cls := findClass_of_methodNamed Bd.named
  have hnm := (name_of_methodNamed Bd.named Bd.method).1
  have X0 : Stand p l e RmSC s m #[(.ref b), (.int (125 : Int32))] below meth c s₁ [] 0 0 := Stand.of_body Bd
  have e0 : s₁.heap = h0 := by rw [← hh, Bd.state]; rfl
  have N0 := Fr.nil n0
  obtain ⟨E0, hE0⟩ : ∃ z, z = s₁.setTop (entryFrame m #[(.ref b), (.int (125 : Int32))] 2) := ⟨_, rfl⟩
  rw [← hE0]
  have go0 : Go p e below E0 s₁ m 0 #[(sr b), (si 125)] [] := fun tgt kq => by rw [hE0]; exact castTop (ef_GC m b (125 : Int32)) kq
  have Eb0 := B0.1
  have go1 : Go p e below E0 s₁ m 2 #[(sr b), (si 125)] [(.int 125), (.ref b)] := fun tgt kq => go0 tgt (by
    refine XS.aloadN X0.here hx rfl (D 0 rfl) rfl rfl ?_; refine XS.iloadN X0.here hx rfl (D 1 rfl) rfl ?_; exact kq)
  obtain ⟨_, T2, L2, X2, hQ2, go2⟩ := own_cU X0 hx hZ hown (wd hw 208 rfl) (own_same ⟨by decide, by decide⟩ (wd hw 210 rfl) (wd hw 233 rfl)) (wd hw 209 rfl) (wd hw 171 rfl) (wd hw 156 rfl) (wd hw 211 rfl) (by decide) (W := 0) (rmAC l Z a0 hw [] b t kb cap cs G fv h0 n0 Z0 B0 gb gt hcap hcs hm5 hwc W0 O0) (by decide) (by decide) e0 (by decide) (by decide) Eb0 go1 hml.symm (argsL := [(.int 125)]) (rest := []) (lenOf pd_47 rfl) rfl rfl rfl (D 2 rfl)
  obtain ⟨t2, kb2, rfl, N2q, Kq1, B2, gq2⟩ := hQ2
  have N2 := Fr.app N0 N2q
  have z3 : n0 ≤ T2.heap.size := Nat.le_trans Z0 Kq1.1
  have K4 : Keep h0 T2.heap [b, t] := (Keep.refl h0 [b, t]).trans Kq1 (allS (Or.inl (List.mem_of_getElem? (i := 0) rfl)) (allS (Or.inl (List.mem_of_getElem? (i := 1) rfl)) all0))
  have go5 : Go p e below E0 T2 m 7 #[(sr b), (si 125)] [(.ref b)] := fun tgt kq => go2 tgt (by
    refine XS.pop X2.here hx rfl (D 3 rfl) rfl rfl ?_; refine XS.aloadN X2.here hx rfl (D 4 rfl) rfl rfl ?_; exact kq)
  obtain ⟨fs, hr, hrun, hended, hW, hsame⟩ := X2.leave (v := some (.ref b)) (fun h => by rw [Bd.returns] at h; cases h)
  refine ⟨_, _, go5 _ ?_, hrun, hended, _, _, rfl, ?_, ⟨_, rfl⟩, hW, hsame.mono (by decide) (by decide)⟩
  · exact retOut X2 hx Bd.returns rfl (Or.inr (Or.inr (Or.inr (Or.inr ⟨rfl, rfl, rfl⟩)))) (D 5 rfl) hr
  · show QSC Z b t kb cap cs G fv h0 n0 _ T2.heap _
    exact ⟨t2, kb2, rfl, N2, K4, B2, gq2⟩
def QGV (Z : State) (b : Addr) (t : Addr) (h0 : Heap) (n0 : Nat) (v : Option Value) (h : Heap) (L : List Loc) : Prop := v = some (.ref t) ∧ L = [] ∧ h = h0
abbrev RmGV : Room := ({ frames := 0, cells := 0, slots := 0, locals := 0 } : Room)
theorem rmGV (l : Launch) (Z : State) (a0 : Array Value) (hw : Tb a0 Z) (ws : List Jvm.Cond) (b : Addr) (t : Addr) (h0 : Heap) (n0 : Nat) (Z0 : n0 ≤ h0.size) (Gv : F4_ Z h0 b (.ref t)) :
    Met l Z h0 (⟨"java/lang/AbstractStringBuilder", "getValue", "()[B"⟩ : MethodName) jdk_68_method_64_code 1 (some (.array .byte)) RmGV ws #[(.ref b)] (QGV Z b t h0 n0) := by
  refine MetFree.of_bodySF (plainFor_of_name pn_16) hisR ?_
  intro p e s m args below meth c s₁ Bd hml0 hP hK
  obtain ⟨rfl, hZ, hh⟩ := hP
  have hx := Bd.exec
  have hby := Bd.bytes
  have D := dl hby d68_
  have hml : c.maxLocals = 1 := hml0
  have hown : s.vm.findClass "java/lang/AbstractStringBuilder" = some m.cls := findClass_of_methodNamed Bd.named
  have hnm := (name_of_methodNamed Bd.named Bd.method).1
  have X0 : Stand p l e RmGV s m #[(.ref b)] below meth c s₁ [] 0 0 := Stand.of_body Bd
  have e0 : s₁.heap = h0 := by rw [← hh, Bd.state]; rfl
  have N0 := Fr.nil n0
  obtain ⟨E0, hE0⟩ : ∃ z, z = s₁.setTop (entryFrame m #[(.ref b)] 1) := ⟨_, rfl⟩
  rw [← hE0]
  have go0 : Go p e below E0 s₁ m 0 #[(sr b)] [] := fun tgt kq => by rw [hE0]; exact castTop (ef_UL m b) kq
  have go1 : Go p e below E0 s₁ m 1 #[(sr b)] [(.ref b)] := fun tgt kq => go0 tgt (by
    refine XS.aloadN X0.here hx rfl (D 0 rfl) rfl rfl ?_; exact kq)
  obtain ⟨T2, X2, e2, go2⟩ := own_gF X0 hx hZ hown (wd hw 160 rfl) e0 Gv go1 (D 1 rfl)
  obtain ⟨fs, hr, hrun, hended, hW, hsame⟩ := X2.leave (v := some (.ref t)) (fun h => by rw [Bd.returns] at h; cases h)
  refine ⟨_, _, go2 _ ?_, hrun, hended, _, _, rfl, ?_, ⟨_, rfl⟩, hW, hsame.mono (by decide) (by decide)⟩
  · exact retOut X2 hx Bd.returns rfl (Or.inr (Or.inr (Or.inr (Or.inr ⟨rfl, rfl, rfl⟩)))) (D 2 rfl) hr
  · show QGV Z b t h0 n0 _ T2.heap _
    rw [e2]
    exact ⟨rfl, rfl, rfl⟩
def QAL (Z : State) (b : Addr) (n : Int32) (h0 : Heap) (n0 : Nat) (v : Option Value) (h : Heap) (L : List Loc) : Prop := v = some (.int n) ∧ L = [] ∧ h = h0
abbrev RmAL : Room := ({ frames := 0, cells := 0, slots := 0, locals := 0 } : Room)
theorem rmAL (l : Launch) (Z : State) (a0 : Array Value) (hw : Tb a0 Z) (ws : List Jvm.Cond) (b : Addr) (n : Int32) (h0 : Heap) (n0 : Nat) (Z0 : n0 ≤ h0.size) (Gn : F2_ Z h0 b (.int n)) :
    Met l Z h0 (⟨"java/lang/AbstractStringBuilder", "length", "()I"⟩ : MethodName) jdk_68_method_6_code 1 (some .int) RmAL ws #[(.ref b)] (QAL Z b n h0 n0) := by
  refine MetFree.of_bodySF (plainFor_of_name pn_16) hisR ?_
  intro p e s m args below meth c s₁ Bd hml0 hP hK
  obtain ⟨rfl, hZ, hh⟩ := hP
  have hx := Bd.exec
  have hby := Bd.bytes
  have D := dl hby d69_
  have hml : c.maxLocals = 1 := hml0
  have hown : s.vm.findClass "java/lang/AbstractStringBuilder" = some m.cls := findClass_of_methodNamed Bd.named
  have hnm := (name_of_methodNamed Bd.named Bd.method).1
  have X0 : Stand p l e RmAL s m #[(.ref b)] below meth c s₁ [] 0 0 := Stand.of_body Bd
  have e0 : s₁.heap = h0 := by rw [← hh, Bd.state]; rfl
  have N0 := Fr.nil n0
  obtain ⟨E0, hE0⟩ : ∃ z, z = s₁.setTop (entryFrame m #[(.ref b)] 1) := ⟨_, rfl⟩
  rw [← hE0]
  have go0 : Go p e below E0 s₁ m 0 #[(sr b)] [] := fun tgt kq => by rw [hE0]; exact castTop (ef_UL m b) kq
  have go1 : Go p e below E0 s₁ m 1 #[(sr b)] [(.ref b)] := fun tgt kq => go0 tgt (by
    refine XS.aloadN X0.here hx rfl (D 0 rfl) rfl rfl ?_; exact kq)
  obtain ⟨T2, X2, e2, go2⟩ := own_gF X0 hx hZ hown (wd hw 175 rfl) e0 Gn go1 (D 1 rfl)
  obtain ⟨fs, hr, hrun, hended, hW, hsame⟩ := X2.leave (v := some (.int n)) (fun h => by rw [Bd.returns] at h; cases h)
  refine ⟨_, _, go2 _ ?_, hrun, hended, _, _, rfl, ?_, ⟨_, rfl⟩, hW, hsame.mono (by decide) (by decide)⟩
  · exact retOut X2 hx Bd.returns rfl (Or.inl ⟨rfl, Or.inl rfl, _, rfl⟩) (D 2 rfl) hr
  · show QAL Z b n h0 n0 _ T2.heap _
    rw [e2]
    exact ⟨rfl, rfl, rfl⟩
def QSL (Z : State) (b : Addr) (n : Int32) (h0 : Heap) (n0 : Nat) (v : Option Value) (h : Heap) (L : List Loc) : Prop := v = some (.int n) ∧ L = [] ∧ h = h0
abbrev RmSL : Room := ({ frames := 1, cells := 0, slots := 0, locals := 12 } : Room)
theorem rmSL (l : Launch) (Z : State) (a0 : Array Value) (hw : Tb a0 Z) (ws : List Jvm.Cond) (b : Addr) (n : Int32) (h0 : Heap) (n0 : Nat) (Z0 : n0 ≤ h0.size) (Eb : E2_ Z h0 b) (Gn : F2_ Z h0 b (.int n)) :
    Met l Z h0 (⟨"java/lang/StringBuilder", "length", "()I"⟩ : MethodName) jdk_67_method_93_code 1 (some .int) RmSL ws #[(.ref b)] (QSL Z b n h0 n0) := by
  refine MetFree.of_bodySF (plainFor_of_name pn_46) hisR ?_
  intro p e s m args below meth c s₁ Bd hml0 hP hK
  obtain ⟨rfl, hZ, hh⟩ := hP
  have hx := Bd.exec
  have hby := Bd.bytes
  have D := dl hby d70_
  have hml : c.maxLocals = 1 := hml0
  have hown : s.vm.findClass "java/lang/StringBuilder" = some m.cls := findClass_of_methodNamed Bd.named
  have hnm := (name_of_methodNamed Bd.named Bd.method).1
  have X0 : Stand p l e RmSL s m #[(.ref b)] below meth c s₁ [] 0 0 := Stand.of_body Bd
  have e0 : s₁.heap = h0 := by rw [← hh, Bd.state]; rfl
  have N0 := Fr.nil n0
  obtain ⟨E0, hE0⟩ : ∃ z, z = s₁.setTop (entryFrame m #[(.ref b)] 1) := ⟨_, rfl⟩
  rw [← hE0]
  have go0 : Go p e below E0 s₁ m 0 #[(sr b)] [] := fun tgt kq => by rw [hE0]; exact castTop (ef_UL m b) kq
  have go1 : Go p e below E0 s₁ m 1 #[(sr b)] [(.ref b)] := fun tgt kq => go0 tgt (by
    refine XS.aloadN X0.here hx rfl (D 0 rfl) rfl rfl ?_; exact kq)
  obtain ⟨_, T2, L2, X2, hQ2, go2⟩ := own_cU X0 hx hZ hown (wd hw 241 rfl) (own_same ⟨by decide, by decide⟩ (wd hw 236 rfl) (wd hw 233 rfl)) (wd hw 237 rfl) (wd hw 171 rfl) (wd hw 156 rfl) (wd hw 242 rfl) (by decide) (W := 0) (rmAL l Z a0 hw [] b n h0 n0 Z0 Gn) (by decide) (by decide) e0 (by decide) (by decide) Eb go1 hml.symm (argsL := []) (rest := []) (lenOf pd_21 rfl) rfl rfl rfl (D 1 rfl)
  obtain ⟨rfl, rfl, e2⟩ := hQ2
  have N2 := Fr.app N0 (Fr.nil n0)
  obtain ⟨fs, hr, hrun, hended, hW, hsame⟩ := X2.leave (v := some (.int n)) (fun h => by rw [Bd.returns] at h; cases h)
  refine ⟨_, _, go2 _ ?_, hrun, hended, _, _, rfl, ?_, ⟨_, rfl⟩, hW, hsame.mono (by decide) (by decide)⟩
  · exact retOut X2 hx Bd.returns rfl (Or.inl ⟨rfl, Or.inl rfl, _, rfl⟩) (D 2 rfl) hr
  · show QSL Z b n h0 n0 _ T2.heap _
    rw [e2]
    exact ⟨rfl, rfl, rfl⟩
theorem pd_48 : parseMethodDescriptor "()[B" = some ⟨[], some (.array .byte)⟩ := by decide +kernel
theorem ef_SY (m : MethodId) (x0 : Addr) (x1 : Addr) : entryFrame m #[(.ref x0), (.ref x1), .null] 5 = mkF m 0 #[.val (.ref x0), .val (.ref x1), .val .null, .unset, .unset] [] := by first | (simp [entryFrame, mkF, argsToLocals, Value.category, maxLocals]; done) | rfl
def QSY (Z : State) (x : Addr) (b : Addr) (t : Addr) (kb : ClassId) (cap : Nat) (cs : List Int32) (G : Int32) (fv : Value) (h0 : Heap) (n0 : Nat) (v : Option Value) (h : Heap) (L : List Loc) : Prop := v = none ∧ Fr n0 L ∧ Keep h0 h [x] ∧ own_S Z h x cs
abbrev RmSY : Room := ({ frames := 3, cells := 1, slots := 1040, locals := 49 } : Room)
theorem rmSY (l : Launch) (Z : State) (a0 : Array Value) (hw : Tb a0 Z) (ws : List Jvm.Cond) (x : Addr) (b : Addr) (t : Addr) (kb : ClassId) (cap : Nat) (cs : List Int32) (G : Int32) (fv : Value) (h0 : Heap) (n0 : Nat) (Z0 : n0 ≤ h0.size) (Ex : E1_ Z h0 x) (gx : n0 ≤ x) (Fv : F6_ Z h0 x .null) (Fc : F5_ Z h0 x (.int (0 : Int32))) (B0 : own_B Z h0 b t kb (own_k cs * cap) (own_co cs) (own_by cs) cs.length) (hcap : cap ≤ 1036) (hlt : cs.length < cap) (hl : cs.length ≤ 520) (W0 : own_W Z G fv) (O0 : own_O Z n0 h0) :
    Met l Z h0 (⟨"java/lang/String", "<init>", "(Ljava/lang/AbstractStringBuilder;Ljava/lang/Void;)V"⟩ : MethodName) jdk_42_method_150_code 5 none RmSY ws #[(.ref x), (.ref b), .null] (QSY Z x b t kb cap cs G fv h0 n0) := by
  refine MetFree.of_bodySF (plainFor_of_name pn_8) hisR ?_
  intro p e s m args below meth c s₁ Bd hml0 hP hK
  obtain ⟨rfl, hZ, hh⟩ := hP
  have hx := Bd.exec
  have hby := Bd.bytes
  have D := dl hby d71_
  have hml : c.maxLocals = 5 := hml0
  have hown : s.vm.findClass "java/lang/String" = some m.cls := findClass_of_methodNamed Bd.named
  have hnm := (name_of_methodNamed Bd.named Bd.method).1
  have X0 : Stand p l e RmSY s m #[(.ref x), (.ref b), .null] below meth c s₁ [] 0 0 := Stand.of_body Bd
  have e0 : s₁.heap = h0 := by rw [← hh, Bd.state]; rfl
  have N0 := Fr.nil n0
  obtain ⟨E0, hE0⟩ : ∃ z, z = s₁.setTop (entryFrame m #[(.ref x), (.ref b), .null] 5) := ⟨_, rfl⟩
  rw [← hE0]
  have go0 : Go p e below E0 s₁ m 0 #[(sr x), (sr b), .val .null, .unset, .unset] [] := fun tgt kq => by rw [hE0]; exact castTop (ef_SY m x b) kq
  by_cases u1 : own_l1 cs = true
  · have B1 : own_B Z h0 b t kb cap (0 : Int32) (own_lats cs) cs.length := by have q := B0; rw [own_k0 u1, own_c0 u1, own_by0 u1, Nat.one_mul] at q; exact q
    obtain ⟨Eb1, Gv1, Gc1, Gn1, Gm1, Ab1⟩ := id B1
    have ne_b1 : b ≠ t := Exa.neArv Eb1 Ab1 (wd hw 147 rfl)
    have ne_x_b : x ≠ b := ne_exa Ex Eb1 (by decide)
    have ne_x_t : x ≠ t := Exa.neArv Ex Ab1 (wd hw 10 rfl)
    have go1 : Go p e below E0 s₁ m 1 #[(sr x), (sr b), .val .null, .unset, .unset] [(.ref x)] := fun tgt kq => go0 tgt (by
      refine XS.aloadN X0.here hx rfl (D 0 rfl) rfl rfl ?_; exact kq)
    obtain ⟨T2, X2, e2, st2⟩ := initO X0 hx hZ hown (wd hw 20 rfl) (wd hw 21 rfl) (wd hw 22 rfl) e0 (g := (mkF m 1 #[(sr x), (sr b), .val .null, .unset, .unset] [(.ref x)])) rfl (by rw [hml]; rfl) rfl (D 1 rfl) (by decide) (W := 0) (by show 2 * 0 + _ ≤ _; exact Nat.le_of_eq rfl) (by decide)
    have go2 : Go p e below E0 T2 m 4 #[(sr x), (sr b), .val .null, .unset, .unset] [] := fun a b => go1 a (st2 a b)
    have go3 : Go p e below E0 T2 m 5 #[(sr x), (sr b), .val .null, .unset, .unset] [(.ref b)] := fun tgt kq => go2 tgt (by
      refine XS.aloadN X2.here hx rfl (D 2 rfl) rfl rfl ?_; exact kq)
    obtain ⟨_, T4, L4, X4, hQ4, go4⟩ := own_cV X2 hx hZ hown (wd hw 230 rfl) (wd hw 231 rfl) (wd hw 233 rfl) (wd hw 232 rfl) (wd hw 156 rfl) (wd hw 234 rfl) (by decide) (W := 0) (rmGV l Z a0 hw [] b t h0 n0 Z0 Gv1) (by decide) (by decide) e2 (by decide) (by decide) Eb1 go3 hml.symm (argsL := []) (rest := []) (lenOf pd_48 rfl) rfl rfl rfl (D 3 rfl)
    obtain ⟨rfl, rfl, e4⟩ := hQ4
    have N4 := Fr.app N0 (Fr.nil n0)
    have go5 : Go p e below E0 T4 m 10 #[(sr x), (sr b), .val .null, (sr t), .unset] [(.ref b)] := fun tgt kq => go4 tgt (by
      refine XS.astoreN X4.here hx rfl (D 4 rfl) rfl rfl (l' := #[(sr x), (sr b), .val .null, (sr t), .unset]) rfl ?_; refine XS.aloadN X4.here hx rfl (D 5 rfl) rfl rfl ?_; exact kq)
    obtain ⟨_, T6, L6, X6, hQ6, go6⟩ := own_cW X4 hx hZ hown (wd hw 235 rfl) (wd hw 236 rfl) (own_nf (args := #[]) (wm hw hZ 233 rfl) rfl) (wd hw 238 rfl) (wd hw 239 rfl) (wd hw 148 rfl) (wd hw 240 rfl) (by decide) (W := 0) (rmSL l Z a0 hw [] b (Int32.ofNat cs.length) h0 n0 Z0 Eb1 Gn1) (by decide) (by decide) e4 (by decide) (by decide) Eb1 go5 hml.symm (argsL := []) (rest := []) (lenOf pd_21 rfl) rfl rfl rfl (D 6 rfl)
    obtain ⟨rfl, rfl, e6⟩ := hQ6
    have N6 := Fr.app N4 (Fr.nil n0)
    have go7 : Go p e below E0 T6 m 16 #[(sr x), (sr b), .val .null, (sr t), (si (Int32.ofNat cs.length))] [(.ref b)] := fun tgt kq => go6 tgt (by
      refine XS.istore X6.here hx rfl (D 7 rfl) rfl (l' := #[(sr x), (sr b), .val .null, (sr t), (si (Int32.ofNat cs.length))]) rfl ?_; refine XS.aloadN X6.here hx rfl (D 8 rfl) rfl rfl ?_; exact kq)
    obtain ⟨_, T8, L8, X8, hQ8, go8⟩ := own_cV X6 hx hZ hown (wd hw 243 rfl) (wd hw 213 rfl) (wd hw 215 rfl) (wd hw 214 rfl) (wd hw 156 rfl) (wd hw 216 rfl) (by decide) (W := 0) (rmBL0 l Z a0 hw [] b G fv h0 n0 Z0 Gc1 W0 O0) (by decide) (by decide) e6 (by decide) (by decide) Eb1 go7 hml.symm (argsL := []) (rest := []) (lenOf pd_18 rfl) rfl rfl rfl (D 9 rfl)
    obtain ⟨rfl, rfl, e8⟩ := hQ8
    have N8 := Fr.app N6 (Fr.nil n0)
    have go9 : Go p e below E0 T8 m 24 #[(sr x), (sr b), .val .null, (sr t), (si (Int32.ofNat cs.length))] [(.int 0), (.ref x)] := fun tgt kq => go8 tgt (by
      refine XS.ifNo X8.here hx rfl (D 10 rfl) rfl ((if0 _ _).trans (feq (by decide)).1) ?_; refine XS.aloadN X8.here hx rfl (D 11 rfl) rfl rfl ?_; refine XS.iconst X8.here hx rfl (D 12 rfl) ?_; exact kq)
    obtain ⟨T10, h10, X10, e10, W10, st10⟩ := putF X8 hx hZ hown (host := "") (Or.inl (wd hw 35 rfl)) Via.refl e8 Fc Ex (Or.inr ⟨(wd hw 36 rfl), rfl, hnm⟩) (wd hw 10 rfl) (ty := .byte) (by decide) rfl rfl (g := (mkF m 24 #[(sr x), (sr b), .val .null, (sr t), (si (Int32.ofNat cs.length))] [(.int 0), (.ref x)])) rfl rfl (D 13 rfl)
    have z11 : n0 ≤ h10.size := Nat.le_trans Z0 (Keep.of_wr W10).1
    have K12 : Keep h0 h10 [x] := (Keep.refl h0 [x]).wr W10 (Or.inl (List.mem_of_getElem? (i := 0) rfl))
    have N10 := Fr.snoc X10 N8 gx
    have f13 : F5_ Z h10 x (.int (0 : Int32)) := (Fc.same W10)
    have go10 : Go p e below E0 T10 m 27 #[(sr x), (sr b), .val .null, (sr t), (si (Int32.ofNat cs.length))] [] := fun a b => go9 a (st10 a b)
    have f14 : Yb Z h10 t kb (Int32.ofNat cap) (own_lats cs) := (Ab1.other W10 (Ne.symm ne_x_t))
    have go15 : Go p e below E0 T10 m 32 #[(sr x), (sr b), .val .null, (sr t), (si (Int32.ofNat cs.length))] [(.int (Int32.ofNat cs.length)), (.int 0), (.ref t), (.ref x)] := fun tgt kq => go10 tgt (by
      refine XS.aloadN X10.here hx rfl (D 14 rfl) rfl rfl ?_; refine XS.aloadN X10.here hx rfl (D 15 rfl) rfl rfl ?_; refine XS.iconst X10.here hx rfl (D 16 rfl) ?_; refine XS.iload X10.here hx rfl (D 17 rfl) rfl ?_; exact kq)
    obtain ⟨_, T16, L16, X16, hQ16, go16⟩ := own_cS X10 hx hZ hown (wd hw 244 rfl) (wd hw 245 rfl) (wd hw 246 rfl) (wd hw 247 rfl) (by decide) (W := 1) (rmCR l Z a0 hw [] t kb cap (own_lats cs) cs.length h10 n0 z11 f14 (own_lats_len cs) (by omega) (by omega) (by omega)) (by decide) (by decide) e10 (by decide) (by decide) go15 hml.symm (argsL := [(.ref t), (.int 0), (.int (Int32.ofNat cs.length))]) (rest := [(.ref x)]) (lenOf pd_37 rfl) rfl rfl rfl (D 18 rfl)
    obtain ⟨t2, kb2, rfl, N16q, Kq1, gq2, zq2, Aq2⟩ := hQ16
    have N16 := Fr.app N10 N16q
    have z17 : n0 ≤ T16.heap.size := Nat.le_trans z11 Kq1.1
    have K18 : Keep h0 T16.heap [x] := K12.trans Kq1 all0
    have ne_x_t2 : x ≠ t2 := Nat.ne_of_lt (Nat.lt_of_lt_of_le Ex.lt (Nat.le_trans K12.1 zq2))
    have f19 : F6_ Z T16.heap x .null := ((Fv.other W10 (Or.inr (slot_ne (Or.inr (wd hw 38 rfl)) (Or.inr (wd hw 36 rfl)) (by decide) (t := (.array .byte)) (t' := .byte) (by decide) (by decide)))).keep Kq1 nin0)
    have f20 : E1_ Z T16.heap x := ((Ex.wr W10).keep Kq1)
    obtain ⟨T21, h21, X21, e21, W21, st21⟩ := putF X16 hx hZ hown (host := "") (Or.inl (wd hw 37 rfl)) Via.refl rfl f19 f20 (Or.inr ⟨(wd hw 38 rfl), rfl, hnm⟩) (wd hw 10 rfl) (ty := (.array .byte)) (by decide) rfl rfl (g := (mkF m 35 #[(sr x), (sr b), .val .null, (sr t), (si (Int32.ofNat cs.length))] [(.ref t2), (.ref x)])) rfl rfl (D 19 rfl)
    have z22 : n0 ≤ h21.size := Nat.le_trans z17 (Keep.of_wr W21).1
    have K23 : Keep h0 h21 [x] := K18.wr W21 (Or.inl (List.mem_of_getElem? (i := 0) rfl))
    have N21 := Fr.snoc X21 N16 gx
    have f24 : F6_ Z h21 x (.ref t2) := (f19.same W21)
    have go21 : Go p e below E0 T21 m 38 #[(sr x), (sr b), .val .null, (sr t), (si (Int32.ofNat cs.length))] [] := fun a b => go16 a (st21 a b)
    have f25 : E1_ Z h21 x := (f20.wr W21)
    have f26 : F5_ Z h21 x (.int (0 : Int32)) := ((f13.keep Kq1 nin0).other W21 (Or.inr (slot_ne (Or.inr (wd hw 36 rfl)) (Or.inr (wd hw 38 rfl)) (by decide) (t := .byte) (t' := (.array .byte)) (by decide) (by decide))))
    have f27 : Yb Z h21 t2 kb2 (Int32.ofNat cs.length) (own_lats cs) := (Aq2.other W21 (Ne.symm ne_x_t2))
    have go28 : Go p e below E0 T21 m 97 #[(sr x), (sr b), .val .null, (sr t), (si (Int32.ofNat cs.length))] [] := fun tgt kq => go21 tgt (by
      refine XS.goto X21.here hx rfl (pc0 := 38) (pc' := 97) rfl (D 20 rfl) (by decide) (by decide) ?_; exact kq)
    obtain ⟨fs, hr, hrun, hended, hW, hsame⟩ := X21.leave (v := none) (fun _ => rfl)
    refine ⟨_, _, go28 _ ?_, hrun, hended, _, _, rfl, ?_, ⟨_, rfl⟩, hW, hsame.mono (by decide) (by decide)⟩
    · exact X21.returnOut hx Bd.returns (D 21 rfl) hr
    · show QSY Z x b t kb cap cs G fv h0 n0 _ T21.heap _
      rw [e21]
      exact ⟨rfl, N21, K23, t2, kb2, f25, f24, by rw [own_c0 u1]; exact f26, by rw [own_by0 u1, own_k0 u1, Nat.one_mul]; exact f27⟩
  · have B1 : own_B Z h0 b t kb (2 * cap) (1 : Int32) (own_flat cs) cs.length := by have q := B0; rw [own_k1 u1, own_c1 u1, own_by1 u1] at q; exact q
    obtain ⟨Eb1, Gv1, Gc1, Gn1, Gm1, Ab1⟩ := id B1
    have ne_b1 : b ≠ t := Exa.neArv Eb1 Ab1 (wd hw 147 rfl)
    have ne_x_b : x ≠ b := ne_exa Ex Eb1 (by decide)
    have ne_x_t : x ≠ t := Exa.neArv Ex Ab1 (wd hw 10 rfl)
    have go29 : Go p e below E0 s₁ m 1 #[(sr x), (sr b), .val .null, .unset, .unset] [(.ref x)] := fun tgt kq => go0 tgt (by
      refine XS.aloadN X0.here hx rfl (D 0 rfl) rfl rfl ?_; exact kq)
    obtain ⟨T30, X30, e30, st30⟩ := initO X0 hx hZ hown (wd hw 20 rfl) (wd hw 21 rfl) (wd hw 22 rfl) e0 (g := (mkF m 1 #[(sr x), (sr b), .val .null, .unset, .unset] [(.ref x)])) rfl (by rw [hml]; rfl) rfl (D 1 rfl) (by decide) (W := 0) (by show 2 * 0 + _ ≤ _; exact Nat.le_of_eq rfl) (by decide)
    have go30 : Go p e below E0 T30 m 4 #[(sr x), (sr b), .val .null, .unset, .unset] [] := fun a b => go29 a (st30 a b)
    have go31 : Go p e below E0 T30 m 5 #[(sr x), (sr b), .val .null, .unset, .unset] [(.ref b)] := fun tgt kq => go30 tgt (by
      refine XS.aloadN X30.here hx rfl (D 2 rfl) rfl rfl ?_; exact kq)
    obtain ⟨_, T32, L32, X32, hQ32, go32⟩ := own_cV X30 hx hZ hown (wd hw 230 rfl) (wd hw 231 rfl) (wd hw 233 rfl) (wd hw 232 rfl) (wd hw 156 rfl) (wd hw 234 rfl) (by decide) (W := 0) (rmGV l Z a0 hw [] b t h0 n0 Z0 Gv1) (by decide) (by decide) e30 (by decide) (by decide) Eb1 go31 hml.symm (argsL := []) (rest := []) (lenOf pd_48 rfl) rfl rfl rfl (D 3 rfl)
    obtain ⟨rfl, rfl, e32⟩ := hQ32
    have N32 := Fr.app N0 (Fr.nil n0)
    have go33 : Go p e below E0 T32 m 10 #[(sr x), (sr b), .val .null, (sr t), .unset] [(.ref b)] := fun tgt kq => go32 tgt (by
      refine XS.astoreN X32.here hx rfl (D 4 rfl) rfl rfl (l' := #[(sr x), (sr b), .val .null, (sr t), .unset]) rfl ?_; refine XS.aloadN X32.here hx rfl (D 5 rfl) rfl rfl ?_; exact kq)
    obtain ⟨_, T34, L34, X34, hQ34, go34⟩ := own_cW X32 hx hZ hown (wd hw 235 rfl) (wd hw 236 rfl) (own_nf (args := #[]) (wm hw hZ 233 rfl) rfl) (wd hw 238 rfl) (wd hw 239 rfl) (wd hw 148 rfl) (wd hw 240 rfl) (by decide) (W := 0) (rmSL l Z a0 hw [] b (Int32.ofNat cs.length) h0 n0 Z0 Eb1 Gn1) (by decide) (by decide) e32 (by decide) (by decide) Eb1 go33 hml.symm (argsL := []) (rest := []) (lenOf pd_21 rfl) rfl rfl rfl (D 6 rfl)
    obtain ⟨rfl, rfl, e34⟩ := hQ34
    have N34 := Fr.app N32 (Fr.nil n0)
    have go35 : Go p e below E0 T34 m 16 #[(sr x), (sr b), .val .null, (sr t), (si (Int32.ofNat cs.length))] [(.ref b)] := fun tgt kq => go34 tgt (by
      refine XS.istore X34.here hx rfl (D 7 rfl) rfl (l' := #[(sr x), (sr b), .val .null, (sr t), (si (Int32.ofNat cs.length))]) rfl ?_; refine XS.aloadN X34.here hx rfl (D 8 rfl) rfl rfl ?_; exact kq)
    obtain ⟨_, T36, L36, X36, hQ36, go36⟩ := own_cV X34 hx hZ hown (wd hw 243 rfl) (wd hw 213 rfl) (wd hw 215 rfl) (wd hw 214 rfl) (wd hw 156 rfl) (wd hw 216 rfl) (by decide) (W := 0) (rmBL1 l Z a0 hw [] b G fv h0 n0 Z0 Gc1 W0 O0) (by decide) (by decide) e34 (by decide) (by decide) Eb1 go35 hml.symm (argsL := []) (rest := []) (lenOf pd_18 rfl) rfl rfl rfl (D 9 rfl)
    obtain ⟨rfl, rfl, e36⟩ := hQ36
    have N36 := Fr.app N34 (Fr.nil n0)
    have go37 : Go p e below E0 T36 m 41 #[(sr x), (sr b), .val .null, (sr t), (si (Int32.ofNat cs.length))] [] := fun tgt kq => go36 tgt (by
      refine XS.ifYes X36.here hx rfl (pc0 := 19) (pc' := 41) rfl (D 10 rfl) rfl ((if0 _ _).trans (teq rfl).1) (by decide) (by decide) ?_; exact kq)
    obtain ⟨T38, X38, e38, st38⟩ := getS2 X36 hx hZ hown (host := "") (Or.inl (wd hw 23 rfl)) Via.refl e36 (W0.1.ext O0.2) (g := (mkF m 41 #[(sr x), (sr b), .val .null, (sr t), (si (Int32.ofNat cs.length))] [])) rfl (D 22 rfl)
    have go38 : Go p e below E0 T38 m 44 #[(sr x), (sr b), .val .null, (sr t), (si (Int32.ofNat cs.length))] [(.int G)] := fun a b => go37 a (st38 a b)
    have go39 : Go p e below E0 T38 m 48 #[(sr x), (sr b), .val .null, (sr t), (si (Int32.ofNat cs.length))] [(.ref b)] := fun tgt kq => go38 tgt (by
      refine XS.ifNo X38.here hx rfl (D 23 rfl) rfl ((if0 _ _).trans (feq W0.2.1).1) ?_; refine XS.aloadN X38.here hx rfl (D 24 rfl) rfl rfl ?_; exact kq)
    obtain ⟨T40, X40, e40, go40⟩ := own_gF X38 hx hZ hown (wd hw 342 rfl) e38 Gm1 go39 (D 25 rfl)
    have go41 : Go p e below E0 T40 m 81 #[(sr x), (sr b), .val .null, (sr t), (si (Int32.ofNat cs.length))] [(.int 1), (.ref x)] := fun tgt kq => go40 tgt (by
      refine XS.ifYes X40.here hx rfl (pc0 := 51) (pc' := 79) rfl (D 26 rfl) rfl ((if0 _ _).trans (teq rfl).1) (by decide) (by decide) ?_; refine XS.aloadN X40.here hx rfl (D 27 rfl) rfl rfl ?_; refine XS.iconst X40.here hx rfl (D 28 rfl) ?_; exact kq)
    obtain ⟨T42, h42, X42, e42, W42, st42⟩ := putF X40 hx hZ hown (host := "") (Or.inl (wd hw 35 rfl)) Via.refl e40 Fc Ex (Or.inr ⟨(wd hw 36 rfl), rfl, hnm⟩) (wd hw 10 rfl) (ty := .byte) (by decide) rfl rfl (g := (mkF m 81 #[(sr x), (sr b), .val .null, (sr t), (si (Int32.ofNat cs.length))] [(.int 1), (.ref x)])) rfl rfl (D 29 rfl)
    have z43 : n0 ≤ h42.size := Nat.le_trans Z0 (Keep.of_wr W42).1
    have K44 : Keep h0 h42 [x] := (Keep.refl h0 [x]).wr W42 (Or.inl (List.mem_of_getElem? (i := 0) rfl))
    have N42 := Fr.snoc X42 N36 gx
    have f45 : F5_ Z h42 x (.int (1 : Int32)) := (Fc.same W42)
    have go42 : Go p e below E0 T42 m 84 #[(sr x), (sr b), .val .null, (sr t), (si (Int32.ofNat cs.length))] [] := fun a b => go41 a (st42 a b)
    have go46 : Go p e below E0 T42 m 91 #[(sr x), (sr b), .val .null, (sr t), (si (Int32.ofNat cs.length))] [(.int ((Int32.ofNat cs.length) <<< ((1 : Int32) &&& 31))), (.int 0), (.ref t), (.ref x)] := fun tgt kq => go42 tgt (by
      refine XS.aloadN X42.here hx rfl (D 30 rfl) rfl rfl ?_; refine XS.aloadN X42.here hx rfl (D 31 rfl) rfl rfl ?_; refine XS.iconst X42.here hx rfl (D 32 rfl) ?_; refine XS.iload X42.here hx rfl (D 33 rfl) rfl ?_; refine XS.iconst X42.here hx rfl (D 34 rfl) ?_; refine XS.ishl X42.here hx rfl (D 35 rfl) rfl ?_; exact kq)
    have go47 : Go p e below E0 T42 m 91 #[(sr x), (sr b), .val .null, (sr t), (si (Int32.ofNat cs.length))] [(.int (Int32.ofNat (2 * cs.length))), (.int 0), (.ref t), (.ref x)] := by have q := go46; rw [show ((Int32.ofNat cs.length) <<< ((1 : Int32) &&& 31)) = (Int32.ofNat (2 * cs.length)) from own_shl (by omega)] at q; exact q
    have f48 : Yb Z h42 t kb (Int32.ofNat (2 * cap)) (own_flat cs) := (Ab1.other W42 (Ne.symm ne_x_t))
    obtain ⟨_, T49, L49, X49, hQ49, go49⟩ := own_cS X42 hx hZ hown (wd hw 244 rfl) (wd hw 245 rfl) (wd hw 246 rfl) (wd hw 247 rfl) (by decide) (W := 1) (rmCR l Z a0 hw [] t kb (2 * cap) (own_flat cs) (2 * cs.length) h42 n0 z43 f48 (own_flat_len cs) (by omega) (by omega) (by omega)) (by decide) (by decide) e42 (by decide) (by decide) go47 hml.symm (argsL := [(.ref t), (.int 0), (.int (Int32.ofNat (2 * cs.length)))]) (rest := [(.ref x)]) (lenOf pd_37 rfl) rfl rfl rfl (D 36 rfl)
    obtain ⟨t2, kb2, rfl, N49q, Kq1, gq2, zq2, Aq2⟩ := hQ49
    have N49 := Fr.app N42 N49q
    have z50 : n0 ≤ T49.heap.size := Nat.le_trans z43 Kq1.1
    have K51 : Keep h0 T49.heap [x] := K44.trans Kq1 all0
    have ne_x_t2 : x ≠ t2 := Nat.ne_of_lt (Nat.lt_of_lt_of_le Ex.lt (Nat.le_trans K44.1 zq2))
    have f52 : F6_ Z T49.heap x .null := ((Fv.other W42 (Or.inr (slot_ne (Or.inr (wd hw 38 rfl)) (Or.inr (wd hw 36 rfl)) (by decide) (t := (.array .byte)) (t' := .byte) (by decide) (by decide)))).keep Kq1 nin0)
    have f53 : E1_ Z T49.heap x := ((Ex.wr W42).keep Kq1)
    obtain ⟨T54, h54, X54, e54, W54, st54⟩ := putF X49 hx hZ hown (host := "") (Or.inl (wd hw 37 rfl)) Via.refl rfl f52 f53 (Or.inr ⟨(wd hw 38 rfl), rfl, hnm⟩) (wd hw 10 rfl) (ty := (.array .byte)) (by decide) rfl rfl (g := (mkF m 94 #[(sr x), (sr b), .val .null, (sr t), (si (Int32.ofNat cs.length))] [(.ref t2), (.ref x)])) rfl rfl (D 37 rfl)
    have z55 : n0 ≤ h54.size := Nat.le_trans z50 (Keep.of_wr W54).1
    have K56 : Keep h0 h54 [x] := K51.wr W54 (Or.inl (List.mem_of_getElem? (i := 0) rfl))
    have N54 := Fr.snoc X54 N49 gx
    have f57 : F6_ Z h54 x (.ref t2) := (f52.same W54)
    have go54 : Go p e below E0 T54 m 97 #[(sr x), (sr b), .val .null, (sr t), (si (Int32.ofNat cs.length))] [] := fun a b => go49 a (st54 a b)
    have f58 : E1_ Z h54 x := (f53.wr W54)
    have f59 : F5_ Z h54 x (.int (1 : Int32)) := ((f45.keep Kq1 nin0).other W54 (Or.inr (slot_ne (Or.inr (wd hw 36 rfl)) (Or.inr (wd hw 38 rfl)) (by decide) (t := .byte) (t' := (.array .byte)) (by decide) (by decide))))
    have f60 : Yb Z h54 t2 kb2 (Int32.ofNat (2 * cs.length)) (own_flat cs) := (Aq2.other W54 (Ne.symm ne_x_t2))
    obtain ⟨fs, hr, hrun, hended, hW, hsame⟩ := X54.leave (v := none) (fun _ => rfl)
    refine ⟨_, _, go54 _ ?_, hrun, hended, _, _, rfl, ?_, ⟨_, rfl⟩, hW, hsame.mono (by decide) (by decide)⟩
    · exact X54.returnOut hx Bd.returns (D 21 rfl) hr
    · show QSY Z x b t kb cap cs G fv h0 n0 _ T54.heap _
      rw [e54]
      exact ⟨rfl, N54, K56, t2, kb2, f58, f57, by rw [own_c1 u1]; exact f59, by rw [own_by1 u1, own_k1 u1]; exact f60⟩
theorem pd_49 : parseMethodDescriptor "(Ljava/lang/AbstractStringBuilder;Ljava/lang/Void;)V" = some ⟨[(.object "java/lang/AbstractStringBuilder"), (.object "java/lang/Void")], none⟩ := by decide +kernel
def QSX (Z : State) (x : Addr) (b : Addr) (t : Addr) (kb : ClassId) (cap : Nat) (cs : List Int32) (G : Int32) (fv : Value) (h0 : Heap) (n0 : Nat) (v : Option Value) (h : Heap) (L : List Loc) : Prop := v = none ∧ Fr n0 L ∧ Keep h0 h [x] ∧ own_S Z h x cs
abbrev RmSX : Room := ({ frames := 4, cells := 1, slots := 1040, locals := 65 } : Room)
theorem rmSX (l : Launch) (Z : State) (a0 : Array Value) (hw : Tb a0 Z) (ws : List Jvm.Cond) (x : Addr) (b : Addr) (t : Addr) (kb : ClassId) (cap : Nat) (cs : List Int32) (G : Int32) (fv : Value) (h0 : Heap) (n0 : Nat) (Z0 : n0 ≤ h0.size) (Ex : E1_ Z h0 x) (gx : n0 ≤ x) (Fv : F6_ Z h0 x .null) (Fc : F5_ Z h0 x (.int (0 : Int32))) (B0 : own_B Z h0 b t kb (own_k cs * cap) (own_co cs) (own_by cs) cs.length) (hcap : cap ≤ 1036) (hlt : cs.length < cap) (hl : cs.length ≤ 520) (W0 : own_W Z G fv) (O0 : own_O Z n0 h0) :
    Met l Z h0 (⟨"java/lang/String", "<init>", "(Ljava/lang/StringBuilder;)V"⟩ : MethodName) jdk_42_method_53_code 2 none RmSX ws #[(.ref x), (.ref b)] (QSX Z x b t kb cap cs G fv h0 n0) := by
  refine MetFree.of_bodySF (plainFor_of_name pn_8) hisR ?_
  intro p e s m args below meth c s₁ Bd hml0 hP hK
  obtain ⟨rfl, hZ, hh⟩ := hP
  have hx := Bd.exec
  have hby := Bd.bytes
  have D := dl hby d72_
  have hml : c.maxLocals = 2 := hml0
  have hown : s.vm.findClass "java/lang/String" = some m.cls := findClass_of_methodNamed Bd.named
  have hnm := (name_of_methodNamed Bd.named Bd.method).1
  have X0 : Stand p l e RmSX s m #[(.ref x), (.ref b)] below meth c s₁ [] 0 0 := Stand.of_body Bd
  have e0 : s₁.heap = h0 := by rw [← hh, Bd.state]; rfl
  have N0 := Fr.nil n0
  obtain ⟨E0, hE0⟩ : ∃ z, z = s₁.setTop (entryFrame m #[(.ref x), (.ref b)] 2) := ⟨_, rfl⟩
  rw [← hE0]
  have go0 : Go p e below E0 s₁ m 0 #[(sr x), (sr b)] [] := fun tgt kq => by rw [hE0]; exact castTop (ef_N520 m x b) kq
  have go1 : Go p e below E0 s₁ m 3 #[(sr x), (sr b)] [.null, (.ref b), (.ref x)] := fun tgt kq => go0 tgt (by
    refine XS.aloadN X0.here hx rfl (D 0 rfl) rfl rfl ?_; refine XS.aloadN X0.here hx rfl (D 1 rfl) rfl rfl ?_; refine XS.aconstNull X0.here hx rfl (D 2 rfl) ?_; exact kq)
  obtain ⟨_, T2, L2, X2, hQ2, go2⟩ := own_cI X0 hx hZ hown (wd hw 227 rfl) (wd hw 228 rfl) (wd hw 11 rfl) (wd hw 229 rfl) rfl (by decide) (W := 0) (rmSY l Z a0 hw [] x b t kb cap cs G fv h0 n0 Z0 Ex gx Fv Fc B0 hcap hlt hl W0 O0) (by decide) (by decide) e0 (by decide) (by decide) go1 hml.symm (argsL := [(.ref b), .null]) (rest := []) (lenOf pd_49 rfl) rfl rfl rfl (D 3 rfl)
  obtain ⟨rfl, N2q, Kq1, Sq1⟩ := hQ2
  have N2 := Fr.app N0 N2q
  have z3 : n0 ≤ T2.heap.size := Nat.le_trans Z0 Kq1.1
  have K4 : Keep h0 T2.heap [x] := (Keep.refl h0 [x]).trans Kq1 (allS (Or.inl (List.mem_of_getElem? (i := 0) rfl)) all0)
  obtain ⟨fs, hr, hrun, hended, hW, hsame⟩ := X2.leave (v := none) (fun _ => rfl)
  refine ⟨_, _, go2 _ ?_, hrun, hended, _, _, rfl, ?_, ⟨_, rfl⟩, hW, hsame.mono (by decide) (by decide)⟩
  · exact X2.returnOut hx Bd.returns (D 4 rfl) hr
  · show QSX Z x b t kb cap cs G fv h0 n0 _ T2.heap _
    exact ⟨rfl, N2, K4, Sq1⟩
theorem pd_50 : parseMethodDescriptor "(Ljava/lang/StringBuilder;)V" = some ⟨[(.object "java/lang/StringBuilder")], none⟩ := by decide +kernel
def QTS (Z : State) (b : Addr) (t : Addr) (kb : ClassId) (cap : Nat) (cs : List Int32) (G : Int32) (fv : Value) (h0 : Heap) (n0 : Nat) (v : Option Value) (h : Heap) (L : List Loc) : Prop := ∃ x : Addr, v = some (.ref x) ∧ Fr n0 L ∧ Keep h0 h [] ∧ own_S Z h x cs
abbrev RmTS : Room := ({ frames := 5, cells := 2, slots := 1044, locals := 79 } : Room)
theorem rmTS (l : Launch) (Z : State) (a0 : Array Value) (hw : Tb a0 Z) (ws : List Jvm.Cond) (b : Addr) (t : Addr) (kb : ClassId) (cap : Nat) (cs : List Int32) (G : Int32) (fv : Value) (h0 : Heap) (n0 : Nat) (Z0 : n0 ≤ h0.size) (B0 : own_B Z h0 b t kb (own_k cs * cap) (own_co cs) (own_by cs) cs.length) (hcap : cap ≤ 1036) (hlt : cs.length < cap) (hl : cs.length ≤ 520) (W0 : own_W Z G fv) (O0 : own_O Z n0 h0) :
    Met l Z h0 (⟨"java/lang/StringBuilder", "toString", "()Ljava/lang/String;"⟩ : MethodName) jdk_67_method_42_code 1 (some (.object "java/lang/String")) RmTS ws #[(.ref b)] (QTS Z b t kb cap cs G fv h0 n0) := by
  refine MetFree.of_bodySF (plainFor_of_name pn_46) hisR ?_
  intro p e s m args below meth c s₁ Bd hml0 hP hK
  obtain ⟨rfl, hZ, hh⟩ := hP
  have hx := Bd.exec
  have hby := Bd.bytes
  have D := dl hby d73_
  have hml : c.maxLocals = 1 := hml0
  have hown : s.vm.findClass "java/lang/StringBuilder" = some m.cls := findClass_of_methodNamed Bd.named
  have hnm := (name_of_methodNamed Bd.named Bd.method).1
  have X0 : Stand p l e RmTS s m #[(.ref b)] below meth c s₁ [] 0 0 := Stand.of_body Bd
  have e0 : s₁.heap = h0 := by rw [← hh, Bd.state]; rfl
  have N0 := Fr.nil n0
  obtain ⟨E0, hE0⟩ : ∃ z, z = s₁.setTop (entryFrame m #[(.ref b)] 1) := ⟨_, rfl⟩
  rw [← hE0]
  have go0 : Go p e below E0 s₁ m 0 #[(sr b)] [] := fun tgt kq => by rw [hE0]; exact castTop (ef_UL m b) kq
  obtain ⟨Eb0, Gv0, Gc0, Gn0, Gm0, Ab0⟩ := id B0
  have ne_b0 : b ≠ t := Exa.neArv Eb0 Ab0 (wd hw 147 rfl)
  obtain ⟨T1, h1, X1, e1, E1, A1, D1, -, st1⟩ := newO X0 hx hZ hown (wd hw 223 rfl) (wd hw 10 rfl) (wd hw 11 rfl) e0 (g := (mkF m 0 #[(sr b)] [])) rfl (D 0 rfl) (by decide) (by decide)
  obtain ⟨x, g1⟩ : ∃ z, z = h0.size := ⟨_, rfl⟩
  rw [← g1] at A1 D1 st1
  have ne_b_x : b ≠ x := Nat.ne_of_lt (Nat.lt_of_lt_of_le Eb0.lt (Nat.le_of_eq g1.symm))
  have ne_t_x : t ≠ x := Nat.ne_of_lt (Nat.lt_of_lt_of_le Ab0.lt (Nat.le_of_eq g1.symm))
  have ge_x : n0 ≤ x := Nat.le_trans Z0 (Nat.le_of_eq g1.symm)
  have hz_x : h0.size ≤ x := Nat.le_trans (Keep.refl h0 []).1 (Nat.le_of_eq g1.symm)
  have z2 : n0 ≤ h1.size := Nat.le_trans Z0 E1.1
  have K3 : Keep h0 h1 [] := (Keep.refl h0 []).ext E1
  have Fcoder_x : F5_ Z h1 x (.int (0 : Int32)) := D1 (Or.inr (wd hw 36 rfl)) (ty := .byte) (by decide)
  have Fvalue_x : F6_ Z h1 x .null := D1 (Or.inr (wd hw 38 rfl)) (ty := (.array .byte)) (by decide)
  have go1 : Go p e below E0 T1 m 3 #[(sr b)] [(.ref x)] := fun a b => go0 a (st1 a b)
  have f4 : E2_ Z h1 b := (Eb0.ext E1)
  have f5 : F4_ Z h1 b (.ref t) := (Gv0.ext E1)
  have f6 : F1_ Z h1 b (.int (own_co cs)) := (Gc0.ext E1)
  have f7 : F2_ Z h1 b (.int (Int32.ofNat cs.length)) := (Gn0.ext E1)
  have f8 : F3_ Z h1 b (.int (0 : Int32)) := (Gm0.ext E1)
  have f9 : Yb Z h1 t kb (Int32.ofNat (own_k cs * cap)) (own_by cs) := (Ab0.ext E1)
  have f10 : own_O Z n0 h1 := (O0.ext E1)
  have go11 : Go p e below E0 T1 m 5 #[(sr b)] [(.ref b), (.ref x), (.ref x)] := fun tgt kq => go1 tgt (by
    refine XS.dup X1.here hx rfl (D 1 rfl) rfl rfl ?_; refine XS.aloadN X1.here hx rfl (D 2 rfl) rfl rfl ?_; exact kq)
  obtain ⟨_, T12, L12, X12, hQ12, go12⟩ := own_cI X1 hx hZ hown (wd hw 224 rfl) (wd hw 225 rfl) (wd hw 11 rfl) (wd hw 226 rfl) rfl (by decide) (W := 1) (rmSX l Z a0 hw [] x b t kb cap cs G fv h1 n0 z2 A1 ge_x Fvalue_x Fcoder_x ⟨f4, f5, f6, f7, f8, f9⟩ hcap hlt hl W0 f10) (by decide) (by decide) e1 (by decide) (by decide) go11 hml.symm (argsL := [(.ref b)]) (rest := [(.ref x)]) (lenOf pd_50 rfl) rfl rfl rfl (D 3 rfl)
  obtain ⟨rfl, N12q, Kq1, Sq1⟩ := hQ12
  have N12 := Fr.app N0 N12q
  have z13 : n0 ≤ T12.heap.size := Nat.le_trans z2 Kq1.1
  have K14 : Keep h0 T12.heap [] := K3.trans Kq1 (allS (Or.inr hz_x) all0)
  obtain ⟨fs, hr, hrun, hended, hW, hsame⟩ := X12.leave (v := some (.ref x)) (fun h => by rw [Bd.returns] at h; cases h)
  refine ⟨_, _, go12 _ ?_, hrun, hended, _, _, rfl, ?_, ⟨_, rfl⟩, hW, hsame.mono (by decide) (by decide)⟩
  · exact retOut X12 hx Bd.returns rfl (Or.inr (Or.inr (Or.inr (Or.inr ⟨rfl, rfl, rfl⟩)))) (D 4 rfl) hr
  · show QTS Z b t kb cap cs G fv h0 n0 _ T12.heap _
    exact ⟨x, rfl, N12, K14, Sq1⟩
def QAI (Z : State) (b : Addr) (G : Int32) (fv : Value) (h0 : Heap) (n0 : Nat) (v : Option Value) (h : Heap) (L : List Loc) : Prop := ∃ (t : Addr) (kb : ClassId), v = none ∧ Fr n0 L ∧ Keep h0 h [b] ∧ own_B Z h b t kb 16 0 [] 0 ∧ n0 ≤ t
abbrev RmAI : Room := ({ frames := 1, cells := 1, slots := 16, locals := 12 } : Room)
theorem rmAI (l : Launch) (Z : State) (a0 : Array Value) (hw : Tb a0 Z) (ws : List Jvm.Cond) (b : Addr) (G : Int32) (fv : Value) (h0 : Heap) (n0 : Nat) (Z0 : n0 ≤ h0.size) (Eb : E2_ Z h0 b) (gb : n0 ≤ b) (Gv : F4_ Z h0 b .null) (Gc : F1_ Z h0 b (.int (0 : Int32))) (Gn : F2_ Z h0 b (.int (0 : Int32))) (Gm : F3_ Z h0 b (.int (0 : Int32))) (W0 : own_W Z G fv) (O0 : own_O Z n0 h0) :
    Met l Z h0 (⟨"java/lang/AbstractStringBuilder", "<init>", "(I)V"⟩ : MethodName) jdk_68_method_2_code 2 none RmAI ws #[(.ref b), (.int (16 : Int32))] (QAI Z b G fv h0 n0) := by
  refine MetFree.of_bodySF (plainFor_of_name pn_16) hisR ?_
  intro p e s m args below meth c s₁ Bd hml0 hP hK
  obtain ⟨rfl, hZ, hh⟩ := hP
  have hx := Bd.exec
  have hby := Bd.bytes
  have D := dl hby d74_
  have hml : c.maxLocals = 2 := hml0
  have hown : s.vm.findClass "java/lang/AbstractStringBuilder" = some m.cls := findClass_of_methodNamed Bd.named
  have hnm := (name_of_methodNamed Bd.named Bd.method).1
  have X0 : Stand p l e RmAI s m #[(.ref b), (.int (16 : Int32))] below meth c s₁ [] 0 0 := Stand.of_body Bd
  have e0 : s₁.heap = h0 := by rw [← hh, Bd.state]; rfl
  have N0 := Fr.nil n0
  obtain ⟨E0, hE0⟩ : ∃ z, z = s₁.setTop (entryFrame m #[(.ref b), (.int (16 : Int32))] 2) := ⟨_, rfl⟩
  rw [← hE0]
  have go0 : Go p e below E0 s₁ m 0 #[(sr b), (si 16)] [] := fun tgt kq => by rw [hE0]; exact castTop (ef_GC m b (16 : Int32)) kq
  have go1 : Go p e below E0 s₁ m 1 #[(sr b), (si 16)] [(.ref b)] := fun tgt kq => go0 tgt (by
    refine XS.aloadN X0.here hx rfl (D 0 rfl) rfl rfl ?_; exact kq)
  obtain ⟨T2, X2, e2, st2⟩ := initO X0 hx hZ hown (wd hw 158 rfl) (wd hw 21 rfl) (wd hw 22 rfl) e0 (g := (mkF m 1 #[(sr b), (si 16)] [(.ref b)])) rfl (by rw [hml]; rfl) rfl (D 1 rfl) (by decide) (W := 0) (by show 2 * 0 + _ ≤ _; exact Nat.le_of_eq rfl) (by decide)
  have go2 : Go p e below E0 T2 m 4 #[(sr b), (si 16)] [] := fun a b => go1 a (st2 a b)
  obtain ⟨T3, X3, e3, st3⟩ := getS2 X2 hx hZ hown (host := "") (Or.inl (wd hw 159 rfl)) Via.refl e2 (W0.1.ext O0.2) (g := (mkF m 4 #[(sr b), (si 16)] [])) rfl (D 2 rfl)
  have go3 : Go p e below E0 T3 m 7 #[(sr b), (si 16)] [(.int G)] := fun a b => go2 a (st3 a b)
  have go4 : Go p e below E0 T3 m 12 #[(sr b), (si 16)] [(.int 16), (.ref b)] := fun tgt kq => go3 tgt (by
    refine XS.ifNo X3.here hx rfl (D 3 rfl) rfl ((if0 _ _).trans (feq W0.2.1).1) ?_; refine XS.aloadN X3.here hx rfl (D 4 rfl) rfl rfl ?_; refine XS.iloadN X3.here hx rfl (D 5 rfl) rfl ?_; exact kq)
  obtain ⟨T5, h5, k5, X5, e5, E5, A5, st5⟩ := newP X3 hx hZ (wd hw 28 rfl) e3 (g := (mkF m 12 #[(sr b), (si 16)] [(.int 16), (.ref b)])) rfl (D 6 rfl) rfl (by decide) (cap := 16) (by decide) (by decide) (by decide) (by decide)
  obtain ⟨t, g5⟩ : ∃ z, z = h0.size := ⟨_, rfl⟩
  rw [← g5] at A5 st5
  have ne_b_t : b ≠ t := Nat.ne_of_lt (Nat.lt_of_lt_of_le Eb.lt (Nat.le_of_eq g5.symm))
  have ge_t : n0 ≤ t := Nat.le_trans Z0 (Nat.le_of_eq g5.symm)
  have hz_t : h0.size ≤ t := Nat.le_trans (Keep.refl h0 [b]).1 (Nat.le_of_eq g5.symm)
  have z6 : n0 ≤ h5.size := Nat.le_trans Z0 E5.1
  have K7 : Keep h0 h5 [b] := (Keep.refl h0 [b]).ext E5
  have V5 : Yb Z h5 t k5 (16 : Int32) [] := Arv.new A5 (by decide)
  have go5 : Go p e below E0 T5 m 14 #[(sr b), (si 16)] [(.ref t), (.ref b)] := fun a b => go4 a (st5 a b)
  have f8 : F4_ Z h5 b .null := (Gv.ext E5)
  have f9 : E2_ Z h5 b := (Eb.ext E5)
  obtain ⟨T10, h10, X10, e10, W10, st10⟩ := putF X5 hx hZ hown (host := "") (Or.inl (wd hw 160 rfl)) Via.refl e5 f8 f9 (Or.inl (wd hw 161 rfl)) (wd hw 147 rfl) (ty := (.array .byte)) (by decide) rfl rfl (g := (mkF m 14 #[(sr b), (si 16)] [(.ref t), (.ref b)])) rfl rfl (D 7 rfl)
  have z11 : n0 ≤ h10.size := Nat.le_trans z6 (Keep.of_wr W10).1
  have K12 : Keep h0 h10 [b] := K7.wr W10 (Or.inl (List.mem_of_getElem? (i := 0) rfl))
  have N10 := Fr.snoc X10 N0 gb
  have f13 : F4_ Z h10 b (.ref t) := (f8.same W10)
  have go10 : Go p e below E0 T10 m 17 #[(sr b), (si 16)] [] := fun a b => go5 a (st10 a b)
  have go14 : Go p e below E0 T10 m 19 #[(sr b), (si 16)] [(.int 0), (.ref b)] := fun tgt kq => go10 tgt (by
    refine XS.aloadN X10.here hx rfl (D 8 rfl) rfl rfl ?_; refine XS.iconst X10.here hx rfl (D 9 rfl) ?_; exact kq)
  have f15 : F1_ Z h10 b (.int (0 : Int32)) := ((Gc.ext E5).other W10 (Or.inr (slot_ne (Or.inl (wd hw 163 rfl)) (Or.inl (wd hw 161 rfl)) (by decide) (t := .byte) (t' := (.array .byte)) (by decide) (by decide))))
  have f16 : E2_ Z h10 b := (f9.wr W10)
  obtain ⟨T17, h17, X17, e17, W17, st17⟩ := putF X10 hx hZ hown (host := "") (Or.inl (wd hw 162 rfl)) Via.refl e10 f15 f16 (Or.inl (wd hw 163 rfl)) (wd hw 147 rfl) (ty := .byte) (by decide) rfl rfl (g := (mkF m 19 #[(sr b), (si 16)] [(.int 0), (.ref b)])) rfl rfl (D 10 rfl)
  have z18 : n0 ≤ h17.size := Nat.le_trans z11 (Keep.of_wr W17).1
  have K19 : Keep h0 h17 [b] := K12.wr W17 (Or.inl (List.mem_of_getElem? (i := 0) rfl))
  have N17 := Fr.snoc X17 N10 gb
  have f20 : F1_ Z h17 b (.int (0 : Int32)) := (f15.same W17)
  have go17 : Go p e below E0 T17 m 22 #[(sr b), (si 16)] [] := fun a b => go14 a (st17 a b)
  have f21 : E2_ Z h17 b := (f16.wr W17)
  have f22 : F4_ Z h17 b (.ref t) := (f13.other W17 (Or.inr (slot_ne (Or.inl (wd hw 161 rfl)) (Or.inl (wd hw 163 rfl)) (by decide) (t := (.array .byte)) (t' := .byte) (by decide) (by decide))))
  have f23 : F2_ Z h17 b (.int (0 : Int32)) := (((Gn.ext E5).other W10 (Or.inr (slot_ne (Or.inl (wd hw 176 rfl)) (Or.inl (wd hw 161 rfl)) (by decide) (t := .int) (t' := (.array .byte)) (by decide) (by decide)))).other W17 (Or.inr (slot_ne (Or.inl (wd hw 176 rfl)) (Or.inl (wd hw 163 rfl)) (by decide) (t := .int) (t' := .byte) (by decide) (by decide))))
  have f24 : F3_ Z h17 b (.int (0 : Int32)) := (((Gm.ext E5).other W10 (Or.inr (slot_ne (Or.inl (wd hw 343 rfl)) (Or.inl (wd hw 161 rfl)) (by decide) (t := .boolean) (t' := (.array .byte)) (by decide) (by decide)))).other W17 (Or.inr (slot_ne (Or.inl (wd hw 343 rfl)) (Or.inl (wd hw 163 rfl)) (by decide) (t := .boolean) (t' := .byte) (by decide) (by decide))))
  have f25 : Yb Z h17 t k5 (16 : Int32) [] := ((V5.other W10 (Ne.symm ne_b_t)).other W17 (Ne.symm ne_b_t))
  have go26 : Go p e below E0 T17 m 38 #[(sr b), (si 16)] [] := fun tgt kq => go17 tgt (by
    refine XS.goto X17.here hx rfl (pc0 := 22) (pc' := 38) rfl (D 11 rfl) (by decide) (by decide) ?_; exact kq)
  obtain ⟨fs, hr, hrun, hended, hW, hsame⟩ := X17.leave (v := none) (fun _ => rfl)
  refine ⟨_, _, go26 _ ?_, hrun, hended, _, _, rfl, ?_, ⟨_, rfl⟩, hW, hsame.mono (by decide) (by decide)⟩
  · exact X17.returnOut hx Bd.returns (D 12 rfl) hr
  · show QAI Z b G fv h0 n0 _ T17.heap _
    rw [e17]
    exact ⟨t, k5, rfl, N17, K19, ⟨f21, f22, f20, f23, f24, f25⟩, ge_t⟩
def QNS (Z : State) (b : Addr) (G : Int32) (fv : Value) (h0 : Heap) (n0 : Nat) (v : Option Value) (h : Heap) (L : List Loc) : Prop := ∃ (t : Addr) (kb : ClassId), v = none ∧ Fr n0 L ∧ Keep h0 h [b] ∧ own_B Z h b t kb 16 0 [] 0 ∧ n0 ≤ t
abbrev RmNS : Room := ({ frames := 2, cells := 1, slots := 16, locals := 25 } : Room)
theorem rmNS (l : Launch) (Z : State) (a0 : Array Value) (hw : Tb a0 Z) (ws : List Jvm.Cond) (b : Addr) (G : Int32) (fv : Value) (h0 : Heap) (n0 : Nat) (Z0 : n0 ≤ h0.size) (Eb : E2_ Z h0 b) (gb : n0 ≤ b) (Gv : F4_ Z h0 b .null) (Gc : F1_ Z h0 b (.int (0 : Int32))) (Gn : F2_ Z h0 b (.int (0 : Int32))) (Gm : F3_ Z h0 b (.int (0 : Int32))) (W0 : own_W Z G fv) (O0 : own_O Z n0 h0) :
    Met l Z h0 (⟨"java/lang/StringBuilder", "<init>", "()V"⟩ : MethodName) jdk_67_method_1_code 1 none RmNS ws #[(.ref b)] (QNS Z b G fv h0 n0) := by
  refine MetFree.of_bodySF (plainFor_of_name pn_46) hisR ?_
  intro p e s m args below meth c s₁ Bd hml0 hP hK
  obtain ⟨rfl, hZ, hh⟩ := hP
  have hx := Bd.exec
  have hby := Bd.bytes
  have D := dl hby d75_
  have hml : c.maxLocals = 1 := hml0
  have hown : s.vm.findClass "java/lang/StringBuilder" = some m.cls := findClass_of_methodNamed Bd.named
  have hnm := (name_of_methodNamed Bd.named Bd.method).1
  have X0 : Stand p l e RmNS s m #[(.ref b)] below meth c s₁ [] 0 0 := Stand.of_body Bd
  have e0 : s₁.heap = h0 := by rw [← hh, Bd.state]; rfl
  have N0 := Fr.nil n0
  obtain ⟨E0, hE0⟩ : ∃ z, z = s₁.setTop (entryFrame m #[(.ref b)] 1) := ⟨_, rfl⟩
  rw [← hE0]
  have go0 : Go p e below E0 s₁ m 0 #[(sr b)] [] := fun tgt kq => by rw [hE0]; exact castTop (ef_UL m b) kq
  have go1 : Go p e below E0 s₁ m 3 #[(sr b)] [(.int 16), (.ref b)] := fun tgt kq => go0 tgt (by
    refine XS.aloadN X0.here hx rfl (D 0 rfl) rfl rfl ?_; refine XS.bipush X0.here hx rfl (D 1 rfl) ?_; exact kq)
  obtain ⟨_, T2, L2, X2, hQ2, go2⟩ := own_cI X0 hx hZ hown (wd hw 152 rfl) (wd hw 153 rfl) (wd hw 156 rfl) (wd hw 157 rfl) rfl (by decide) (W := 0) (rmAI l Z a0 hw [] b G fv h0 n0 Z0 Eb gb Gv Gc Gn Gm W0 O0) (by decide) (by decide) e0 (by decide) (by decide) go1 hml.symm (argsL := [(.int 16)]) (rest := []) (lenOf pd_43 rfl) rfl rfl rfl (D 2 rfl)
  obtain ⟨t, kb, rfl, N2q, Kq1, B1, gq1⟩ := hQ2
  have N2 := Fr.app N0 N2q
  have z3 : n0 ≤ T2.heap.size := Nat.le_trans Z0 Kq1.1
  have K4 : Keep h0 T2.heap [b] := (Keep.refl h0 [b]).trans Kq1 (allS (Or.inl (List.mem_of_getElem? (i := 0) rfl)) all0)
  obtain ⟨fs, hr, hrun, hended, hW, hsame⟩ := X2.leave (v := none) (fun _ => rfl)
  refine ⟨_, _, go2 _ ?_, hrun, hended, _, _, rfl, ?_, ⟨_, rfl⟩, hW, hsame.mono (by decide) (by decide)⟩
  · exact X2.returnOut hx Bd.returns (D 3 rfl) hr
  · show QNS Z b G fv h0 n0 _ T2.heap _
    exact ⟨t, kb, rfl, N2, K4, B1, gq1⟩
theorem pn_51 : plainName "java/lang/Record" = true := by first | (simp [plainName, overriddenIn]; done) | decide +kernel
def QRC (Z : State) (x : Addr) (h0 : Heap) (n0 : Nat) (v : Option Value) (h : Heap) (L : List Loc) : Prop := v = none ∧ L = [] ∧ h = h0
abbrev RmRC : Room := ({ frames := 1, cells := 0, slots := 0, locals := 12 } : Room)
theorem rmRC (l : Launch) (Z : State) (a0 : Array Value) (hw : Tb a0 Z) (ws : List Jvm.Cond) (x : Addr) (h0 : Heap) (n0 : Nat) (Z0 : n0 ≤ h0.size) :
    Met l Z h0 (⟨"java/lang/Record", "<init>", "()V"⟩ : MethodName) jdk_30_method_1_code 1 none RmRC ws #[(.ref x)] (QRC Z x h0 n0) := by
  refine MetFree.of_bodySF (plainFor_of_name pn_51) hisR ?_
  intro p e s m args below meth c s₁ Bd hml0 hP hK
  obtain ⟨rfl, hZ, hh⟩ := hP
  have hx := Bd.exec
  have hby := Bd.bytes
  have D := dl hby d76_
  have hml : c.maxLocals = 1 := hml0
  have hown : s.vm.findClass "java/lang/Record" = some m.cls := findClass_of_methodNamed Bd.named
  have hnm := (name_of_methodNamed Bd.named Bd.method).1
  have X0 : Stand p l e RmRC s m #[(.ref x)] below meth c s₁ [] 0 0 := Stand.of_body Bd
  have e0 : s₁.heap = h0 := by rw [← hh, Bd.state]; rfl
  have N0 := Fr.nil n0
  obtain ⟨E0, hE0⟩ : ∃ z, z = s₁.setTop (entryFrame m #[(.ref x)] 1) := ⟨_, rfl⟩
  rw [← hE0]
  have go0 : Go p e below E0 s₁ m 0 #[(sr x)] [] := fun tgt kq => by rw [hE0]; exact castTop (ef_UL m x) kq
  have go1 : Go p e below E0 s₁ m 1 #[(sr x)] [(.ref x)] := fun tgt kq => go0 tgt (by
    refine XS.aloadN X0.here hx rfl (D 0 rfl) rfl rfl ?_; exact kq)
  obtain ⟨T2, X2, e2, st2⟩ := initO X0 hx hZ hown (wd hw 47 rfl) (wd hw 21 rfl) (wd hw 22 rfl) e0 (g := (mkF m 1 #[(sr x)] [(.ref x)])) rfl (by rw [hml]; rfl) rfl (D 1 rfl) (by decide) (W := 0) (by show 2 * 0 + _ ≤ _; exact Nat.le_of_eq rfl) (by decide)
  have go2 : Go p e below E0 T2 m 4 #[(sr x)] [] := fun a b => go1 a (st2 a b)
  obtain ⟨fs, hr, hrun, hended, hW, hsame⟩ := X2.leave (v := none) (fun _ => rfl)
  refine ⟨_, _, go2 _ ?_, hrun, hended, _, _, rfl, ?_, ⟨_, rfl⟩, hW, hsame.mono (by decide) (by decide)⟩
  · exact X2.returnOut hx Bd.returns (D 2 rfl) hr
  · show QRC Z x h0 n0 _ T2.heap _
    rw [e2]
    exact ⟨rfl, rfl, rfl⟩
theorem pd_52 : parseMethodDescriptor "(Ljava/lang/String;Ljava/lang/String;I)V" = some ⟨[(.object "java/lang/String"), (.object "java/lang/String"), .int], none⟩ := by decide +kernel
def QKC (Z : State) (x : Addr) (y : Addr) (t : Addr) (kx : ClassId) (p0 : Int32) (p1 : Int32) (G : Int32) (fv : Value) (h0 : Heap) (n0 : Nat) (v : Option Value) (h : Heap) (L : List Loc) (vm : Vm) : Prop := v = none ∧ Fr n0 L ∧ Keep h0 h [x] ∧ E0_ Z h x ∧ F0_ Z h x (.ref y) ∧ own_I1 Z vm
abbrev RmKC : Room := ({ frames := 7, cells := 2, slots := 44, locals := 100 } : Room)
theorem rmKC (l : Launch) (Z : State) (a0 : Array Value) (hw : Tb a0 Z) (ws : List Jvm.Cond) (x : Addr) (y : Addr) (t : Addr) (kx : ClassId) (p0 : Int32) (p1 : Int32) (G : Int32) (fv : Value) (h0 : Heap) (n0 : Nat) (Z0 : n0 ≤ h0.size) (Ek : E0_ Z h0 x) (gx : n0 ≤ x) (Fp : F0_ Z h0 x .null) (Ex : E1_ Z h0 y) (Fv : F6_ Z h0 y (.ref t)) (Fc : F5_ Z h0 y (.int (own_co [p0, p1]))) (Ax : Yb Z h0 t kx (Int32.ofNat (own_k [p0, p1] * [p0, p1].length)) (own_by [p0, p1])) (hp0 : own_pch p0) (hp1 : own_pch p1) (hH7 : Jvm.Lit.constHeld Z "com/example/portunus/portunus/core/KeySpace" 7) (hCW : Jvm.Lit.compactW.before a0 Z = true) (W0 : own_W Z G fv) (O0 : own_O Z n0 h0) :
    MetFree l y4_ (head1 (Jvm.Cond.code y4_ prog_7_method_1_code 2 none :: ws) RmKC) (fun as_ U => as_ = #[(.ref x), (.ref y)] ∧ Z.Warmed39 U.vm ∧ U.heap = h0 ∧ (own_I Z) U.vm) (fun _ _ _ _ _ => True) (fun _ U o U' => ∃ v L, o = .returned v ∧ QKC Z x y t kx p0 p1 G fv h0 n0 v U'.heap L U'.vm ∧ ReturnedEndW U o U' L RmKC.cells RmKC.slots) := by
  refine MetFree.of_bodySF (plainFor_of_name pn_24) hisR ?_
  intro p e s m args below meth c s₁ Bd hml0 hP hK
  obtain ⟨rfl, hZ, hh, hJ0⟩ := hP
  have hx := Bd.exec
  have hby := Bd.bytes
  have D := dl hby d77_
  have hml : c.maxLocals = 2 := hml0
  have hown : s.vm.findClass "com/example/portunus/portunus/core/KeySpace" = some m.cls := findClass_of_methodNamed Bd.named
  have hnm := (name_of_methodNamed Bd.named Bd.method).1
  have X0 : Stand p l e RmKC (s.setVm s.vm) m #[(.ref x), (.ref y)] below meth c s₁ [] 0 0 := Stand.of_body Bd
  have e0 : s₁.heap = h0 := by rw [← hh, Bd.state]; rfl
  have N0 := Fr.nil n0
  obtain ⟨E0, hE0⟩ : ∃ z, z = s₁.setTop (entryFrame m #[(.ref x), (.ref y)] 2) := ⟨_, rfl⟩
  rw [← hE0]
  have go0 : Go p e below E0 s₁ m 0 #[(sr x), (sr y)] [] := fun tgt kq => by rw [hE0]; exact castTop (ef_N520 m x y) kq
  have hS0 : s.Since s.vm h0.size := (State.WarmedH.refl s).since _
  have hk0 : h0.size ≤ h0.size := Nat.le_refl _
  have hwS : ∀ a ∈ Bundle.stringAtoms, a.before a0 Z = true := fun d hd => hw d ((by decide +kernel : ∀ d ∈ Bundle.stringAtoms, d ∈ tables_1) d hd)
  have go1 : Go p e below E0 s₁ m 1 #[(sr x), (sr y)] [(.ref x)] := fun tgt kq => go0 tgt (by
    refine XS.aloadN X0.here hx rfl (D 0 rfl) rfl rfl ?_; exact kq)
  obtain ⟨_, T2, L2, X2, hQ2, go2⟩ := own_cI X0 hx hZ hown (wd hw 42 rfl) (wd hw 43 rfl) (wd hw 45 rfl) (wd hw 46 rfl) rfl (by decide) (W := 0) (rmRC l Z a0 hw [] x h0 n0 Z0 ) (by decide) (by decide) e0 (by decide) (by decide) go1 hml.symm (argsL := []) (rest := []) (lenOf pd_40 rfl) rfl rfl rfl (D 1 rfl)
  obtain ⟨rfl, rfl, e2⟩ := hQ2
  have N2 := Fr.app N0 (Fr.nil n0)
  have hkeep3 : ∀ (b : Addr) (cl : Cell), Z.heap[b]? = some cl → s.heap[b]? = some cl := fun b cl q => by rw [hh]; exact O0.2.2 b cl q
  obtain ⟨la, T3, h3, k3, lb, lk, X3, e3, E3, hS3, hk3, hZ3, hown3, E_la, C_la, V_la, A_la, -, -, I_la, Lt_la, st3⟩ := ldcSVL X2 hx hZ hown (wd hw 48 rfl) hwS e2 hS0 hk0 (fun y hy => by simp at hy) hkeep3 hJ0 (by simp) hH7 hCW (vs := [(.int (107 : Int32)), (.int (101 : Int32)), (.int (121 : Int32)), (.int (32 : Int32)), (.int (112 : Int32)), (.int (114 : Int32)), (.int (101 : Int32)), (.int (102 : Int32)), (.int (105 : Int32)), (.int (120 : Int32))]) (z := (10 : Int32)) ⟨by decide +kernel, by decide +kernel⟩ (by decide) (by decide) (g := (mkF m 4 #[(sr x), (sr y)] [])) rfl (D 2 rfl) (n := 40) (by decide +kernel) (by decide) (by decide) (by decide)
  have z4 : n0 ≤ h3.size := Nat.le_trans Z0 E3.1
  have K5 : Keep h0 h3 [x] := (Keep.refl h0 [x]).ext E3
  have go3 : Go p e below E0 T3 m 6 #[(sr x), (sr y)] [(.ref la)] := fun a b => go2 a (st3 a b)
  have f6 : E1_ Z h3 y := (Ex.ext E3)
  have f7 : F6_ Z h3 y (.ref t) := (Fv.ext E3)
  have f8 : F5_ Z h3 y (.int (own_co [p0, p1])) := (Fc.ext E3)
  have f9 : Yb Z h3 t kx (Int32.ofNat (own_k [p0, p1] * [p0, p1].length)) (own_by [p0, p1]) := (Ax.ext E3)
  have f10 : own_O Z n0 h3 := (O0.ext E3)
  have go11 : Go p e below E0 T3 m 9 #[(sr x), (sr y)] [(.int 64), (.ref y), (.ref la)] := fun tgt kq => go3 tgt (by
    refine XS.aloadN X3.here hx rfl (D 3 rfl) rfl rfl ?_; refine XS.bipush X3.here hx rfl (D 4 rfl) ?_; exact kq)
  obtain ⟨_, T12, L12, X12, hQ12, go12⟩ := own_cS X3 hx hZ3 hown3 (wd hw 51 rfl) (wd hw 52 rfl) (wd hw 8 rfl) (wd hw 53 rfl) (by decide) (W := 0) (rmCT0 l Z a0 hw [] la y t kx [p0, p1] 64 G fv h3 n0 z4 f6 f7 f8 f9 (by show 2 ≤ 520; decide) (own_pair hp0.1 hp1.1) (by decide) (by show 1 ≤ 2; decide) (by show 2 ≤ 64; decide) (own_at3 (own_pair hp0.2.1 hp1.2.1) 0) W0 f10) (by decide) (by decide) e3 (by decide) (by decide) go11 hml.symm (argsL := [(.ref la), (.ref y), (.int 64)]) (rest := []) (lenOf pd_52 rfl) rfl rfl rfl (D 5 rfl)
  obtain ⟨rfl, N12q, Kq1⟩ := hQ12
  have N12 := Fr.app N2 N12q
  have z13 : n0 ≤ T12.heap.size := Nat.le_trans z4 Kq1.1
  have K14 : Keep h0 T12.heap [x] := K5.trans Kq1 all0
  have f15 : E1_ Z T12.heap y := (f6.keep Kq1)
  have f16 : F6_ Z T12.heap y (.ref t) := (f7.keep Kq1 nin0)
  have f17 : F5_ Z T12.heap y (.int (own_co [p0, p1])) := (f8.keep Kq1 nin0)
  have f18 : Yb Z T12.heap t kx (Int32.ofNat (own_k [p0, p1] * [p0, p1].length)) (own_by [p0, p1]) := (f9.keep Kq1 nin0)
  have f19 : own_O Z n0 T12.heap := (f10.keep Kq1 all0)
  have go20 : Go p e below E0 T12 m 15 #[(sr x), (sr y)] [(.int 123), (.ref y)] := fun tgt kq => go12 tgt (by
    refine XS.aloadN X12.here hx rfl (D 6 rfl) rfl rfl ?_; refine XS.bipush X12.here hx rfl (D 7 rfl) ?_; exact kq)
  obtain ⟨_, T21, L21, X21, hQ21, go21⟩ := own_cV X12 hx hZ3 hown3 (wd hw 94 rfl) (wd hw 95 rfl) (wd hw 97 rfl) (wd hw 96 rfl) (wd hw 11 rfl) (wd hw 98 rfl) (by decide) (W := 0) (rmJ1 l Z a0 hw [] y t kx p0 p1 (123 : Int32) G fv T12.heap n0 z13 f15 f16 f17 f18 hp0.1 hp1.1 hp0.2.2.1 hp1.2.2.1 own_br123 W0 f19) (by decide) (by decide) rfl (by decide) (by decide) f15 go20 hml.symm (argsL := [(.int 123)]) (rest := []) (lenOf pd_1 rfl) rfl rfl rfl (D 8 rfl)
  obtain ⟨rfl, rfl, e21⟩ := hQ21
  have N21 := Fr.app N12 (Fr.nil n0)
  have go22 : Go p e below E0 T21 m 24 #[(sr x), (sr y)] [(.int 125), (.ref y)] := fun tgt kq => go21 tgt (by
    refine XS.ifNo X21.here hx rfl (D 9 rfl) rfl ((if0 _ _).trans (tlt (by decide)).2.1) ?_; refine XS.aloadN X21.here hx rfl (D 10 rfl) rfl rfl ?_; refine XS.bipush X21.here hx rfl (D 11 rfl) ?_; exact kq)
  obtain ⟨_, T23, L23, X23, hQ23, go23⟩ := own_cV X21 hx hZ3 hown3 (wd hw 94 rfl) (wd hw 95 rfl) (wd hw 97 rfl) (wd hw 96 rfl) (wd hw 11 rfl) (wd hw 98 rfl) (by decide) (W := 0) (rmJ1 l Z a0 hw [] y t kx p0 p1 (125 : Int32) G fv T12.heap n0 z13 f15 f16 f17 f18 hp0.1 hp1.1 hp0.2.2.2 hp1.2.2.2 own_br125 W0 f19) (by decide) (by decide) e21 (by decide) (by decide) f15 go22 hml.symm (argsL := [(.int 125)]) (rest := []) (lenOf pd_1 rfl) rfl rfl rfl (D 12 rfl)
  obtain ⟨rfl, rfl, e23⟩ := hQ23
  have N23 := Fr.app N21 (Fr.nil n0)
  have go24 : Go p e below E0 T23 m 59 #[(sr x), (sr y)] [(.ref y), (.ref x)] := fun tgt kq => go23 tgt (by
    refine XS.ifYes X23.here hx rfl (pc0 := 27) (pc' := 57) rfl (D 13 rfl) rfl ((if0 _ _).trans (tlt (by decide)).1) (by decide) (by decide) ?_; refine XS.aloadN X23.here hx rfl (D 14 rfl) rfl rfl ?_; refine XS.aloadN X23.here hx rfl (D 15 rfl) rfl rfl ?_; exact kq)
  have f25 : F0_ Z T12.heap x .null := ((Fp.ext E3).keep Kq1 nin0)
  have f26 : E0_ Z T12.heap x := ((Ek.ext E3).keep Kq1)
  obtain ⟨T27, h27, X27, e27, W27, st27⟩ := putF X23 hx hZ3 hown3 (host := "") (Or.inl (wd hw 121 rfl)) Via.refl e23 f25 f26 (Or.inr ⟨(wd hw 122 rfl), rfl, hnm⟩) (wd hw 7 rfl) (ty := (.object "java/lang/String")) (by decide) rfl rfl (g := (mkF m 59 #[(sr x), (sr y)] [(.ref y), (.ref x)])) rfl rfl (D 16 rfl)
  have z28 : n0 ≤ h27.size := Nat.le_trans z13 (Keep.of_wr W27).1
  have K29 : Keep h0 h27 [x] := K14.wr W27 (Or.inl (List.mem_of_getElem? (i := 0) rfl))
  have N27 := Fr.snoc X27 N23 gx
  have f30 : F0_ Z h27 x (.ref y) := (f25.same W27)
  have go27 : Go p e below E0 T27 m 62 #[(sr x), (sr y)] [] := fun a b => go24 a (st27 a b)
  have f31 : E0_ Z h27 x := (f26.wr W27)
  obtain ⟨fs, hr, hrun, hended, hW⟩ := X27.leaveW hS3 (by rw [e27]; exact (Nat.le_trans hk3 (Nat.le_trans Kq1.1 (Keep.of_wr W27).1))) (v := none) (fun _ => rfl)
  refine ⟨_, _, go27 _ ?_, hrun, hended, _, _, rfl, ?_, hW.1, hW.2.1, hW.2.2.1, hW.2.2.2.mono (by decide) (by decide)⟩
  · exact X27.returnOut hx Bd.returns (D 17 rfl) hr
  · show QKC Z x y t kx p0 p1 G fv h0 n0 _ T27.heap _ T27.vm
    rw [e27]
    exact ⟨rfl, N27, K29, f31, f30, own_IBwarm (s := s.setVm T3.vm) I_la X27.warmed⟩
theorem pd_53 : parseMethodDescriptor "(Ljava/lang/String;)Ljava/lang/StringBuilder;" = some ⟨[(.object "java/lang/String")], some (.object "java/lang/StringBuilder")⟩ := by decide +kernel
theorem pd_54 : parseMethodDescriptor "(C)Ljava/lang/StringBuilder;" = some ⟨[.char], some (.object "java/lang/StringBuilder")⟩ := by decide +kernel
theorem pd_55 : parseMethodDescriptor "()Ljava/lang/String;" = some ⟨[], some (.object "java/lang/String")⟩ := by decide +kernel
def QLK (Z : State) (x : Addr) (y : Addr) (t : Addr) (kx : ClassId) (p0 : Int32) (p1 : Int32) (nm : Addr) (tn : Addr) (kn : ClassId) (ds : List Int32) (G : Int32) (fv : Value) (h0 : Heap) (n0 : Nat) (v : Option Value) (h : Heap) (L : List Loc) (vm : Vm) : Prop := ∃ got : Addr, v = some (.ref got) ∧ Fr n0 L ∧ Keep h0 h [] ∧ own_S Z h got ((([p0, p1] ++ ([58, 123] : List Int32)) ++ ds) ++ ([125] : List Int32))
abbrev RmLK : Room := ({ frames := 10, cells := 15, slots := 12556, locals := 143 } : Room)
theorem rmLK (l : Launch) (Z : State) (a0 : Array Value) (hw : Tb a0 Z) (ws : List Jvm.Cond) (x : Addr) (y : Addr) (t : Addr) (kx : ClassId) (p0 : Int32) (p1 : Int32) (nm : Addr) (tn : Addr) (kn : ClassId) (ds : List Int32) (G : Int32) (fv : Value) (h0 : Heap) (n0 : Nat) (Z0 : n0 ≤ h0.size) (hn0 : n0 = h0.size) (Ek : E0_ Z h0 x) (Fp : F0_ Z h0 x (.ref y)) (Exp : E1_ Z h0 y) (Fvp : F6_ Z h0 y (.ref t)) (Fcp : F5_ Z h0 y (.int (own_co [p0, p1]))) (Axp : Yb Z h0 t kx (Int32.ofNat (own_k [p0, p1] * [p0, p1].length)) (own_by [p0, p1])) (Exn : E1_ Z h0 nm) (Fvn : F6_ Z h0 nm (.ref tn)) (Fcn : F5_ Z h0 nm (.int (own_co ds))) (Axn : Yb Z h0 tn kn (Int32.ofNat (own_k ds * ds.length)) (own_by ds)) (hp0 : own_ch p0) (hp1 : own_ch p1) (hwd : ∀ c ∈ ds, own_ch c) (htx : own_tx ds 512) (hsz : ds.length ≤ 8 ∨ ds.length = 513) (hH43 : Jvm.Lit.constHeld Z "com/example/portunus/portunus/core/KeySpace" 43) (hH45 : Jvm.Lit.constHeld Z "com/example/portunus/portunus/core/KeySpace" 45) (hCW : Jvm.Lit.compactW.before a0 Z = true) (W0 : own_W Z G fv) (O0 : own_O Z n0 h0) :
    MetFree l y0_ (head1 (Jvm.Cond.code y0_ prog_7_method_2_code 2 (some (.object "java/lang/String")) :: ws) RmLK) (fun as_ U => as_ = #[(.ref x), (.ref nm)] ∧ Z.Warmed39 U.vm ∧ U.heap = h0 ∧ (own_I1 Z) U.vm) (fun _ _ _ _ _ => True) (fun _ U o U' => ∃ v L, o = .returned v ∧ QLK Z x y t kx p0 p1 nm tn kn ds G fv h0 n0 v U'.heap L U'.vm ∧ ReturnedEndW U o U' L RmLK.cells RmLK.slots) := by
  refine MetFree.of_bodySF (plainFor_of_name pn_24) hisR ?_
  intro p e s m args below meth c s₁ Bd hml0 hP hK
  obtain ⟨rfl, hZ, hh, hJ0⟩ := hP
  have hx := Bd.exec
  have hby := Bd.bytes
  have D := dl hby d78_
  have hml : c.maxLocals = 2 := hml0
  have hown : s.vm.findClass "com/example/portunus/portunus/core/KeySpace" = some m.cls := findClass_of_methodNamed Bd.named
  have hnm := (name_of_methodNamed Bd.named Bd.method).1
  have X0 : Stand p l e RmLK (s.setVm s.vm) m #[(.ref x), (.ref nm)] below meth c s₁ [] 0 0 := Stand.of_body Bd
  have e0 : s₁.heap = h0 := by rw [← hh, Bd.state]; rfl
  have N0 := Fr.nil n0
  obtain ⟨E0, hE0⟩ : ∃ z, z = s₁.setTop (entryFrame m #[(.ref x), (.ref nm)] 2) := ⟨_, rfl⟩
  rw [← hE0]
  have go0 : Go p e below E0 s₁ m 0 #[(sr x), (sr nm)] [] := fun tgt kq => by rw [hE0]; exact castTop (ef_N520 m x nm) kq
  have hS0 : s.Since s.vm h0.size := (State.WarmedH.refl s).since _
  have hk0 : h0.size ≤ h0.size := Nat.le_refl _
  have hwS : ∀ a ∈ Bundle.stringAtoms, a.before a0 Z = true := fun d hd => hw d ((by decide +kernel : ∀ d ∈ Bundle.stringAtoms, d ∈ tables_1) d hd)
  have hkeep1 : ∀ (b : Addr) (cl : Cell), Z.heap[b]? = some cl → s.heap[b]? = some cl := fun b cl q => by rw [hh]; exact O0.2.2 b cl q
  obtain ⟨la, T1, h1, k1, lb, lk, X1, e1, E1, hS1, hk1, hZ1, hown1, E_la, C_la, V_la, A_la, -, -, I_la, Lt_la, st1⟩ := ldcSVL X0 hx hZ hown (wd hw 145 rfl) hwS e0 hS0 hk0 (fun y hy => by simp at hy) hkeep1 hJ0 (by decide) hH43 hCW (vs := [(.int (108 : Int32)), (.int (111 : Int32)), (.int (99 : Int32)), (.int (107 : Int32)), (.int (32 : Int32)), (.int (110 : Int32)), (.int (97 : Int32)), (.int (109 : Int32)), (.int (101 : Int32))]) (z := (9 : Int32)) ⟨by decide +kernel, by decide +kernel⟩ (by decide) (by decide) (g := (mkF m 0 #[(sr x), (sr nm)] [])) rfl (D 0 rfl) (n := 36) (by decide +kernel) (by decide) (by decide) (by decide)
  have z2 : n0 ≤ h1.size := Nat.le_trans Z0 E1.1
  have K3 : Keep h0 h1 [] := (Keep.refl h0 []).ext E1
  have go1 : Go p e below E0 T1 m 2 #[(sr x), (sr nm)] [(.ref la)] := fun a b => go0 a (st1 a b)
  have f4 : E1_ Z h1 nm := (Exn.ext E1)
  have f5 : F6_ Z h1 nm (.ref tn) := (Fvn.ext E1)
  have f6 : F5_ Z h1 nm (.int (own_co ds)) := (Fcn.ext E1)
  have f7 : Yb Z h1 tn kn (Int32.ofNat (own_k ds * ds.length)) (own_by ds) := (Axn.ext E1)
  have f8 : own_O Z n0 h1 := (O0.ext E1)
  have go9 : Go p e below E0 T1 m 6 #[(sr x), (sr nm)] [(.int 512), (.ref nm), (.ref la)] := fun tgt kq => go1 tgt (by
    refine XS.aloadN X1.here hx rfl (D 1 rfl) rfl rfl ?_; refine XS.sipush X1.here hx rfl (D 2 rfl) ?_; exact kq)
  obtain ⟨_, T10, L10, X10, hQ10, go10⟩ := own_cS X1 hx hZ1 hown1 (wd hw 51 rfl) (wd hw 52 rfl) (wd hw 8 rfl) (wd hw 53 rfl) (by decide) (W := 0) (rmCT l Z a0 hw [] la nm tn kn ds 512 G fv h1 n0 z2 f4 f5 f6 f7 (by omega) hwd (by decide) htx W0 f8) (by decide) (by decide) e1 (by decide) (by decide) go9 hml.symm (argsL := [(.ref la), (.ref nm), (.int 512)]) (rest := []) (lenOf pd_52 rfl) rfl rfl rfl (D 3 rfl)
  obtain ⟨rfl, N10q, Kq1⟩ := hQ10
  have N10 := Fr.app N0 N10q
  have z11 : n0 ≤ T10.heap.size := Nat.le_trans z2 Kq1.1
  have K12 : Keep h0 T10.heap [] := K3.trans Kq1 all0
  obtain ⟨T13, h13, X13, e13, E13, A13, D13, -, st13⟩ := newO X10 hx hZ1 hown1 (wd hw 146 rfl) (wd hw 147 rfl) (wd hw 148 rfl) rfl (g := (mkF m 9 #[(sr x), (sr nm)] [])) rfl (D 4 rfl) (by decide) (by decide)
  obtain ⟨b, g13⟩ : ∃ z, z = T10.heap.size := ⟨_, rfl⟩
  rw [← g13] at A13 D13 st13
  have ne_x_b : x ≠ b := Nat.ne_of_lt (Nat.lt_of_lt_of_le (Nat.lt_of_lt_of_le Ek.lt (Nat.le_trans E1.1 Kq1.1)) (Nat.le_of_eq g13.symm))
  have ne_y_b : y ≠ b := Nat.ne_of_lt (Nat.lt_of_lt_of_le (Nat.lt_of_lt_of_le Exp.lt (Nat.le_trans E1.1 Kq1.1)) (Nat.le_of_eq g13.symm))
  have ne_t_b : t ≠ b := Nat.ne_of_lt (Nat.lt_of_lt_of_le (Nat.lt_of_lt_of_le Axp.lt (Nat.le_trans E1.1 Kq1.1)) (Nat.le_of_eq g13.symm))
  have ne_nm_b : nm ≠ b := Nat.ne_of_lt (Nat.lt_of_lt_of_le (Nat.lt_of_lt_of_le Exn.lt (Nat.le_trans E1.1 Kq1.1)) (Nat.le_of_eq g13.symm))
  have ne_tn_b : tn ≠ b := Nat.ne_of_lt (Nat.lt_of_lt_of_le (Nat.lt_of_lt_of_le Axn.lt (Nat.le_trans E1.1 Kq1.1)) (Nat.le_of_eq g13.symm))
  have ge_b : n0 ≤ b := Nat.le_trans z11 (Nat.le_of_eq g13.symm)
  have hz_b : h0.size ≤ b := Nat.le_trans K12.1 (Nat.le_of_eq g13.symm)
  have z14 : n0 ≤ h13.size := Nat.le_trans z11 E13.1
  have K15 : Keep h0 h13 [] := K12.ext E13
  have Fvalue_b : F4_ Z h13 b .null := D13 (Or.inl (wd hw 161 rfl)) (ty := (.array .byte)) (by decide)
  have Fcoder_b : F1_ Z h13 b (.int (0 : Int32)) := D13 (Or.inl (wd hw 163 rfl)) (ty := .byte) (by decide)
  have Fcount_b : F2_ Z h13 b (.int (0 : Int32)) := D13 (Or.inl (wd hw 176 rfl)) (ty := .int) (by decide)
  have FmaybeLatin1_b : F3_ Z h13 b (.int (0 : Int32)) := D13 (Or.inl (wd hw 343 rfl)) (ty := .boolean) (by decide)
  have go13 : Go p e below E0 T13 m 12 #[(sr x), (sr nm)] [(.ref b)] := fun a b => go10 a (st13 a b)
  have f16 : own_O Z n0 h13 := ((f8.keep Kq1 all0).ext E13)
  have go17 : Go p e below E0 T13 m 13 #[(sr x), (sr nm)] [(.ref b), (.ref b)] := fun tgt kq => go13 tgt (by
    refine XS.dup X13.here hx rfl (D 5 rfl) rfl rfl ?_; exact kq)
  obtain ⟨_, T18, L18, X18, hQ18, go18⟩ := own_cI X13 hx hZ1 hown1 (wd hw 149 rfl) (wd hw 150 rfl) (wd hw 148 rfl) (wd hw 151 rfl) rfl (by decide) (W := 1) (rmNS l Z a0 hw [] b G fv h13 n0 z14 A13 ge_b Fvalue_b Fcoder_b Fcount_b FmaybeLatin1_b W0 f16) (by decide) (by decide) e13 (by decide) (by decide) go17 hml.symm (argsL := []) (rest := [(.ref b)]) (lenOf pd_40 rfl) rfl rfl rfl (D 6 rfl)
  obtain ⟨t1, kb1, rfl, N18q, Kq2, B1, gq1⟩ := hQ18
  have N18 := Fr.app N10 N18q
  have z19 : n0 ≤ T18.heap.size := Nat.le_trans z14 Kq2.1
  have K20 : Keep h0 T18.heap [] := K15.trans Kq2 (allS (Or.inr hz_b) all0)
  have B1 : own_B Z T18.heap b t1 kb1 (own_k ([] : List Int32) * 16) (own_co []) (own_by []) ([] : List Int32).length := B1
  have z1_ : h0.size ≤ t1 := by rw [← hn0]; exact gq1
  obtain ⟨Eb_1, Gv_1, Gc_1, Gn_1, Gm_1, Ab_1⟩ := id B1
  have ne_b_1 : b ≠ t1 := Exa.neArv Eb_1 Ab_1 (wd hw 147 rfl)
  have ne_y_t1 : y ≠ t1 := Nat.ne_of_lt (Nat.lt_of_lt_of_le Exp.lt z1_)
  have ne_t_t1 : t ≠ t1 := Nat.ne_of_lt (Nat.lt_of_lt_of_le Axp.lt z1_)
  have ne_nm_t1 : nm ≠ t1 := Nat.ne_of_lt (Nat.lt_of_lt_of_le Exn.lt z1_)
  have ne_tn_t1 : tn ≠ t1 := Nat.ne_of_lt (Nat.lt_of_lt_of_le Axn.lt z1_)
  have ne_x_t1 : x ≠ t1 := Nat.ne_of_lt (Nat.lt_of_lt_of_le Ek.lt z1_)
  have go21 : Go p e below E0 T18 m 17 #[(sr x), (sr nm)] [(.ref x), (.ref b)] := fun tgt kq => go18 tgt (by
    refine XS.aloadN X18.here hx rfl (D 7 rfl) rfl rfl ?_; exact kq)
  have f22 : F0_ Z T18.heap x (.ref y) := ((((Fp.ext E1).keep Kq1 nin0).ext E13).keep Kq2 (ninS ne_x_b nin0))
  obtain ⟨T23, X23, e23, go23⟩ := own_gF X18 hx hZ1 hown1 (wd hw 121 rfl) rfl f22 go21 (D 8 rfl)
  have f24 : E1_ Z T18.heap y := ((((Exp.ext E1).keep Kq1).ext E13).keep Kq2)
  have f25 : F6_ Z T18.heap y (.ref t) := ((((Fvp.ext E1).keep Kq1 nin0).ext E13).keep Kq2 (ninS ne_y_b nin0))
  have f26 : F5_ Z T18.heap y (.int (own_co [p0, p1])) := ((((Fcp.ext E1).keep Kq1 nin0).ext E13).keep Kq2 (ninS ne_y_b nin0))
  have f27 : Yb Z T18.heap t kx (Int32.ofNat (own_k [p0, p1] * [p0, p1].length)) (own_by [p0, p1]) := ((((Axp.ext E1).keep Kq1 nin0).ext E13).keep Kq2 (ninS ne_t_b nin0))
  have f28 : own_O Z n0 T18.heap := (f16.keep Kq2 (allS ge_b all0))
  obtain ⟨_, T29, L29, X29, hQ29, go29⟩ := own_cV X23 hx hZ1 hown1 (wd hw 164 rfl) (wd hw 165 rfl) (wd hw 167 rfl) (wd hw 166 rfl) (wd hw 148 rfl) (wd hw 168 rfl) (by decide) (W := 0) (rmSA l Z a0 hw [] b t1 kb1 16 ([] : List Int32) y t kx [p0, p1] G fv T18.heap n0 z19 ⟨Eb_1, Gv_1, Gc_1, Gn_1, Gm_1, Ab_1⟩ ge_b gq1 (by decide) (by decide) f24 f25 f26 f27 ne_y_b ne_t_t1 (by show 0 + 2 ≤ 517; decide) (by show own_cap 16 (0 + 2) ≤ 517; decide) own_allnil (own_pair hp0 hp1) W0 f28) (by decide) (by decide) e23 (by decide) (by decide) Eb_1 go23 hml.symm (argsL := [(.ref y)]) (rest := []) (lenOf pd_53 rfl) rfl rfl rfl (D 9 rfl)
  obtain ⟨t2, kb2, rfl, N29q, Ka1, B2, gq2⟩ := hQ29
  have N29 := Fr.app N18 N29q
  have z30 : n0 ≤ T29.heap.size := Nat.le_trans z19 Ka1.1
  have K31 : Keep h0 T29.heap [] := K20.trans Ka1 (allS (Or.inr hz_b) (allS (Or.inr z1_) all0))
  have B2 : own_B Z T29.heap b t2 kb2 (own_k [p0, p1] * 16) (own_co [p0, p1]) (own_by [p0, p1]) [p0, p1].length := B2
  have z2_ : h0.size ≤ t2 := by rw [← hn0]; exact gq2
  obtain ⟨Eb_2, Gv_2, Gc_2, Gn_2, Gm_2, Ab_2⟩ := id B2
  have ne_b_2 : b ≠ t2 := Exa.neArv Eb_2 Ab_2 (wd hw 147 rfl)
  have ne_y_t2 : y ≠ t2 := Nat.ne_of_lt (Nat.lt_of_lt_of_le Exp.lt z2_)
  have ne_t_t2 : t ≠ t2 := Nat.ne_of_lt (Nat.lt_of_lt_of_le Axp.lt z2_)
  have ne_nm_t2 : nm ≠ t2 := Nat.ne_of_lt (Nat.lt_of_lt_of_le Exn.lt z2_)
  have ne_tn_t2 : tn ≠ t2 := Nat.ne_of_lt (Nat.lt_of_lt_of_le Axn.lt z2_)
  have ne_x_t2 : x ≠ t2 := Nat.ne_of_lt (Nat.lt_of_lt_of_le Ek.lt z2_)
  have hkeep32 : ∀ (b : Addr) (cl : Cell), Z.heap[b]? = some cl → s.heap[b]? = some cl := fun b cl q => by rw [hh]; exact O0.2.2 b cl q
  obtain ⟨lc, T32, h32, k32, ld, lj, X32, e32, E32, hS32, hk32, hZ32, hown32, E_lc, C_lc, V_lc, A_lc, -, -, I_lc, Lt_lc, st32⟩ := ldcSVL X29 hx hZ1 hown1 (wd hw 202 rfl) hwS rfl hS1 (Nat.le_trans hk1 (Nat.le_trans (Nat.le_trans (Nat.le_trans Kq1.1 E13.1) Kq2.1) Ka1.1)) (by rw [hh, ← hn0]; exact N29) hkeep32 I_la (by decide) hH45 hCW (vs := [(.int (58 : Int32)), (.int (123 : Int32))]) (z := (2 : Int32)) ⟨by decide +kernel, by decide +kernel⟩ (by decide) (by decide) (g := (mkF m 23 #[(sr x), (sr nm)] [(.ref b)])) rfl (D 10 rfl) (n := 8) (by decide +kernel) (by decide) (by decide) (by decide)
  have z33 : n0 ≤ h32.size := Nat.le_trans z30 E32.1
  have K34 : Keep h0 h32 [] := K31.ext E32
  have go32 : Go p e below E0 T32 m 25 #[(sr x), (sr nm)] [(.ref lc), (.ref b)] := fun a b => go29 a (st32 a b)
  have TL : own_T Z h32 lc ld lj [58, 123] := ⟨E_lc, V_lc, by rw [own_c0 own_lit1]; exact C_lc, by rw [own_k0 own_lit1, own_litb]; exact A_lc⟩
  have f35 : E2_ Z h32 b := (Eb_2.ext E32)
  have f36 : Yb Z h32 t2 kb2 (Int32.ofNat (own_k [p0, p1] * 16)) (own_by [p0, p1]) := (Ab_2.ext E32)
  have ne_lc_b : lc ≠ b := ne_exa E_lc f35 (by decide)
  have ne_ld_t2 : ld ≠ t2 := own_arv_ne A_lc f36 (own_kne _)
  have f37 : F4_ Z h32 b (.ref t2) := (Gv_2.ext E32)
  have f38 : F1_ Z h32 b (.int (own_co [p0, p1])) := (Gc_2.ext E32)
  have f39 : F2_ Z h32 b (.int (Int32.ofNat [p0, p1].length)) := (Gn_2.ext E32)
  have f40 : F3_ Z h32 b (.int (0 : Int32)) := (Gm_2.ext E32)
  have f41 : own_O Z n0 h32 := ((f28.keep Ka1 (allS ge_b (allS gq1 all0))).ext E32)
  obtain ⟨_, T42, L42, X42, hQ42, go42⟩ := own_cV X32 hx hZ32 hown32 (wd hw 164 rfl) (wd hw 165 rfl) (wd hw 167 rfl) (wd hw 166 rfl) (wd hw 148 rfl) (wd hw 168 rfl) (by decide) (W := 0) (rmSA l Z a0 hw [] b t2 kb2 16 [p0, p1] lc ld lj [58, 123] G fv h32 n0 z33 ⟨f35, f37, f38, f39, f40, f36⟩ ge_b gq2 (by decide) (by show 2 ≤ 16; decide) TL.1 TL.2.1 TL.2.2.1 TL.2.2.2 ne_lc_b ne_ld_t2 (by show 2 + 2 ≤ 517; decide) (by show own_cap 16 (2 + 2) ≤ 517; decide) (own_pair hp0 hp1) (own_pair own_wf58 own_wf123) W0 f41) (by decide) (by decide) e32 (by decide) (by decide) f35 go32 hml.symm (argsL := [(.ref lc)]) (rest := []) (lenOf pd_53 rfl) rfl rfl rfl (D 11 rfl)
  obtain ⟨t3, kb3, rfl, N42q, Ka2, B3, gq3⟩ := hQ42
  have N42 := Fr.app N29 N42q
  have z43 : n0 ≤ T42.heap.size := Nat.le_trans z33 Ka2.1
  have K44 : Keep h0 T42.heap [] := K34.trans Ka2 (allS (Or.inr hz_b) (allS (Or.inr z2_) all0))
  have B3 : own_B Z T42.heap b t3 kb3 (own_k ([p0, p1] ++ ([58, 123] : List Int32)) * 16) (own_co ([p0, p1] ++ ([58, 123] : List Int32))) (own_by ([p0, p1] ++ ([58, 123] : List Int32))) ([p0, p1] ++ ([58, 123] : List Int32)).length := B3
  have z3_ : h0.size ≤ t3 := by rw [← hn0]; exact gq3
  obtain ⟨Eb_3, Gv_3, Gc_3, Gn_3, Gm_3, Ab_3⟩ := id B3
  have ne_b_3 : b ≠ t3 := Exa.neArv Eb_3 Ab_3 (wd hw 147 rfl)
  have ne_y_t3 : y ≠ t3 := Nat.ne_of_lt (Nat.lt_of_lt_of_le Exp.lt z3_)
  have ne_t_t3 : t ≠ t3 := Nat.ne_of_lt (Nat.lt_of_lt_of_le Axp.lt z3_)
  have ne_nm_t3 : nm ≠ t3 := Nat.ne_of_lt (Nat.lt_of_lt_of_le Exn.lt z3_)
  have ne_tn_t3 : tn ≠ t3 := Nat.ne_of_lt (Nat.lt_of_lt_of_le Axn.lt z3_)
  have ne_x_t3 : x ≠ t3 := Nat.ne_of_lt (Nat.lt_of_lt_of_le Ek.lt z3_)
  have hw3 : ∀ c ∈ ([p0, p1] ++ ([58, 123] : List Int32)), own_ch c := own_allapp (own_pair hp0 hp1) (own_pair own_wf58 own_wf123)
  have hw4 : ∀ c ∈ (([p0, p1] ++ ([58, 123] : List Int32)) ++ ds), own_ch c := own_allapp hw3 hwd
  have l4 : (([p0, p1] ++ ([58, 123] : List Int32)) ++ ds).length = 4 + ds.length := List.length_append
  have m4 : own_cap 16 (4 + ds.length) ≤ 517 ∧ 4 + ds.length ≤ own_cap 16 (4 + ds.length) := by unfold own_cap; split <;> omega
  have f45 : E1_ Z T42.heap nm := ((((((f4.keep Kq1).ext E13).keep Kq2).keep Ka1).ext E32).keep Ka2)
  have f46 : F6_ Z T42.heap nm (.ref tn) := ((((((f5.keep Kq1 nin0).ext E13).keep Kq2 (ninS ne_nm_b nin0)).keep Ka1 (ninS ne_nm_b (ninS ne_nm_t1 nin0))).ext E32).keep Ka2 (ninS ne_nm_b (ninS ne_nm_t2 nin0)))
  have f47 : F5_ Z T42.heap nm (.int (own_co ds)) := ((((((f6.keep Kq1 nin0).ext E13).keep Kq2 (ninS ne_nm_b nin0)).keep Ka1 (ninS ne_nm_b (ninS ne_nm_t1 nin0))).ext E32).keep Ka2 (ninS ne_nm_b (ninS ne_nm_t2 nin0)))
  have f48 : Yb Z T42.heap tn kn (Int32.ofNat (own_k ds * ds.length)) (own_by ds) := ((((((f7.keep Kq1 nin0).ext E13).keep Kq2 (ninS ne_tn_b nin0)).keep Ka1 (ninS ne_tn_b (ninS ne_tn_t1 nin0))).ext E32).keep Ka2 (ninS ne_tn_b (ninS ne_tn_t2 nin0)))
  have f49 : own_O Z n0 T42.heap := (f41.keep Ka2 (allS ge_b (allS gq2 all0)))
  have go50 : Go p e below E0 T42 m 29 #[(sr x), (sr nm)] [(.ref nm), (.ref b)] := fun tgt kq => go42 tgt (by
    refine XS.aloadN X42.here hx rfl (D 12 rfl) rfl rfl ?_; exact kq)
  obtain ⟨_, T51, L51, X51, hQ51, go51⟩ := own_cV X42 hx hZ32 hown32 (wd hw 164 rfl) (wd hw 165 rfl) (wd hw 167 rfl) (wd hw 166 rfl) (wd hw 148 rfl) (wd hw 168 rfl) (by decide) (W := 0) (rmSA l Z a0 hw [] b t3 kb3 16 ([p0, p1] ++ ([58, 123] : List Int32)) nm tn kn ds G fv T42.heap n0 z43 ⟨Eb_3, Gv_3, Gc_3, Gn_3, Gm_3, Ab_3⟩ ge_b gq3 (by decide) (by show 4 ≤ 16; decide) f45 f46 f47 f48 ne_nm_b ne_tn_t3 (by show 4 + ds.length ≤ 517; omega) m4.1 hw3 hwd W0 f49) (by decide) (by decide) rfl (by decide) (by decide) Eb_3 go50 hml.symm (argsL := [(.ref nm)]) (rest := []) (lenOf pd_53 rfl) rfl rfl rfl (D 13 rfl)
  obtain ⟨t4, kb4, rfl, N51q, Ka3, B4, gq4⟩ := hQ51
  have N51 := Fr.app N42 N51q
  have z52 : n0 ≤ T51.heap.size := Nat.le_trans z43 Ka3.1
  have K53 : Keep h0 T51.heap [] := K44.trans Ka3 (allS (Or.inr hz_b) (allS (Or.inr z3_) all0))
  have B4 : own_B Z T51.heap b t4 kb4 (own_k (([p0, p1] ++ ([58, 123] : List Int32)) ++ ds) * (own_cap 16 (4 + ds.length))) (own_co (([p0, p1] ++ ([58, 123] : List Int32)) ++ ds)) (own_by (([p0, p1] ++ ([58, 123] : List Int32)) ++ ds)) (([p0, p1] ++ ([58, 123] : List Int32)) ++ ds).length := B4
  have z4_ : h0.size ≤ t4 := by rw [← hn0]; exact gq4
  obtain ⟨Eb_4, Gv_4, Gc_4, Gn_4, Gm_4, Ab_4⟩ := id B4
  have ne_b_4 : b ≠ t4 := Exa.neArv Eb_4 Ab_4 (wd hw 147 rfl)
  have ne_y_t4 : y ≠ t4 := Nat.ne_of_lt (Nat.lt_of_lt_of_le Exp.lt z4_)
  have ne_t_t4 : t ≠ t4 := Nat.ne_of_lt (Nat.lt_of_lt_of_le Axp.lt z4_)
  have ne_nm_t4 : nm ≠ t4 := Nat.ne_of_lt (Nat.lt_of_lt_of_le Exn.lt z4_)
  have ne_tn_t4 : tn ≠ t4 := Nat.ne_of_lt (Nat.lt_of_lt_of_le Axn.lt z4_)
  have ne_x_t4 : x ≠ t4 := Nat.ne_of_lt (Nat.lt_of_lt_of_le Ek.lt z4_)
  have f54 : own_O Z n0 T51.heap := (f49.keep Ka3 (allS ge_b (allS gq3 all0)))
  have go55 : Go p e below E0 T51 m 34 #[(sr x), (sr nm)] [(.int 125), (.ref b)] := fun tgt kq => go51 tgt (by
    refine XS.bipush X51.here hx rfl (D 14 rfl) ?_; exact kq)
  obtain ⟨_, T56, L56, X56, hQ56, go56⟩ := own_cV X51 hx hZ32 hown32 (wd hw 203 rfl) (wd hw 204 rfl) (wd hw 206 rfl) (wd hw 205 rfl) (wd hw 148 rfl) (wd hw 207 rfl) (by decide) (W := 0) (rmSC l Z a0 hw [] b t4 kb4 (own_cap 16 (4 + ds.length)) (([p0, p1] ++ ([58, 123] : List Int32)) ++ ds) G fv T51.heap n0 z52 ⟨Eb_4, Gv_4, Gc_4, Gn_4, Gm_4, Ab_4⟩ ge_b gq4 m4.1 (by rw [l4]; exact m4.2) (by rw [l4]; omega) hw4 W0 f54) (by decide) (by decide) rfl (by decide) (by decide) Eb_4 go55 hml.symm (argsL := [(.int 125)]) (rest := []) (lenOf pd_54 rfl) rfl rfl rfl (D 15 rfl)
  obtain ⟨t5, kb5, rfl, N56q, Ka4, B5, gq5⟩ := hQ56
  have N56 := Fr.app N51 N56q
  have z57 : n0 ≤ T56.heap.size := Nat.le_trans z52 Ka4.1
  have K58 : Keep h0 T56.heap [] := K53.trans Ka4 (allS (Or.inr hz_b) (allS (Or.inr z4_) all0))
  have z5_ : h0.size ≤ t5 := by rw [← hn0]; exact gq5
  obtain ⟨Eb_5, Gv_5, Gc_5, Gn_5, Gm_5, Ab_5⟩ := id B5
  have ne_b_5 : b ≠ t5 := Exa.neArv Eb_5 Ab_5 (wd hw 147 rfl)
  have ne_y_t5 : y ≠ t5 := Nat.ne_of_lt (Nat.lt_of_lt_of_le Exp.lt z5_)
  have ne_t_t5 : t ≠ t5 := Nat.ne_of_lt (Nat.lt_of_lt_of_le Axp.lt z5_)
  have ne_nm_t5 : nm ≠ t5 := Nat.ne_of_lt (Nat.lt_of_lt_of_le Exn.lt z5_)
  have ne_tn_t5 : tn ≠ t5 := Nat.ne_of_lt (Nat.lt_of_lt_of_le Axn.lt z5_)
  have ne_x_t5 : x ≠ t5 := Nat.ne_of_lt (Nat.lt_of_lt_of_le Ek.lt z5_)
  have l5 : ((([p0, p1] ++ ([58, 123] : List Int32)) ++ ds) ++ ([125] : List Int32)).length = 5 + ds.length := by rw [List.length_append, l4]; show 4 + ds.length + 1 = _; omega
  have m5 : (own_cap (own_cap 16 (4 + ds.length)) ((([p0, p1] ++ ([58, 123] : List Int32)) ++ ds).length + 1)) ≤ 1036 ∧ 5 + ds.length < (own_cap (own_cap 16 (4 + ds.length)) ((([p0, p1] ++ ([58, 123] : List Int32)) ++ ds).length + 1)) := by rw [l4]; unfold own_cap; split <;> split <;> omega
  have f59 : own_O Z n0 T56.heap := (f54.keep Ka4 (allS ge_b (allS gq4 all0)))
  obtain ⟨_, T60, L60, X60, hQ60, go60⟩ := own_cV X56 hx hZ32 hown32 (wd hw 218 rfl) (wd hw 219 rfl) (wd hw 221 rfl) (wd hw 220 rfl) (wd hw 148 rfl) (wd hw 222 rfl) (by decide) (W := 0) (rmTS l Z a0 hw [] b t5 kb5 (own_cap (own_cap 16 (4 + ds.length)) ((([p0, p1] ++ ([58, 123] : List Int32)) ++ ds).length + 1)) ((([p0, p1] ++ ([58, 123] : List Int32)) ++ ds) ++ ([125] : List Int32)) G fv T56.heap n0 z57 ⟨Eb_5, Gv_5, Gc_5, Gn_5, Gm_5, Ab_5⟩ m5.1 (by rw [l5]; exact m5.2) (by rw [l5]; omega) W0 f59) (by decide) (by decide) rfl (by decide) (by decide) Eb_5 go56 hml.symm (argsL := []) (rest := []) (lenOf pd_55 rfl) rfl rfl rfl (D 16 rfl)
  obtain ⟨got, rfl, N60q, Kq9, Sq9⟩ := hQ60
  have N60 := Fr.app N56 N60q
  have z61 : n0 ≤ T60.heap.size := Nat.le_trans z57 Kq9.1
  have K62 : Keep h0 T60.heap [] := K58.trans Kq9 all0
  obtain ⟨fs, hr, hrun, hended, hW⟩ := X60.leaveW hS32 (Nat.le_trans hk32 (Nat.le_trans (Nat.le_trans (Nat.le_trans Ka2.1 Ka3.1) Ka4.1) Kq9.1)) (v := some (.ref got)) (fun h => by rw [Bd.returns] at h; cases h)
  refine ⟨_, _, go60 _ ?_, hrun, hended, _, _, rfl, ?_, hW.1, hW.2.1, hW.2.2.1, hW.2.2.2.mono (by decide) (by decide)⟩
  · exact retOut X60 hx Bd.returns rfl (Or.inr (Or.inr (Or.inr (Or.inr ⟨rfl, rfl, rfl⟩)))) (D 17 rfl) hr
  · show QLK Z x y t kx p0 p1 nm tn kn ds G fv h0 n0 _ T60.heap _ T60.vm
    exact ⟨got, rfl, N60, K62, Sq9⟩
theorem own_m4 (x : Int32) : (x &&& (3 : Int32)) = 0 ∨ (x &&& (3 : Int32)) = 1 ∨ (x &&& (3 : Int32)) = 2 ∨ (x &&& (3 : Int32)) = 3 := by
  have h := c_mask x (3 : Int32) 2 (by decide) (by decide)
  have e3 : ((2 ^ 2 : Nat) : Int) = 4 := by decide
  rw [e3] at h
  rcases (by omega : (x &&& (3 : Int32)).toInt = 0 ∨ (x &&& (3 : Int32)).toInt = 1 ∨ (x &&& (3 : Int32)).toInt = 2 ∨ (x &&& (3 : Int32)).toInt = 3) with q | q | q | q
  · exact Or.inl (Int32.toInt_inj.mp q)
  · exact Or.inr (Or.inl (Int32.toInt_inj.mp q))
  · exact Or.inr (Or.inr (Or.inl (Int32.toInt_inj.mp q)))
  · exact Or.inr (Or.inr (Or.inr (Int32.toInt_inj.mp q)))
theorem own_eqI {t : Term} {k : Int32} {args : Array Value} {first s : State} {o : Option Outcome} {idx : List Nat} (h : (Jvm.Cond.eq t (.int k)).value args first o s idx = some true) : t.eval args first o idx s = some (.int k) := by
  simp only [Jvm.Cond.value, Term.eval] at h
  cases ht : t.eval args first o idx s with
  | none => simp [ht] at h
  | some x => cases x <;> simp [ht] at h ⊢; exact h
theorem pd_56 : parseMethodDescriptor "([C)V" = some ⟨[(.array .char)], none⟩ := by decide +kernel
theorem pd_57 : parseMethodDescriptor "(C)Ljava/lang/String;" = some ⟨[.char], some (.object "java/lang/String")⟩ := by decide +kernel
theorem pd_58 : parseMethodDescriptor "(Ljava/lang/String;)Ljava/lang/String;" = some ⟨[(.object "java/lang/String")], some (.object "java/lang/String")⟩ := by decide +kernel
theorem pd_59 : parseMethodDescriptor "(Ljava/lang/Object;)Z" = some ⟨[(.object "java/lang/Object")], some .boolean⟩ := by decide +kernel
theorem ef_L (m : MethodId) (x0 : Int32) (x1 : Int32) (x2 : Int32) (x3 : Int32) : entryFrame m #[(.int x0), (.int x1), (.int x2), (.int x3)] maxLocals = mkF m 0 #[.val (.int x0), .val (.int x1), .val (.int x2), .val (.int x3), .unset, .unset, .unset, .unset, .unset, .unset, .unset, .unset, .unset, .unset, .unset, .unset] [] := by first | (simp [entryFrame, mkF, argsToLocals, Value.category, maxLocals]; done) | rfl
def QL (Z : State) (p0 : Int32) (p1 : Int32) (p2 : Int32) (p3 : Int32) (G : Int32) (fv : Value) (h0 : Heap) (n0 : Nat) (v : Option Value) (h : Heap) (L : List Loc) (vm : Vm) : Prop := v = some (.int 1) ∧ Fr n0 L
theorem rmL (l : Launch) (Z : State) (a0 : Array Value) (hw : Tb a0 Z) (ws : List Jvm.Cond) (p0 : Int32) (p1 : Int32) (p2 : Int32) (p3 : Int32) (G : Int32) (fv : Value) (h0 : Heap) (n0 : Nat) (Z0 : n0 ≤ h0.size) (W0 : own_W Z G fv) (O0 : own_O Z n0 h0) (hH7 : Jvm.Lit.constHeld Z "com/example/portunus/portunus/core/KeySpace" 7) (hH43 : Jvm.Lit.constHeld Z "com/example/portunus/portunus/core/KeySpace" 43) (hH45 : Jvm.Lit.constHeld Z "com/example/portunus/portunus/core/KeySpace" 45) (hCW : Jvm.Lit.compactW.before a0 Z = true) :
    MetFree l x (head1 (Jvm.Cond.code x code maxLocals ret :: ws) room_1) (fun as_ U => as_ = #[(.int p0), (.int p1), (.int p2), (.int p3)] ∧ Z.Warmed39 U.vm ∧ U.heap = h0 ∧ (own_I Z) U.vm) (fun _ _ _ _ _ => True) (fun _ U o U' => ∃ v L, o = .returned v ∧ QL Z p0 p1 p2 p3 G fv h0 n0 v U'.heap L U'.vm ∧ ReturnedEndW U o U' L 30 18326) := by
  refine MetFree.of_bodySF (plainFor_of_name pn_19) hisR ?_
  intro p e s m args below meth c s₁ Bd hml0 hP hK
  obtain ⟨rfl, hZ, hh, hJ0⟩ := hP
  have hx := Bd.exec
  have hby := Bd.bytes
  have D : Dc code c := fun q => hb hby q
  have hml : c.maxLocals = 16 := hml0
  have hown : s.vm.findClass "com/example/portunus/portunus/core/KeySpaceLockKeyPinLaw" = some m.cls := findClass_of_methodNamed Bd.named
  have hnm := (name_of_methodNamed Bd.named Bd.method).1
  have X0 : Stand p l e room_1 (s.setVm s.vm) m #[(.int p0), (.int p1), (.int p2), (.int p3)] below meth c s₁ [] 0 0 := Stand.of_body Bd
  have e0 : s₁.heap = h0 := by rw [← hh, Bd.state]; rfl
  have N0 := Fr.nil n0
  obtain ⟨E0, hE0⟩ : ∃ z, z = s₁.setTop (entryFrame m #[(.int p0), (.int p1), (.int p2), (.int p3)] maxLocals) := ⟨_, rfl⟩
  rw [← hE0]
  have go0 : Go p e below E0 s₁ m 0 #[(si p0), (si p1), (si p2), (si p3), .unset, .unset, .unset, .unset, .unset, .unset, .unset, .unset, .unset, .unset, .unset, .unset] [] := fun tgt kq => by rw [hE0]; exact castTop (ef_L m p0 p1 p2 p3) kq
  have hS0 : s.Since s.vm h0.size := (State.WarmedH.refl s).since _
  have hk0 : h0.size ≤ h0.size := Nat.le_refl _
  have hwS : ∀ a ∈ Bundle.stringAtoms, a.before a0 Z = true := fun d hd => hw d ((by decide +kernel : ∀ d ∈ Bundle.stringAtoms, d ∈ tables_1) d hd)
  have go1 : Go p e below E0 s₁ m 1 #[(si p0), (si p1), (si p2), (si p3), .unset, .unset, .unset, .unset, .unset, .unset, .unset, .unset, .unset, .unset, .unset, .unset] [(.int p0)] := fun tgt kq => go0 tgt (by
    refine XS.iloadN X0.here hx rfl (D at_0) rfl ?_; exact kq)
  obtain ⟨_, T2, L2, X2, hQ2, go2⟩ := own_cS X0 hx hZ hown (wd hw 0 rfl) (wd hw 1 rfl) (wd hw 2 rfl) (wd hw 3 rfl) (by decide) (W := 0) (rmPH l Z a0 hw [] p0 h0 n0 Z0 ) (by decide) (by decide) e0 (by decide) (by decide) go1 hml.symm (argsL := [(.int p0)]) (rest := []) (lenOf pd_22 rfl) rfl rfl rfl (D at_1)
  obtain ⟨pa, rfl, rfl, e2, hpa⟩ := hQ2
  have N2 := Fr.app N0 (Fr.nil n0)
  have go3 : Go p e below E0 T2 m 10 #[(si p0), (si p1), (si p2), (si p3), (si pa), .unset, .unset, .unset, .unset, .unset, .unset, .unset, .unset, .unset, .unset, .unset] [(.int ((p0.toUInt32 >>> ((16 : Int32) &&& 31).toUInt32).toInt32))] := fun tgt kq => go2 tgt (by
    refine XS.istore X2.here hx rfl (D at_4) rfl (l' := #[(si p0), (si p1), (si p2), (si p3), (si pa), .unset, .unset, .unset, .unset, .unset, .unset, .unset, .unset, .unset, .unset, .unset]) rfl ?_; refine XS.iloadN X2.here hx rfl (D at_6) rfl ?_; refine XS.bipush X2.here hx rfl (D at_7) ?_; refine XS.iushr X2.here hx rfl (D at_9) rfl ?_; exact kq)
  obtain ⟨_, T4, L4, X4, hQ4, go4⟩ := own_cS X2 hx hZ hown (wd hw 0 rfl) (wd hw 1 rfl) (wd hw 2 rfl) (wd hw 3 rfl) (by decide) (W := 0) (rmPH l Z a0 hw [] ((p0.toUInt32 >>> ((16 : Int32) &&& 31).toUInt32).toInt32) h0 n0 Z0 ) (by decide) (by decide) e2 (by decide) (by decide) go3 hml.symm (argsL := [(.int ((p0.toUInt32 >>> ((16 : Int32) &&& 31).toUInt32).toInt32))]) (rest := []) (lenOf pd_22 rfl) rfl rfl rfl (D at_10)
  obtain ⟨pb, rfl, rfl, e4, hpb⟩ := hQ4
  have N4 := Fr.app N2 (Fr.nil n0)
  have n_pa := hpa.1.2.2
  have n_pb := hpb.1.2.2
  have go5 : Go p e below E0 T4 m 15 #[(si p0), (si p1), (si p2), (si p3), (si pa), (si pb), .unset, .unset, .unset, .unset, .unset, .unset, .unset, .unset, .unset, .unset] [] := fun tgt kq => go4 tgt (by
    refine XS.istore X4.here hx rfl (D at_13) rfl (l' := #[(si p0), (si p1), (si p2), (si p3), (si pa), (si pb), .unset, .unset, .unset, .unset, .unset, .unset, .unset, .unset, .unset, .unset]) rfl ?_; exact kq)
  obtain ⟨T6, h6, X6, e6, E6, A6, D6, -, st6⟩ := newO X4 hx hZ hown (wd hw 6 rfl) (wd hw 7 rfl) (wd hw 8 rfl) e4 (g := (mkF m 15 #[(si p0), (si p1), (si p2), (si p3), (si pa), (si pb), .unset, .unset, .unset, .unset, .unset, .unset, .unset, .unset, .unset, .unset] [])) rfl (D at_15) (by decide) (by decide)
  obtain ⟨ks, g6⟩ : ∃ z, z = h0.size := ⟨_, rfl⟩
  rw [← g6] at A6 D6 st6
  have ge_ks : n0 ≤ ks := Nat.le_trans Z0 (Nat.le_of_eq g6.symm)
  have hz_ks : h0.size ≤ ks := Nat.le_trans (Keep.refl h0 []).1 (Nat.le_of_eq g6.symm)
  have z7 : n0 ≤ h6.size := Nat.le_trans Z0 E6.1
  have K8 : Keep h0 h6 [] := (Keep.refl h0 []).ext E6
  have Fprefix_ks : F0_ Z h6 ks .null := D6 (Or.inr (wd hw 122 rfl)) (ty := (.object "java/lang/String")) (by decide)
  have go6 : Go p e below E0 T6 m 18 #[(si p0), (si p1), (si p2), (si p3), (si pa), (si pb), .unset, .unset, .unset, .unset, .unset, .unset, .unset, .unset, .unset, .unset] [(.ref ks)] := fun a b => go5 a (st6 a b)
  have go9 : Go p e below E0 T6 m 19 #[(si p0), (si p1), (si p2), (si p3), (si pa), (si pb), .unset, .unset, .unset, .unset, .unset, .unset, .unset, .unset, .unset, .unset] [(.ref ks), (.ref ks)] := fun tgt kq => go6 tgt (by
    refine XS.dup X6.here hx rfl (D at_18) rfl rfl ?_; exact kq)
  obtain ⟨T10, h10, X10, e10, E10, A10, D10, -, st10⟩ := newO X6 hx hZ hown (wd hw 9 rfl) (wd hw 10 rfl) (wd hw 11 rfl) e6 (g := (mkF m 19 #[(si p0), (si p1), (si p2), (si p3), (si pa), (si pb), .unset, .unset, .unset, .unset, .unset, .unset, .unset, .unset, .unset, .unset] [(.ref ks), (.ref ks)])) rfl (D at_19) (by decide) (by decide)
  obtain ⟨s0, g10⟩ : ∃ z, z = h6.size := ⟨_, rfl⟩
  rw [← g10] at A10 D10 st10
  have ne_ks_s0 : ks ≠ s0 := Nat.ne_of_lt (Nat.lt_of_lt_of_le A6.lt (Nat.le_of_eq g10.symm))
  have ge_s0 : n0 ≤ s0 := Nat.le_trans z7 (Nat.le_of_eq g10.symm)
  have hz_s0 : h0.size ≤ s0 := Nat.le_trans K8.1 (Nat.le_of_eq g10.symm)
  have z11 : n0 ≤ h10.size := Nat.le_trans z7 E10.1
  have K12 : Keep h0 h10 [] := K8.ext E10
  have Fcoder_s0 : F5_ Z h10 s0 (.int (0 : Int32)) := D10 (Or.inr (wd hw 36 rfl)) (ty := .byte) (by decide)
  have Fvalue_s0 : F6_ Z h10 s0 .null := D10 (Or.inr (wd hw 38 rfl)) (ty := (.array .byte)) (by decide)
  have go10 : Go p e below E0 T10 m 22 #[(si p0), (si p1), (si p2), (si p3), (si pa), (si pb), .unset, .unset, .unset, .unset, .unset, .unset, .unset, .unset, .unset, .unset] [(.ref s0), (.ref ks), (.ref ks)] := fun a b => go9 a (st10 a b)
  have go13 : Go p e below E0 T10 m 24 #[(si p0), (si p1), (si p2), (si p3), (si pa), (si pb), .unset, .unset, .unset, .unset, .unset, .unset, .unset, .unset, .unset, .unset] [(.int 2), (.ref s0), (.ref s0), (.ref ks), (.ref ks)] := fun tgt kq => go10 tgt (by
    refine XS.dup X10.here hx rfl (D at_22) rfl rfl ?_; refine XS.iconst X10.here hx rfl (D at_23) ?_; exact kq)
  obtain ⟨T14, h14, k14, X14, e14, E14, A14, st14⟩ := newP X10 hx hZ (wd hw 12 rfl) e10 (g := (mkF m 24 #[(si p0), (si p1), (si p2), (si p3), (si pa), (si pb), .unset, .unset, .unset, .unset, .unset, .unset, .unset, .unset, .unset, .unset] [(.int 2), (.ref s0), (.ref s0), (.ref ks), (.ref ks)])) rfl (D at_24) rfl (by decide) (cap := 2) (by decide) (by decide) (by decide) (by decide)
  obtain ⟨ca, g14⟩ : ∃ z, z = h10.size := ⟨_, rfl⟩
  rw [← g14] at A14 st14
  have ne_ks_ca : ks ≠ ca := Nat.ne_of_lt (Nat.lt_of_lt_of_le (Nat.lt_of_lt_of_le A6.lt E10.1) (Nat.le_of_eq g14.symm))
  have ne_s0_ca : s0 ≠ ca := Nat.ne_of_lt (Nat.lt_of_lt_of_le A10.lt (Nat.le_of_eq g14.symm))
  have ge_ca : n0 ≤ ca := Nat.le_trans z11 (Nat.le_of_eq g14.symm)
  have hz_ca : h0.size ≤ ca := Nat.le_trans K12.1 (Nat.le_of_eq g14.symm)
  have z15 : n0 ≤ h14.size := Nat.le_trans z11 E14.1
  have K16 : Keep h0 h14 [] := K12.ext E14
  have V14 : Yc Z h14 ca k14 (2 : Int32) [] := Arv.new A14 (by decide)
  have go14 : Go p e below E0 T14 m 26 #[(si p0), (si p1), (si p2), (si p3), (si pa), (si pb), .unset, .unset, .unset, .unset, .unset, .unset, .unset, .unset, .unset, .unset] [(.ref ca), (.ref s0), (.ref s0), (.ref ks), (.ref ks)] := fun a b => go13 a (st14 a b)
  have go17 : Go p e below E0 T14 m 30 #[(si p0), (si p1), (si p2), (si p3), (si pa), (si pb), .unset, .unset, .unset, .unset, .unset, .unset, .unset, .unset, .unset, .unset] [(.int pa), (.int 0), (.ref ca), (.ref ca), (.ref s0), (.ref s0), (.ref ks), (.ref ks)] := fun tgt kq => go14 tgt (by
    refine XS.dup X14.here hx rfl (D at_26) rfl rfl ?_; refine XS.iconst X14.here hx rfl (D at_27) ?_; refine XS.iload X14.here hx rfl (D at_28) rfl ?_; exact kq)
  obtain ⟨T18, h18, X18, e18, W18, A18, go18⟩ := own_sC X14 hx hZ e14 V14 (j := (0 : Int32)) rfl ⟨by decide, by decide⟩ go17 (D at_30)
  have z19 : n0 ≤ h18.size := Nat.le_trans z15 (Keep.of_wr W18).1
  have K20 : Keep h0 h18 [] := K16.wr W18 (Or.inr hz_ca)
  have N18 := Fr.snoc X18 N4 ge_ca
  have f21 : Yc Z h18 ca k14 (2 : Int32) [(.int (nar .char pa))] := A18
  have go22 : Go p e below E0 T18 m 35 #[(si p0), (si p1), (si p2), (si p3), (si pa), (si pb), .unset, .unset, .unset, .unset, .unset, .unset, .unset, .unset, .unset, .unset] [(.int pb), (.int 1), (.ref ca), (.ref ca), (.ref s0), (.ref s0), (.ref ks), (.ref ks)] := fun tgt kq => go18 tgt (by
    refine XS.dup X18.here hx rfl (D at_31) rfl rfl ?_; refine XS.iconst X18.here hx rfl (D at_32) ?_; refine XS.iload X18.here hx rfl (D at_33) rfl ?_; exact kq)
  obtain ⟨T23, h23, X23, e23, W23, A23, go23⟩ := own_sC X18 hx hZ e18 f21 (j := (1 : Int32)) rfl ⟨by decide, by decide⟩ go22 (D at_35)
  have z24 : n0 ≤ h23.size := Nat.le_trans z19 (Keep.of_wr W23).1
  have K25 : Keep h0 h23 [] := K20.wr W23 (Or.inr hz_ca)
  have N23 := Fr.snoc X23 N18 ge_ca
  have f26 : Yc Z h23 ca k14 (2 : Int32) [(.int (nar .char pa)), (.int (nar .char pb))] := A23
  have Ac27 : Yc Z h23 ca k14 (Int32.ofNat [pa, pb].length) ([pa, pb].map Value.int) := by have q := f26; rw [n_pa, n_pb] at q; exact q
  have f28 : E1_ Z h23 s0 := (((A10.ext E14).wr W18).wr W23)
  have f29 : F6_ Z h23 s0 .null := (((Fvalue_s0.ext E14).other W18 (Or.inl ne_s0_ca)).other W23 (Or.inl ne_s0_ca))
  have f30 : F5_ Z h23 s0 (.int (0 : Int32)) := (((Fcoder_s0.ext E14).other W18 (Or.inl ne_s0_ca)).other W23 (Or.inl ne_s0_ca))
  have f31 : own_O Z n0 h23 := (((((O0.ext E6).ext E10).ext E14).wr W18 ge_ca).wr W23 ge_ca)
  obtain ⟨_, T32, L32, X32, hQ32, go32⟩ := own_cI X23 hx hZ hown (wd hw 13 rfl) (wd hw 14 rfl) (wd hw 11 rfl) (wd hw 15 rfl) rfl (by decide) (W := 3) (rmN520 l Z a0 hw [] s0 ca k14 [pa, pb] G fv h23 n0 z24 f28 ge_s0 f29 f30 Ac27 (by show 2 ≤ 520; decide) (by show 1 ≤ 2; decide) (own_pair hpa.1 hpb.1) W0 f31) (by decide) (by decide) e23 (by decide) (by decide) go23 hml.symm (argsL := [(.ref ca)]) (rest := [(.ref s0), (.ref ks), (.ref ks)]) (lenOf pd_56 rfl) rfl rfl rfl (D at_36)
  obtain ⟨rfl, N32q, Kq1, Sq1⟩ := hQ32
  have N32 := Fr.app N23 N32q
  have z33 : n0 ≤ T32.heap.size := Nat.le_trans z24 Kq1.1
  have K34 : Keep h0 T32.heap [] := K25.trans Kq1 (allS (Or.inr hz_s0) all0)
  obtain ⟨t0, k0, Ex0, Fv0, Fc0, Ax0⟩ := Sq1
  have f35 : E0_ Z T32.heap ks := (((((A6.ext E10).ext E14).wr W18).wr W23).keep Kq1)
  have ne_ks_t0 : ks ≠ t0 := Exa.neArv f35 Ax0 (wd hw 7 rfl)
  have f36 : F0_ Z T32.heap ks .null := (((((Fprefix_ks.ext E10).ext E14).other W18 (Or.inl ne_ks_ca)).other W23 (Or.inl ne_ks_ca)).keep Kq1 (ninS ne_ks_s0 nin0))
  have f37 : own_O Z n0 T32.heap := (f31.keep Kq1 (allS ge_s0 all0))
  obtain ⟨_, _, ⟨T38, L38, k38, n38⟩, -, Xp38, hSp38, hgp38, ⟨Lc38, hQ38, l38, y38, z38⟩, st38⟩ := X32.specialBackS hx (y := y4_) rfl hown (wm hw hZ 39 rfl) (wm hw hZ 40 rfl) (wm hw hZ 41 rfl) (by decide) (own_backJ (W := 1) (rmKC l Z a0 hw [] ks s0 t0 k0 pa pb G fv T32.heap n0 z33 f35 ge_ks f36 Ex0 Fv0 Fc0 Ax0 hpa hpb hH7 hCW W0 f37) hZ (wd hw 41 rfl) (wd hw 8 rfl) (by decide) (by decide)) (g := (mkF m 39 #[(si p0), (si p1), (si p2), (si p3), (si pa), (si pb), .unset, .unset, .unset, .unset, .unset, .unset, .unset, .unset, .unset, .unset] [(.ref s0), (.ref ks), (.ref ks)])) rfl (by rw [hml]; rfl) (Steps.refl _) (a := ks) (argsL := [(.ref s0)]) (rest := [(.ref ks)]) (lenOf pd_41 rfl) rfl (by show 2 * 0 + _ ≤ _; exact Nat.le_of_eq rfl) (D at_39) (fun _ hwm => ⟨rfl, rfl, (own_IBwarm hJ0 hwm), (by decide : 5 + 2 ≤ _), (by decide : 1567 + 44 ≤ _)⟩)
  dsimp only [Pt.U, Pt.locs, Pt.cells, Pt.slots] at Xp38 hSp38 hgp38 l38 y38 z38 st38 hQ38
  subst l38 y38 z38
  obtain ⟨X38, hS38, hZ38, hown38⟩ := rebS hS0 (Nat.le_trans hk0 (Nat.le_trans (Nat.le_trans (Nat.le_trans (Nat.le_trans (Nat.le_trans E6.1 E10.1) E14.1) (Keep.of_wr W18).1) (Keep.of_wr W23).1) Kq1.1)) Xp38 hSp38 hgp38 hZ hown
  obtain ⟨rfl, N38q, Kq2, Ek2, Fp2, J1⟩ := hQ38
  have N38 := Fr.app N32 N38q
  have z39 : n0 ≤ T38.heap.size := Nat.le_trans z33 Kq2.1
  have K40 : Keep h0 T38.heap [] := K34.trans Kq2 (allS (Or.inr hz_ks) all0)
  have go38 : Go p e below E0 T38 m 42 #[(si p0), (si p1), (si p2), (si p3), (si pa), (si pb), .unset, .unset, .unset, .unset, .unset, .unset, .unset, .unset, .unset, .unset] [(.ref ks)] := fun tgt kq => go32 tgt (st38.trans kq)
  have go41 : Go p e below E0 T38 m 45 #[(si p0), (si p1), (si p2), (si p3), (si pa), (si pb), (sr ks), .unset, .unset, .unset, .unset, .unset, .unset, .unset, .unset, .unset] [(.int p1)] := fun tgt kq => go38 tgt (by
    refine XS.astore X38.here hx rfl (D at_42) rfl rfl (l' := #[(si p0), (si p1), (si p2), (si p3), (si pa), (si pb), (sr ks), .unset, .unset, .unset, .unset, .unset, .unset, .unset, .unset, .unset]) rfl ?_; refine XS.iloadN X38.here hx rfl (D at_44) rfl ?_; exact kq)
  obtain ⟨_, T42, L42, X42, hQ42, go42⟩ := own_cS X38 hx hZ38 hown38 (wd hw 123 rfl) (wd hw 124 rfl) (wd hw 2 rfl) (wd hw 125 rfl) (by decide) (W := 0) (rmNH l Z a0 hw [] p1 T38.heap n0 z39 ) (by decide) (by decide) rfl (by decide) (by decide) go41 hml.symm (argsL := [(.int p1)]) (rest := []) (lenOf pd_22 rfl) rfl rfl rfl (D at_45)
  obtain ⟨na, rfl, rfl, e42, hna⟩ := hQ42
  have N42 := Fr.app N38 (Fr.nil n0)
  have n_na := hna.1.2.2
  have go43 : Go p e below E0 T42 m 54 #[(si p0), (si p1), (si p2), (si p3), (si pa), (si pb), (sr ks), (si na), .unset, .unset, .unset, .unset, .unset, .unset, .unset, .unset] [(.int ((p1.toUInt32 >>> ((16 : Int32) &&& 31).toUInt32).toInt32))] := fun tgt kq => go42 tgt (by
    refine XS.istore X42.here hx rfl (D at_48) rfl (l' := #[(si p0), (si p1), (si p2), (si p3), (si pa), (si pb), (sr ks), (si na), .unset, .unset, .unset, .unset, .unset, .unset, .unset, .unset]) rfl ?_; refine XS.iloadN X42.here hx rfl (D at_50) rfl ?_; refine XS.bipush X42.here hx rfl (D at_51) ?_; refine XS.iushr X42.here hx rfl (D at_53) rfl ?_; exact kq)
  obtain ⟨_, T44, L44, X44, hQ44, go44⟩ := own_cS X42 hx hZ38 hown38 (wd hw 123 rfl) (wd hw 124 rfl) (wd hw 2 rfl) (wd hw 125 rfl) (by decide) (W := 0) (rmNH l Z a0 hw [] ((p1.toUInt32 >>> ((16 : Int32) &&& 31).toUInt32).toInt32) T38.heap n0 z39 ) (by decide) (by decide) e42 (by decide) (by decide) go43 hml.symm (argsL := [(.int ((p1.toUInt32 >>> ((16 : Int32) &&& 31).toUInt32).toInt32))]) (rest := []) (lenOf pd_22 rfl) rfl rfl rfl (D at_54)
  obtain ⟨nb, rfl, rfl, e44, hnb⟩ := hQ44
  have N44 := Fr.app N42 (Fr.nil n0)
  have n_nb := hnb.1.2.2
  have go45 : Go p e below E0 T44 m 60 #[(si p0), (si p1), (si p2), (si p3), (si pa), (si pb), (sr ks), (si na), (si nb), .unset, .unset, .unset, .unset, .unset, .unset, .unset] [(.int p2)] := fun tgt kq => go44 tgt (by
    refine XS.istore X44.here hx rfl (D at_57) rfl (l' := #[(si p0), (si p1), (si p2), (si p3), (si pa), (si pb), (sr ks), (si na), (si nb), .unset, .unset, .unset, .unset, .unset, .unset, .unset]) rfl ?_; refine XS.iloadN X44.here hx rfl (D at_59) rfl ?_; exact kq)
  obtain ⟨_, T46, L46, X46, hQ46, go46⟩ := own_cS X44 hx hZ38 hown38 (wd hw 123 rfl) (wd hw 124 rfl) (wd hw 2 rfl) (wd hw 125 rfl) (by decide) (W := 0) (rmNH l Z a0 hw [] p2 T38.heap n0 z39 ) (by decide) (by decide) e44 (by decide) (by decide) go45 hml.symm (argsL := [(.int p2)]) (rest := []) (lenOf pd_22 rfl) rfl rfl rfl (D at_60)
  obtain ⟨nd, rfl, rfl, e46, hnd⟩ := hQ46
  have N46 := Fr.app N44 (Fr.nil n0)
  have n_nd := hnd.1.2.2
  obtain ⟨v10, hv10⟩ : ∃ z : Int32, z = (((55296 : Int32) ||| (p3 &&& (1023 : Int32))).toUInt32.toUInt16.toUInt32.toInt32) := ⟨_, rfl⟩
  have go47 : Go p e below E0 T46 m 98 #[(si p0), (si p1), (si p2), (si p3), (si pa), (si pb), (sr ks), (si na), (si nb), (si nd), (si v10), (si (((56320 : Int32) ||| (((p3.toUInt32 >>> ((10 : Int32) &&& 31).toUInt32).toInt32) &&& (1023 : Int32))).toUInt32.toUInt16.toUInt32.toInt32)), (si (((p2.toUInt32 >>> ((16 : Int32) &&& 31).toUInt32).toInt32) &&& (3 : Int32))), .unset, .unset, .unset] [] := fun tgt kq => go46 tgt (by
    rw [hv10] at kq
    refine XS.istore X46.here hx rfl (D at_63) rfl (l' := #[(si p0), (si p1), (si p2), (si p3), (si pa), (si pb), (sr ks), (si na), (si nb), (si nd), .unset, .unset, .unset, .unset, .unset, .unset]) rfl ?_; refine X46.ldcInt hx hown38 (wm hw hZ38 5 rfl) (g := (mkF m 65 #[(si p0), (si p1), (si p2), (si p3), (si pa), (si pb), (sr ks), (si na), (si nb), (si nd), .unset, .unset, .unset, .unset, .unset, .unset] [])) rfl (D at_65) _ ?_; refine XS.iloadN X46.here hx rfl (D at_67) rfl ?_; refine XS.sipush X46.here hx rfl (D at_68) ?_; refine XS.iand X46.here hx rfl (D at_71) rfl ?_; refine XS.ior X46.here hx rfl (D at_72) rfl ?_; refine XS.i2c X46.here hx rfl (D at_73) rfl ?_; refine XS.istore X46.here hx rfl (D at_74) rfl (l' := #[(si p0), (si p1), (si p2), (si p3), (si pa), (si pb), (sr ks), (si na), (si nb), (si nd), (si (((55296 : Int32) ||| (p3 &&& (1023 : Int32))).toUInt32.toUInt16.toUInt32.toInt32)), .unset, .unset, .unset, .unset, .unset]) rfl ?_; refine X46.ldcInt hx hown38 (wm hw hZ38 126 rfl) (g := (mkF m 76 #[(si p0), (si p1), (si p2), (si p3), (si pa), (si pb), (sr ks), (si na), (si nb), (si nd), (si (((55296 : Int32) ||| (p3 &&& (1023 : Int32))).toUInt32.toUInt16.toUInt32.toInt32)), .unset, .unset, .unset, .unset, .unset] [])) rfl (D at_76) _ ?_; refine XS.iloadN X46.here hx rfl (D at_78) rfl ?_; refine XS.bipush X46.here hx rfl (D at_79) ?_; refine XS.iushr X46.here hx rfl (D at_81) rfl ?_; refine XS.sipush X46.here hx rfl (D at_82) ?_; refine XS.iand X46.here hx rfl (D at_85) rfl ?_; refine XS.ior X46.here hx rfl (D at_86) rfl ?_; refine XS.i2c X46.here hx rfl (D at_87) rfl ?_; refine XS.istore X46.here hx rfl (D at_88) rfl (l' := #[(si p0), (si p1), (si p2), (si p3), (si pa), (si pb), (sr ks), (si na), (si nb), (si nd), (si (((55296 : Int32) ||| (p3 &&& (1023 : Int32))).toUInt32.toUInt16.toUInt32.toInt32)), (si (((56320 : Int32) ||| (((p3.toUInt32 >>> ((10 : Int32) &&& 31).toUInt32).toInt32) &&& (1023 : Int32))).toUInt32.toUInt16.toUInt32.toInt32)), .unset, .unset, .unset, .unset]) rfl ?_; refine XS.iloadN X46.here hx rfl (D at_90) rfl ?_; refine XS.bipush X46.here hx rfl (D at_91) ?_; refine XS.iushr X46.here hx rfl (D at_93) rfl ?_; refine XS.iconst X46.here hx rfl (D at_94) ?_; refine XS.iand X46.here hx rfl (D at_95) rfl ?_; refine XS.istore X46.here hx rfl (D at_96) rfl (l' := #[(si p0), (si p1), (si p2), (si p3), (si pa), (si pb), (sr ks), (si na), (si nb), (si nd), (si (((55296 : Int32) ||| (p3 &&& (1023 : Int32))).toUInt32.toUInt16.toUInt32.toInt32)), (si (((56320 : Int32) ||| (((p3.toUInt32 >>> ((10 : Int32) &&& 31).toUInt32).toInt32) &&& (1023 : Int32))).toUInt32.toUInt16.toUInt32.toInt32)), (si (((p2.toUInt32 >>> ((16 : Int32) &&& 31).toUInt32).toInt32) &&& (3 : Int32))), .unset, .unset, .unset]) rfl ?_; exact kq)
  obtain ⟨v11, hv11⟩ : ∃ z : Int32, z = (((56320 : Int32) ||| (((p3.toUInt32 >>> ((10 : Int32) &&& 31).toUInt32).toInt32) &&& (1023 : Int32))).toUInt32.toUInt16.toUInt32.toInt32) := ⟨_, rfl⟩
  have go48 : Go p e below E0 T46 m 98 #[(si p0), (si p1), (si p2), (si p3), (si pa), (si pb), (sr ks), (si na), (si nb), (si nd), (si v10), (si v11), (si (((p2.toUInt32 >>> ((16 : Int32) &&& 31).toUInt32).toInt32) &&& (3 : Int32))), .unset, .unset, .unset] [] := fun tgt kq => go47 tgt (by
    rw [hv11] at kq
    exact kq)
  obtain ⟨v12, hv12⟩ : ∃ z : Int32, z = (((p2.toUInt32 >>> ((16 : Int32) &&& 31).toUInt32).toInt32) &&& (3 : Int32)) := ⟨_, rfl⟩
  have go49 : Go p e below E0 T46 m 98 #[(si p0), (si p1), (si p2), (si p3), (si pa), (si pb), (sr ks), (si na), (si nb), (si nd), (si v10), (si v11), (si v12), .unset, .unset, .unset] [] := fun tgt kq => go48 tgt (by
    rw [hv12] at kq
    exact kq)
  have k10 := own_hip p3
  rw [← hv10] at k10
  have k11 := own_lop ((p3.toUInt32 >>> ((10 : Int32) &&& 31).toUInt32).toInt32)
  rw [← hv11] at k11
  have hm := own_m4 ((p2.toUInt32 >>> ((16 : Int32) &&& 31).toUInt32).toInt32)
  rw [← hv12] at hm
  have n_v10 := k10.1.2.2
  have n_v11 := k11.1.2.2
  have n_58 := own_wf58.2.2
  have n_123 := own_wf123.2.2
  have n_125 := own_wf125.2.2
  rcases hm with rfl | rfl | rfl | rfl
  · have f50 : own_O Z n0 T38.heap := (f37.keep Kq2 (allS ge_ks all0))
    have go51 : Go p e below E0 T46 m 107 #[(si p0), (si p1), (si p2), (si p3), (si pa), (si pb), (sr ks), (si na), (si nb), (si nd), (si v10), (si v11), (si 0), .unset, .unset, .unset] [(.int na), (.ref ks)] := fun tgt kq => go49 tgt (by
      refine XS.iload X46.here hx rfl (D at_98) rfl ?_; refine XS.ifNo X46.here hx rfl (D at_100) rfl ((if0 _ _).trans (teq rfl).2) ?_; refine XS.aload X46.here hx rfl (D at_103) rfl rfl ?_; refine XS.iload X46.here hx rfl (D at_105) rfl ?_; exact kq)
    obtain ⟨_, T52, L52, X52, hQ52, go52⟩ := own_cS X46 hx hZ38 hown38 (wd hw 127 rfl) (wd hw 128 rfl) (wd hw 11 rfl) (wd hw 129 rfl) (by decide) (W := 1) (rmVO l Z a0 hw [] na G fv T38.heap n0 z39 W0 f50) (by decide) (by decide) e46 (by decide) (by decide) go51 hml.symm (argsL := [(.int na)]) (rest := [(.ref ks)]) (lenOf pd_57 rfl) rfl rfl rfl (D at_107)
    obtain ⟨nm, tn, kn, rfl, N52q, Kq3, Tq3⟩ := hQ52
    have N52 := Fr.app N46 N52q
    have z53 : n0 ≤ T52.heap.size := Nat.le_trans z39 Kq3.1
    have K54 : Keep h0 T52.heap [] := K40.trans Kq3 all0
    obtain ⟨Exn, Fvn, Fcn, Axn⟩ := Tq3
    have f55 : E0_ Z T52.heap ks := (Ek2.keep Kq3)
    have f56 : F0_ Z T52.heap ks (.ref s0) := (Fp2.keep Kq3 nin0)
    have f57 : E1_ Z T52.heap s0 := ((Ex0.keep Kq2).keep Kq3)
    have f58 : F6_ Z T52.heap s0 (.ref t0) := ((Fv0.keep Kq2 (ninS (Ne.symm ne_ks_s0) nin0)).keep Kq3 nin0)
    have f59 : F5_ Z T52.heap s0 (.int (own_co [pa, pb])) := ((Fc0.keep Kq2 (ninS (Ne.symm ne_ks_s0) nin0)).keep Kq3 nin0)
    have f60 : Yb Z T52.heap t0 k0 (Int32.ofNat (own_k [pa, pb] * [pa, pb].length)) (own_by [pa, pb]) := ((Ax0.keep Kq2 (ninS (Ne.symm ne_ks_t0) nin0)).keep Kq3 nin0)
    have f61 : own_O Z n0 T52.heap := (f50.keep Kq3 all0)
    obtain ⟨cq62, kq62, q62a, q62b, q62c⟩ := isOf hZ38 rfl f55
    obtain ⟨_, _, ⟨T62, L62, k62, n62⟩, -, Xp62, hSp62, hgp62, ⟨Lc62, hQ62, l62, y62, z62⟩, st62⟩ := X52.virtualBackS hx (y := y0_) (z := y0_) hown38 (wm hw hZ38 140 rfl) (wm hw hZ38 141 rfl) (notFace_of_selects (args := #[]) (wm hw hZ38 143 rfl)) (wm hw hZ38 143 rfl) (wm hw hZ38 142 rfl) (by decide) (own_backJ (W := 0) (rmLK l Z a0 hw [] ks s0 t0 k0 pa pb nm tn kn [na] G fv T52.heap T52.heap.size (Nat.le_refl _) rfl f55 f56 f57 f58 f59 f60 Exn Fvn Fcn Axn hpa.1 hpb.1 (own_allcons hna.1 own_allnil) (own_tx0 (by show 1 ≤ 1; decide) (by show 1 ≤ 512; decide) (own_allcons hna.2 own_allnil)) (Or.inl (by show 1 ≤ 8; decide)) hH43 hH45 hCW W0 (f61.up z53)) hZ38 (wd hw 144 rfl) (wd hw 8 rfl) (by decide) (by decide)) q62a q62c (g := (mkF m 110 #[(si p0), (si p1), (si p2), (si p3), (si pa), (si pb), (sr ks), (si na), (si nb), (si nd), (si v10), (si v11), (si 0), .unset, .unset, .unset] [(.ref nm), (.ref ks)])) rfl (by rw [hml]; rfl) (Steps.refl _) (argsL := [(.ref nm)]) (rest := []) (lenOf pd_58 rfl) rfl (by show 2 * 0 + _ ≤ _; exact Nat.le_of_eq rfl) (D at_110) (fun _ hwm => ⟨rfl, rfl, (own_IBwarm J1 hwm), (by decide : 9 + 15 ≤ _), (by decide : 1617 + 12556 ≤ _)⟩)
    dsimp only [Pt.U, Pt.locs, Pt.cells, Pt.slots] at Xp62 hSp62 hgp62 l62 y62 z62 st62 hQ62
    subst l62 y62 z62
    obtain ⟨X62, hS62, hZ62, hown62⟩ := rebS hS38 (Nat.le_trans (Nat.le_refl _) Kq3.1) Xp62 hSp62 hgp62 hZ38 hown38
    obtain ⟨got, rfl, N62q, Kq4, Sq4⟩ := hQ62
    have N62 := Fr.app N52 (own_frm z53 N62q)
    have z63 : n0 ≤ T62.heap.size := Nat.le_trans z53 Kq4.1
    have K64 : Keep h0 T62.heap [] := K54.trans Kq4 all0
    have go62 : Go p e below E0 T62 m 113 #[(si p0), (si p1), (si p2), (si p3), (si pa), (si pb), (sr ks), (si na), (si nb), (si nd), (si v10), (si v11), (si 0), .unset, .unset, .unset] [(.ref got)] := fun tgt kq => go52 tgt (st62.trans kq)
    obtain ⟨tg, kg, Exg, Fvg, Fcg, Axg⟩ := Sq4
    have go65 : Go p e below E0 T62 m 117 #[(si p0), (si p1), (si p2), (si p3), (si pa), (si pb), (sr ks), (si na), (si nb), (si nd), (si v10), (si v11), (si 0), (sr got), .unset, .unset] [(.int 6)] := fun tgt kq => go62 tgt (by
      refine XS.astore X62.here hx rfl (D at_113) rfl rfl (l' := #[(si p0), (si p1), (si p2), (si p3), (si pa), (si pb), (sr ks), (si na), (si nb), (si nd), (si v10), (si v11), (si 0), (sr got), .unset, .unset]) rfl ?_; refine XS.bipush X62.here hx rfl (D at_115) ?_; exact kq)
    obtain ⟨T66, h66, k66, X66, e66, E66, A66, st66⟩ := newP X62 hx hZ62 (wd hw 12 rfl) rfl (g := (mkF m 117 #[(si p0), (si p1), (si p2), (si p3), (si pa), (si pb), (sr ks), (si na), (si nb), (si nd), (si v10), (si v11), (si 0), (sr got), .unset, .unset] [(.int 6)])) rfl (D at_117) rfl (by decide) (cap := 6) (by decide) (by decide) (by decide) (by decide)
    obtain ⟨ea, g66⟩ : ∃ z, z = T62.heap.size := ⟨_, rfl⟩
    rw [← g66] at A66 st66
    have ne_ks_ea : ks ≠ ea := Nat.ne_of_lt (Nat.lt_of_lt_of_le (Nat.lt_of_lt_of_le A6.lt (Nat.le_trans (Nat.le_trans (Nat.le_trans (Nat.le_trans (Nat.le_trans (Nat.le_trans (Nat.le_trans E10.1 E14.1) (Keep.of_wr W18).1) (Keep.of_wr W23).1) Kq1.1) Kq2.1) Kq3.1) Kq4.1)) (Nat.le_of_eq g66.symm))
    have ne_s0_ea : s0 ≠ ea := Nat.ne_of_lt (Nat.lt_of_lt_of_le (Nat.lt_of_lt_of_le Ex0.lt (Nat.le_trans (Nat.le_trans Kq2.1 Kq3.1) Kq4.1)) (Nat.le_of_eq g66.symm))
    have ne_ca_ea : ca ≠ ea := Nat.ne_of_lt (Nat.lt_of_lt_of_le (Nat.lt_of_lt_of_le V14.lt (Nat.le_trans (Nat.le_trans (Nat.le_trans (Nat.le_trans (Nat.le_trans (Keep.of_wr W18).1 (Keep.of_wr W23).1) Kq1.1) Kq2.1) Kq3.1) Kq4.1)) (Nat.le_of_eq g66.symm))
    have ne_t0_ea : t0 ≠ ea := Nat.ne_of_lt (Nat.lt_of_lt_of_le (Nat.lt_of_lt_of_le Ax0.lt (Nat.le_trans (Nat.le_trans Kq2.1 Kq3.1) Kq4.1)) (Nat.le_of_eq g66.symm))
    have ne_nm_ea : nm ≠ ea := Nat.ne_of_lt (Nat.lt_of_lt_of_le (Nat.lt_of_lt_of_le Exn.lt Kq4.1) (Nat.le_of_eq g66.symm))
    have ne_tn_ea : tn ≠ ea := Nat.ne_of_lt (Nat.lt_of_lt_of_le (Nat.lt_of_lt_of_le Axn.lt Kq4.1) (Nat.le_of_eq g66.symm))
    have ne_got_ea : got ≠ ea := Nat.ne_of_lt (Nat.lt_of_lt_of_le Exg.lt (Nat.le_of_eq g66.symm))
    have ne_tg_ea : tg ≠ ea := Nat.ne_of_lt (Nat.lt_of_lt_of_le Axg.lt (Nat.le_of_eq g66.symm))
    have ge_ea : n0 ≤ ea := Nat.le_trans z63 (Nat.le_of_eq g66.symm)
    have hz_ea : h0.size ≤ ea := Nat.le_trans K64.1 (Nat.le_of_eq g66.symm)
    have z67 : n0 ≤ h66.size := Nat.le_trans z63 E66.1
    have K68 : Keep h0 h66 [] := K64.ext E66
    have V66 : Yc Z h66 ea k66 (6 : Int32) [] := Arv.new A66 (by decide)
    have go66 : Go p e below E0 T66 m 119 #[(si p0), (si p1), (si p2), (si p3), (si pa), (si pb), (sr ks), (si na), (si nb), (si nd), (si v10), (si v11), (si 0), (sr got), .unset, .unset] [(.ref ea)] := fun a b => go65 a (st66 a b)
    have go69 : Go p e below E0 T66 m 123 #[(si p0), (si p1), (si p2), (si p3), (si pa), (si pb), (sr ks), (si na), (si nb), (si nd), (si v10), (si v11), (si 0), (sr got), .unset, .unset] [(.int pa), (.int 0), (.ref ea), (.ref ea)] := fun tgt kq => go66 tgt (by
      refine XS.dup X66.here hx rfl (D at_119) rfl rfl ?_; refine XS.iconst X66.here hx rfl (D at_120) ?_; refine XS.iload X66.here hx rfl (D at_121) rfl ?_; exact kq)
    obtain ⟨T70, h70, X70, e70, W70, A70, go70⟩ := own_sC X66 hx hZ62 e66 V66 (j := (0 : Int32)) rfl ⟨by decide, by decide⟩ go69 (D at_123)
    have z71 : n0 ≤ h70.size := Nat.le_trans z67 (Keep.of_wr W70).1
    have K72 : Keep h0 h70 [] := K68.wr W70 (Or.inr hz_ea)
    have N70 := Fr.snoc X70 N62 ge_ea
    have f73 : Yc Z h70 ea k66 (6 : Int32) [(.int (nar .char pa))] := A70
    have go74 : Go p e below E0 T70 m 128 #[(si p0), (si p1), (si p2), (si p3), (si pa), (si pb), (sr ks), (si na), (si nb), (si nd), (si v10), (si v11), (si 0), (sr got), .unset, .unset] [(.int pb), (.int 1), (.ref ea), (.ref ea)] := fun tgt kq => go70 tgt (by
      refine XS.dup X70.here hx rfl (D at_124) rfl rfl ?_; refine XS.iconst X70.here hx rfl (D at_125) ?_; refine XS.iload X70.here hx rfl (D at_126) rfl ?_; exact kq)
    obtain ⟨T75, h75, X75, e75, W75, A75, go75⟩ := own_sC X70 hx hZ62 e70 f73 (j := (1 : Int32)) rfl ⟨by decide, by decide⟩ go74 (D at_128)
    have z76 : n0 ≤ h75.size := Nat.le_trans z71 (Keep.of_wr W75).1
    have K77 : Keep h0 h75 [] := K72.wr W75 (Or.inr hz_ea)
    have N75 := Fr.snoc X75 N70 ge_ea
    have f78 : Yc Z h75 ea k66 (6 : Int32) [(.int (nar .char pa)), (.int (nar .char pb))] := A75
    have go79 : Go p e below E0 T75 m 133 #[(si p0), (si p1), (si p2), (si p3), (si pa), (si pb), (sr ks), (si na), (si nb), (si nd), (si v10), (si v11), (si 0), (sr got), .unset, .unset] [(.int 58), (.int 2), (.ref ea), (.ref ea)] := fun tgt kq => go75 tgt (by
      refine XS.dup X75.here hx rfl (D at_129) rfl rfl ?_; refine XS.iconst X75.here hx rfl (D at_130) ?_; refine XS.bipush X75.here hx rfl (D at_131) ?_; exact kq)
    obtain ⟨T80, h80, X80, e80, W80, A80, go80⟩ := own_sC X75 hx hZ62 e75 f78 (j := (2 : Int32)) rfl ⟨by decide, by decide⟩ go79 (D at_133)
    have z81 : n0 ≤ h80.size := Nat.le_trans z76 (Keep.of_wr W80).1
    have K82 : Keep h0 h80 [] := K77.wr W80 (Or.inr hz_ea)
    have N80 := Fr.snoc X80 N75 ge_ea
    have f83 : Yc Z h80 ea k66 (6 : Int32) [(.int (nar .char pa)), (.int (nar .char pb)), (.int (nar .char (58 : Int32)))] := A80
    have go84 : Go p e below E0 T80 m 138 #[(si p0), (si p1), (si p2), (si p3), (si pa), (si pb), (sr ks), (si na), (si nb), (si nd), (si v10), (si v11), (si 0), (sr got), .unset, .unset] [(.int 123), (.int 3), (.ref ea), (.ref ea)] := fun tgt kq => go80 tgt (by
      refine XS.dup X80.here hx rfl (D at_134) rfl rfl ?_; refine XS.iconst X80.here hx rfl (D at_135) ?_; refine XS.bipush X80.here hx rfl (D at_136) ?_; exact kq)
    obtain ⟨T85, h85, X85, e85, W85, A85, go85⟩ := own_sC X80 hx hZ62 e80 f83 (j := (3 : Int32)) rfl ⟨by decide, by decide⟩ go84 (D at_138)
    have z86 : n0 ≤ h85.size := Nat.le_trans z81 (Keep.of_wr W85).1
    have K87 : Keep h0 h85 [] := K82.wr W85 (Or.inr hz_ea)
    have N85 := Fr.snoc X85 N80 ge_ea
    have f88 : Yc Z h85 ea k66 (6 : Int32) [(.int (nar .char pa)), (.int (nar .char pb)), (.int (nar .char (58 : Int32))), (.int (nar .char (123 : Int32)))] := A85
    have go89 : Go p e below E0 T85 m 143 #[(si p0), (si p1), (si p2), (si p3), (si pa), (si pb), (sr ks), (si na), (si nb), (si nd), (si v10), (si v11), (si 0), (sr got), .unset, .unset] [(.int na), (.int 4), (.ref ea), (.ref ea)] := fun tgt kq => go85 tgt (by
      refine XS.dup X85.here hx rfl (D at_139) rfl rfl ?_; refine XS.iconst X85.here hx rfl (D at_140) ?_; refine XS.iload X85.here hx rfl (D at_141) rfl ?_; exact kq)
    obtain ⟨T90, h90, X90, e90, W90, A90, go90⟩ := own_sC X85 hx hZ62 e85 f88 (j := (4 : Int32)) rfl ⟨by decide, by decide⟩ go89 (D at_143)
    have z91 : n0 ≤ h90.size := Nat.le_trans z86 (Keep.of_wr W90).1
    have K92 : Keep h0 h90 [] := K87.wr W90 (Or.inr hz_ea)
    have N90 := Fr.snoc X90 N85 ge_ea
    have f93 : Yc Z h90 ea k66 (6 : Int32) [(.int (nar .char pa)), (.int (nar .char pb)), (.int (nar .char (58 : Int32))), (.int (nar .char (123 : Int32))), (.int (nar .char na))] := A90
    have go94 : Go p e below E0 T90 m 148 #[(si p0), (si p1), (si p2), (si p3), (si pa), (si pb), (sr ks), (si na), (si nb), (si nd), (si v10), (si v11), (si 0), (sr got), .unset, .unset] [(.int 125), (.int 5), (.ref ea), (.ref ea)] := fun tgt kq => go90 tgt (by
      refine XS.dup X90.here hx rfl (D at_144) rfl rfl ?_; refine XS.iconst X90.here hx rfl (D at_145) ?_; refine XS.bipush X90.here hx rfl (D at_146) ?_; exact kq)
    obtain ⟨T95, h95, X95, e95, W95, A95, go95⟩ := own_sC X90 hx hZ62 e90 f93 (j := (5 : Int32)) rfl ⟨by decide, by decide⟩ go94 (D at_148)
    have z96 : n0 ≤ h95.size := Nat.le_trans z91 (Keep.of_wr W95).1
    have K97 : Keep h0 h95 [] := K92.wr W95 (Or.inr hz_ea)
    have N95 := Fr.snoc X95 N90 ge_ea
    have f98 : Yc Z h95 ea k66 (6 : Int32) [(.int (nar .char pa)), (.int (nar .char pb)), (.int (nar .char (58 : Int32))), (.int (nar .char (123 : Int32))), (.int (nar .char na)), (.int (nar .char (125 : Int32)))] := A95
    have go99 : Go p e below E0 T95 m 441 #[(si p0), (si p1), (si p2), (si p3), (si pa), (si pb), (sr ks), (si na), (si nb), (si nd), (si v10), (si v11), (si 0), (sr got), (sr ea), .unset] [(.ref got)] := fun tgt kq => go95 tgt (by
      refine XS.astore X95.here hx rfl (D at_149) rfl rfl (l' := #[(si p0), (si p1), (si p2), (si p3), (si pa), (si pb), (sr ks), (si na), (si nb), (si nd), (si v10), (si v11), (si 0), (sr got), (sr ea), .unset]) rfl ?_; refine XS.goto X95.here hx rfl (pc0 := 151) (pc' := 434) rfl (D at_151) (by decide) (by decide) ?_; refine XS.aload X95.here hx rfl (D at_434) rfl rfl ?_; refine XS.ifnullNo X95.here hx rfl (D at_436) rfl ?_; refine XS.aload X95.here hx rfl (D at_439) rfl rfl ?_; exact kq)
    obtain ⟨T100, h100, X100, e100, E100, A100, D100, -, st100⟩ := newO X95 hx hZ62 hown62 (wd hw 9 rfl) (wd hw 10 rfl) (wd hw 11 rfl) e95 (g := (mkF m 441 #[(si p0), (si p1), (si p2), (si p3), (si pa), (si pb), (sr ks), (si na), (si nb), (si nd), (si v10), (si v11), (si 0), (sr got), (sr ea), .unset] [(.ref got)])) rfl (D at_441) (by decide) (by decide)
    obtain ⟨s2, g100⟩ : ∃ z, z = h95.size := ⟨_, rfl⟩
    rw [← g100] at A100 D100 st100
    have ne_ks_s2 : ks ≠ s2 := Nat.ne_of_lt (Nat.lt_of_lt_of_le (Nat.lt_of_lt_of_le A6.lt (Nat.le_trans (Nat.le_trans (Nat.le_trans (Nat.le_trans (Nat.le_trans (Nat.le_trans (Nat.le_trans (Nat.le_trans (Nat.le_trans (Nat.le_trans (Nat.le_trans (Nat.le_trans (Nat.le_trans (Nat.le_trans E10.1 E14.1) (Keep.of_wr W18).1) (Keep.of_wr W23).1) Kq1.1) Kq2.1) Kq3.1) Kq4.1) E66.1) (Keep.of_wr W70).1) (Keep.of_wr W75).1) (Keep.of_wr W80).1) (Keep.of_wr W85).1) (Keep.of_wr W90).1) (Keep.of_wr W95).1)) (Nat.le_of_eq g100.symm))
    have ne_s0_s2 : s0 ≠ s2 := Nat.ne_of_lt (Nat.lt_of_lt_of_le (Nat.lt_of_lt_of_le Ex0.lt (Nat.le_trans (Nat.le_trans (Nat.le_trans (Nat.le_trans (Nat.le_trans (Nat.le_trans (Nat.le_trans (Nat.le_trans (Nat.le_trans Kq2.1 Kq3.1) Kq4.1) E66.1) (Keep.of_wr W70).1) (Keep.of_wr W75).1) (Keep.of_wr W80).1) (Keep.of_wr W85).1) (Keep.of_wr W90).1) (Keep.of_wr W95).1)) (Nat.le_of_eq g100.symm))
    have ne_ca_s2 : ca ≠ s2 := Nat.ne_of_lt (Nat.lt_of_lt_of_le (Nat.lt_of_lt_of_le V14.lt (Nat.le_trans (Nat.le_trans (Nat.le_trans (Nat.le_trans (Nat.le_trans (Nat.le_trans (Nat.le_trans (Nat.le_trans (Nat.le_trans (Nat.le_trans (Nat.le_trans (Nat.le_trans (Keep.of_wr W18).1 (Keep.of_wr W23).1) Kq1.1) Kq2.1) Kq3.1) Kq4.1) E66.1) (Keep.of_wr W70).1) (Keep.of_wr W75).1) (Keep.of_wr W80).1) (Keep.of_wr W85).1) (Keep.of_wr W90).1) (Keep.of_wr W95).1)) (Nat.le_of_eq g100.symm))
    have ne_t0_s2 : t0 ≠ s2 := Nat.ne_of_lt (Nat.lt_of_lt_of_le (Nat.lt_of_lt_of_le Ax0.lt (Nat.le_trans (Nat.le_trans (Nat.le_trans (Nat.le_trans (Nat.le_trans (Nat.le_trans (Nat.le_trans (Nat.le_trans (Nat.le_trans Kq2.1 Kq3.1) Kq4.1) E66.1) (Keep.of_wr W70).1) (Keep.of_wr W75).1) (Keep.of_wr W80).1) (Keep.of_wr W85).1) (Keep.of_wr W90).1) (Keep.of_wr W95).1)) (Nat.le_of_eq g100.symm))
    have ne_nm_s2 : nm ≠ s2 := Nat.ne_of_lt (Nat.lt_of_lt_of_le (Nat.lt_of_lt_of_le Exn.lt (Nat.le_trans (Nat.le_trans (Nat.le_trans (Nat.le_trans (Nat.le_trans (Nat.le_trans (Nat.le_trans Kq4.1 E66.1) (Keep.of_wr W70).1) (Keep.of_wr W75).1) (Keep.of_wr W80).1) (Keep.of_wr W85).1) (Keep.of_wr W90).1) (Keep.of_wr W95).1)) (Nat.le_of_eq g100.symm))
    have ne_tn_s2 : tn ≠ s2 := Nat.ne_of_lt (Nat.lt_of_lt_of_le (Nat.lt_of_lt_of_le Axn.lt (Nat.le_trans (Nat.le_trans (Nat.le_trans (Nat.le_trans (Nat.le_trans (Nat.le_trans (Nat.le_trans Kq4.1 E66.1) (Keep.of_wr W70).1) (Keep.of_wr W75).1) (Keep.of_wr W80).1) (Keep.of_wr W85).1) (Keep.of_wr W90).1) (Keep.of_wr W95).1)) (Nat.le_of_eq g100.symm))
    have ne_got_s2 : got ≠ s2 := Nat.ne_of_lt (Nat.lt_of_lt_of_le (Nat.lt_of_lt_of_le Exg.lt (Nat.le_trans (Nat.le_trans (Nat.le_trans (Nat.le_trans (Nat.le_trans (Nat.le_trans E66.1 (Keep.of_wr W70).1) (Keep.of_wr W75).1) (Keep.of_wr W80).1) (Keep.of_wr W85).1) (Keep.of_wr W90).1) (Keep.of_wr W95).1)) (Nat.le_of_eq g100.symm))
    have ne_tg_s2 : tg ≠ s2 := Nat.ne_of_lt (Nat.lt_of_lt_of_le (Nat.lt_of_lt_of_le Axg.lt (Nat.le_trans (Nat.le_trans (Nat.le_trans (Nat.le_trans (Nat.le_trans (Nat.le_trans E66.1 (Keep.of_wr W70).1) (Keep.of_wr W75).1) (Keep.of_wr W80).1) (Keep.of_wr W85).1) (Keep.of_wr W90).1) (Keep.of_wr W95).1)) (Nat.le_of_eq g100.symm))
    have ne_ea_s2 : ea ≠ s2 := Nat.ne_of_lt (Nat.lt_of_lt_of_le (Nat.lt_of_lt_of_le V66.lt (Nat.le_trans (Nat.le_trans (Nat.le_trans (Nat.le_trans (Nat.le_trans (Keep.of_wr W70).1 (Keep.of_wr W75).1) (Keep.of_wr W80).1) (Keep.of_wr W85).1) (Keep.of_wr W90).1) (Keep.of_wr W95).1)) (Nat.le_of_eq g100.symm))
    have ge_s2 : n0 ≤ s2 := Nat.le_trans z96 (Nat.le_of_eq g100.symm)
    have hz_s2 : h0.size ≤ s2 := Nat.le_trans K97.1 (Nat.le_of_eq g100.symm)
    have z101 : n0 ≤ h100.size := Nat.le_trans z96 E100.1
    have K102 : Keep h0 h100 [] := K97.ext E100
    have Fcoder_s2 : F5_ Z h100 s2 (.int (0 : Int32)) := D100 (Or.inr (wd hw 36 rfl)) (ty := .byte) (by decide)
    have Fvalue_s2 : F6_ Z h100 s2 .null := D100 (Or.inr (wd hw 38 rfl)) (ty := (.array .byte)) (by decide)
    have go100 : Go p e below E0 T100 m 444 #[(si p0), (si p1), (si p2), (si p3), (si pa), (si pb), (sr ks), (si na), (si nb), (si nd), (si v10), (si v11), (si 0), (sr got), (sr ea), .unset] [(.ref s2), (.ref got)] := fun a b => go99 a (st100 a b)
    have f103 : Yc Z h100 ea k66 (6 : Int32) [(.int (nar .char pa)), (.int (nar .char pb)), (.int (nar .char (58 : Int32))), (.int (nar .char (123 : Int32))), (.int (nar .char na)), (.int (nar .char (125 : Int32)))] := (f98.ext E100)
    have Ac104 : Yc Z h100 ea k66 (Int32.ofNat ([pa, pb] ++ ([58, 123] : List Int32) ++ [na] ++ ([125] : List Int32)).length) (([pa, pb] ++ ([58, 123] : List Int32) ++ [na] ++ ([125] : List Int32)).map Value.int) := by have q := f103; rw [n_pa, n_pb, n_58, n_123, n_na, n_125] at q; exact q
    have f105 : own_O Z n0 h100 := (((((((((f61.keep Kq4 all0).ext E66).wr W70 ge_ea).wr W75 ge_ea).wr W80 ge_ea).wr W85 ge_ea).wr W90 ge_ea).wr W95 ge_ea).ext E100)
    have go106 : Go p e below E0 T100 m 447 #[(si p0), (si p1), (si p2), (si p3), (si pa), (si pb), (sr ks), (si na), (si nb), (si nd), (si v10), (si v11), (si 0), (sr got), (sr ea), .unset] [(.ref ea), (.ref s2), (.ref s2), (.ref got)] := fun tgt kq => go100 tgt (by
      refine XS.dup X100.here hx rfl (D at_444) rfl rfl ?_; refine XS.aload X100.here hx rfl (D at_445) rfl rfl ?_; exact kq)
    obtain ⟨_, T107, L107, X107, hQ107, go107⟩ := own_cI X100 hx hZ62 hown62 (wd hw 13 rfl) (wd hw 14 rfl) (wd hw 11 rfl) (wd hw 15 rfl) rfl (by decide) (W := 2) (rmN520 l Z a0 hw [] s2 ea k66 ([pa, pb] ++ ([58, 123] : List Int32) ++ [na] ++ ([125] : List Int32)) G fv h100 n0 z101 A100 ge_s2 Fvalue_s2 Fcoder_s2 Ac104 (by show 6 ≤ 520; decide) (by show 1 ≤ 6; decide) (own_allapp (own_allapp (own_allapp (own_pair hpa.1 hpb.1) (own_pair own_wf58 own_wf123)) (own_allcons hna.1 own_allnil)) (own_allcons own_wf125 own_allnil)) W0 f105) (by decide) (by decide) e100 (by decide) (by decide) go106 hml.symm (argsL := [(.ref ea)]) (rest := [(.ref s2), (.ref got)]) (lenOf pd_56 rfl) rfl rfl rfl (D at_447)
    obtain ⟨rfl, N107q, Kq5, Sq5⟩ := hQ107
    have N107 := Fr.app N95 N107q
    have z108 : n0 ≤ T107.heap.size := Nat.le_trans z101 Kq5.1
    have K109 : Keep h0 T107.heap [] := K102.trans Kq5 (allS (Or.inr hz_s2) all0)
    obtain ⟨t5, kq5, Ex5, Fv5, Fc5, Ax5⟩ := Sq5
    have f110 : E1_ Z T107.heap got := (((((((((Exg.ext E66).wr W70).wr W75).wr W80).wr W85).wr W90).wr W95).ext E100).keep Kq5)
    have f111 : F6_ Z T107.heap got (.ref tg) := (((((((((Fvg.ext E66).other W70 (Or.inl ne_got_ea)).other W75 (Or.inl ne_got_ea)).other W80 (Or.inl ne_got_ea)).other W85 (Or.inl ne_got_ea)).other W90 (Or.inl ne_got_ea)).other W95 (Or.inl ne_got_ea)).ext E100).keep Kq5 (ninS ne_got_s2 nin0))
    have f112 : F5_ Z T107.heap got (.int (own_co ([pa, pb] ++ ([58, 123] : List Int32) ++ [na] ++ ([125] : List Int32)))) := (((((((((Fcg.ext E66).other W70 (Or.inl ne_got_ea)).other W75 (Or.inl ne_got_ea)).other W80 (Or.inl ne_got_ea)).other W85 (Or.inl ne_got_ea)).other W90 (Or.inl ne_got_ea)).other W95 (Or.inl ne_got_ea)).ext E100).keep Kq5 (ninS ne_got_s2 nin0))
    have f113 : Yb Z T107.heap tg kg (Int32.ofNat (own_k ([pa, pb] ++ ([58, 123] : List Int32) ++ [na] ++ ([125] : List Int32)) * ([pa, pb] ++ ([58, 123] : List Int32) ++ [na] ++ ([125] : List Int32)).length)) (own_by ([pa, pb] ++ ([58, 123] : List Int32) ++ [na] ++ ([125] : List Int32))) := (((((((((Axg.ext E66).other W70 ne_tg_ea).other W75 ne_tg_ea).other W80 ne_tg_ea).other W85 ne_tg_ea).other W90 ne_tg_ea).other W95 ne_tg_ea).ext E100).keep Kq5 (ninS ne_tg_s2 nin0))
    have f114 : own_O Z n0 T107.heap := (f105.keep Kq5 (allS ge_s2 all0))
    obtain ⟨_, T115, L115, X115, hQ115, go115⟩ := own_cV X107 hx hZ62 hown62 (wd hw 256 rfl) (wd hw 257 rfl) (wd hw 259 rfl) (wd hw 258 rfl) (wd hw 11 rfl) (wd hw 260 rfl) (by decide) (W := 0) (rmEQ l Z a0 hw [] got tg kg s2 t5 kq5 ([pa, pb] ++ ([58, 123] : List Int32) ++ [na] ++ ([125] : List Int32)) G fv T107.heap n0 z108 f110 f111 f112 f113 Ex5 Fv5 Fc5 Ax5 ne_got_s2 (by show 6 ≤ 520; decide) W0 f114) (by decide) (by decide) rfl (by decide) (by decide) f110 go107 hml.symm (argsL := [(.ref s2)]) (rest := []) (lenOf pd_59 rfl) rfl rfl rfl (D at_450)
    obtain ⟨rfl, N115q, Kq6⟩ := hQ115
    have N115 := Fr.app N107 N115q
    have z116 : n0 ≤ T115.heap.size := Nat.le_trans z108 Kq6.1
    have K117 : Keep h0 T115.heap [] := K109.trans Kq6 all0
    have go118 : Go p e below E0 T115 m 461 #[(si p0), (si p1), (si p2), (si p3), (si pa), (si pb), (sr ks), (si na), (si nb), (si nd), (si v10), (si v11), (si 0), (sr got), (sr ea), .unset] [(.int 1)] := fun tgt kq => go115 tgt (by
      refine XS.ifNo X115.here hx rfl (D at_453) rfl ((if0 _ _).trans (feq (by decide)).1) ?_; refine XS.iconst X115.here hx rfl (D at_456) ?_; refine XS.goto X115.here hx rfl (pc0 := 457) (pc' := 461) rfl (D at_457) (by decide) (by decide) ?_; exact kq)
    obtain ⟨fs, hr, hrun, hended, hW⟩ := X115.leaveW hS62 (Nat.le_trans (Nat.le_refl _) (Nat.le_trans (Nat.le_trans (Nat.le_trans (Nat.le_trans (Nat.le_trans (Nat.le_trans (Nat.le_trans (Nat.le_trans (Nat.le_trans E66.1 (Keep.of_wr W70).1) (Keep.of_wr W75).1) (Keep.of_wr W80).1) (Keep.of_wr W85).1) (Keep.of_wr W90).1) (Keep.of_wr W95).1) E100.1) Kq5.1) Kq6.1)) (v := some (.int (1 : Int32))) (fun h => by rw [Bd.returns] at h; cases h)
    refine ⟨_, _, go118 _ ?_, hrun, hended, _, _, rfl, ?_, hW.1, hW.2.1, hW.2.2.1, hW.2.2.2.mono (by decide) (by decide)⟩
    · exact retN X115 hx (t := .boolean) Bd.returns (by simp) (D at_461) hr
    · show QL Z p0 p1 p2 p3 G fv h0 n0 _ T115.heap _ T115.vm
      exact ⟨rfl, N115⟩
  · have go119 : Go p e below E0 T46 m 162 #[(si p0), (si p1), (si p2), (si p3), (si pa), (si pb), (sr ks), (si na), (si nb), (si nd), (si v10), (si v11), (si 1), .unset, .unset, .unset] [(.ref ks)] := fun tgt kq => go49 tgt (by
      refine XS.iload X46.here hx rfl (D at_98) rfl ?_; refine XS.ifYes X46.here hx rfl (pc0 := 100) (pc' := 154) rfl (D at_100) rfl ((if0 _ _).trans (feq (by decide)).2) (by decide) (by decide) ?_; refine XS.iload X46.here hx rfl (D at_154) rfl ?_; refine XS.iconst X46.here hx rfl (D at_156) ?_; refine XS.icmpNo X46.here hx rfl (D at_157) rfl (teq rfl).2 ?_; refine XS.aload X46.here hx rfl (D at_160) rfl rfl ?_; exact kq)
    obtain ⟨T120, h120, X120, e120, E120, A120, D120, -, st120⟩ := newO X46 hx hZ38 hown38 (wd hw 9 rfl) (wd hw 10 rfl) (wd hw 11 rfl) e46 (g := (mkF m 162 #[(si p0), (si p1), (si p2), (si p3), (si pa), (si pb), (sr ks), (si na), (si nb), (si nd), (si v10), (si v11), (si 1), .unset, .unset, .unset] [(.ref ks)])) rfl (D at_162) (by decide) (by decide)
    obtain ⟨nm, g120⟩ : ∃ z, z = T38.heap.size := ⟨_, rfl⟩
    rw [← g120] at A120 D120 st120
    have ne_ks_nm : ks ≠ nm := Nat.ne_of_lt (Nat.lt_of_lt_of_le (Nat.lt_of_lt_of_le A6.lt (Nat.le_trans (Nat.le_trans (Nat.le_trans (Nat.le_trans (Nat.le_trans E10.1 E14.1) (Keep.of_wr W18).1) (Keep.of_wr W23).1) Kq1.1) Kq2.1)) (Nat.le_of_eq g120.symm))
    have ne_s0_nm : s0 ≠ nm := Nat.ne_of_lt (Nat.lt_of_lt_of_le (Nat.lt_of_lt_of_le Ex0.lt Kq2.1) (Nat.le_of_eq g120.symm))
    have ne_ca_nm : ca ≠ nm := Nat.ne_of_lt (Nat.lt_of_lt_of_le (Nat.lt_of_lt_of_le V14.lt (Nat.le_trans (Nat.le_trans (Nat.le_trans (Keep.of_wr W18).1 (Keep.of_wr W23).1) Kq1.1) Kq2.1)) (Nat.le_of_eq g120.symm))
    have ne_t0_nm : t0 ≠ nm := Nat.ne_of_lt (Nat.lt_of_lt_of_le (Nat.lt_of_lt_of_le Ax0.lt Kq2.1) (Nat.le_of_eq g120.symm))
    have ge_nm : n0 ≤ nm := Nat.le_trans z39 (Nat.le_of_eq g120.symm)
    have hz_nm : h0.size ≤ nm := Nat.le_trans K40.1 (Nat.le_of_eq g120.symm)
    have z121 : n0 ≤ h120.size := Nat.le_trans z39 E120.1
    have K122 : Keep h0 h120 [] := K40.ext E120
    have Fcoder_nm : F5_ Z h120 nm (.int (0 : Int32)) := D120 (Or.inr (wd hw 36 rfl)) (ty := .byte) (by decide)
    have Fvalue_nm : F6_ Z h120 nm .null := D120 (Or.inr (wd hw 38 rfl)) (ty := (.array .byte)) (by decide)
    have go120 : Go p e below E0 T120 m 165 #[(si p0), (si p1), (si p2), (si p3), (si pa), (si pb), (sr ks), (si na), (si nb), (si nd), (si v10), (si v11), (si 1), .unset, .unset, .unset] [(.ref nm), (.ref ks)] := fun a b => go119 a (st120 a b)
    have go123 : Go p e below E0 T120 m 167 #[(si p0), (si p1), (si p2), (si p3), (si pa), (si pb), (sr ks), (si na), (si nb), (si nd), (si v10), (si v11), (si 1), .unset, .unset, .unset] [(.int 3), (.ref nm), (.ref nm), (.ref ks)] := fun tgt kq => go120 tgt (by
      refine XS.dup X120.here hx rfl (D at_165) rfl rfl ?_; refine XS.iconst X120.here hx rfl (D at_166) ?_; exact kq)
    obtain ⟨T124, h124, k124, X124, e124, E124, A124, st124⟩ := newP X120 hx hZ38 (wd hw 12 rfl) e120 (g := (mkF m 167 #[(si p0), (si p1), (si p2), (si p3), (si pa), (si pb), (sr ks), (si na), (si nb), (si nd), (si v10), (si v11), (si 1), .unset, .unset, .unset] [(.int 3), (.ref nm), (.ref nm), (.ref ks)])) rfl (D at_167) rfl (by decide) (cap := 3) (by decide) (by decide) (by decide) (by decide)
    obtain ⟨cn, g124⟩ : ∃ z, z = h120.size := ⟨_, rfl⟩
    rw [← g124] at A124 st124
    have ne_ks_cn : ks ≠ cn := Nat.ne_of_lt (Nat.lt_of_lt_of_le (Nat.lt_of_lt_of_le A6.lt (Nat.le_trans (Nat.le_trans (Nat.le_trans (Nat.le_trans (Nat.le_trans (Nat.le_trans E10.1 E14.1) (Keep.of_wr W18).1) (Keep.of_wr W23).1) Kq1.1) Kq2.1) E120.1)) (Nat.le_of_eq g124.symm))
    have ne_s0_cn : s0 ≠ cn := Nat.ne_of_lt (Nat.lt_of_lt_of_le (Nat.lt_of_lt_of_le Ex0.lt (Nat.le_trans Kq2.1 E120.1)) (Nat.le_of_eq g124.symm))
    have ne_ca_cn : ca ≠ cn := Nat.ne_of_lt (Nat.lt_of_lt_of_le (Nat.lt_of_lt_of_le V14.lt (Nat.le_trans (Nat.le_trans (Nat.le_trans (Nat.le_trans (Keep.of_wr W18).1 (Keep.of_wr W23).1) Kq1.1) Kq2.1) E120.1)) (Nat.le_of_eq g124.symm))
    have ne_t0_cn : t0 ≠ cn := Nat.ne_of_lt (Nat.lt_of_lt_of_le (Nat.lt_of_lt_of_le Ax0.lt (Nat.le_trans Kq2.1 E120.1)) (Nat.le_of_eq g124.symm))
    have ne_nm_cn : nm ≠ cn := Nat.ne_of_lt (Nat.lt_of_lt_of_le A120.lt (Nat.le_of_eq g124.symm))
    have ge_cn : n0 ≤ cn := Nat.le_trans z121 (Nat.le_of_eq g124.symm)
    have hz_cn : h0.size ≤ cn := Nat.le_trans K122.1 (Nat.le_of_eq g124.symm)
    have z125 : n0 ≤ h124.size := Nat.le_trans z121 E124.1
    have K126 : Keep h0 h124 [] := K122.ext E124
    have V124 : Yc Z h124 cn k124 (3 : Int32) [] := Arv.new A124 (by decide)
    have go124 : Go p e below E0 T124 m 169 #[(si p0), (si p1), (si p2), (si p3), (si pa), (si pb), (sr ks), (si na), (si nb), (si nd), (si v10), (si v11), (si 1), .unset, .unset, .unset] [(.ref cn), (.ref nm), (.ref nm), (.ref ks)] := fun a b => go123 a (st124 a b)
    have go127 : Go p e below E0 T124 m 173 #[(si p0), (si p1), (si p2), (si p3), (si pa), (si pb), (sr ks), (si na), (si nb), (si nd), (si v10), (si v11), (si 1), .unset, .unset, .unset] [(.int na), (.int 0), (.ref cn), (.ref cn), (.ref nm), (.ref nm), (.ref ks)] := fun tgt kq => go124 tgt (by
      refine XS.dup X124.here hx rfl (D at_169) rfl rfl ?_; refine XS.iconst X124.here hx rfl (D at_170) ?_; refine XS.iload X124.here hx rfl (D at_171) rfl ?_; exact kq)
    obtain ⟨T128, h128, X128, e128, W128, A128, go128⟩ := own_sC X124 hx hZ38 e124 V124 (j := (0 : Int32)) rfl ⟨by decide, by decide⟩ go127 (D at_173)
    have z129 : n0 ≤ h128.size := Nat.le_trans z125 (Keep.of_wr W128).1
    have K130 : Keep h0 h128 [] := K126.wr W128 (Or.inr hz_cn)
    have N128 := Fr.snoc X128 N46 ge_cn
    have f131 : Yc Z h128 cn k124 (3 : Int32) [(.int (nar .char na))] := A128
    have go132 : Go p e below E0 T128 m 178 #[(si p0), (si p1), (si p2), (si p3), (si pa), (si pb), (sr ks), (si na), (si nb), (si nd), (si v10), (si v11), (si 1), .unset, .unset, .unset] [(.int nb), (.int 1), (.ref cn), (.ref cn), (.ref nm), (.ref nm), (.ref ks)] := fun tgt kq => go128 tgt (by
      refine XS.dup X128.here hx rfl (D at_174) rfl rfl ?_; refine XS.iconst X128.here hx rfl (D at_175) ?_; refine XS.iload X128.here hx rfl (D at_176) rfl ?_; exact kq)
    obtain ⟨T133, h133, X133, e133, W133, A133, go133⟩ := own_sC X128 hx hZ38 e128 f131 (j := (1 : Int32)) rfl ⟨by decide, by decide⟩ go132 (D at_178)
    have z134 : n0 ≤ h133.size := Nat.le_trans z129 (Keep.of_wr W133).1
    have K135 : Keep h0 h133 [] := K130.wr W133 (Or.inr hz_cn)
    have N133 := Fr.snoc X133 N128 ge_cn
    have f136 : Yc Z h133 cn k124 (3 : Int32) [(.int (nar .char na)), (.int (nar .char nb))] := A133
    have go137 : Go p e below E0 T133 m 183 #[(si p0), (si p1), (si p2), (si p3), (si pa), (si pb), (sr ks), (si na), (si nb), (si nd), (si v10), (si v11), (si 1), .unset, .unset, .unset] [(.int nd), (.int 2), (.ref cn), (.ref cn), (.ref nm), (.ref nm), (.ref ks)] := fun tgt kq => go133 tgt (by
      refine XS.dup X133.here hx rfl (D at_179) rfl rfl ?_; refine XS.iconst X133.here hx rfl (D at_180) ?_; refine XS.iload X133.here hx rfl (D at_181) rfl ?_; exact kq)
    obtain ⟨T138, h138, X138, e138, W138, A138, go138⟩ := own_sC X133 hx hZ38 e133 f136 (j := (2 : Int32)) rfl ⟨by decide, by decide⟩ go137 (D at_183)
    have z139 : n0 ≤ h138.size := Nat.le_trans z134 (Keep.of_wr W138).1
    have K140 : Keep h0 h138 [] := K135.wr W138 (Or.inr hz_cn)
    have N138 := Fr.snoc X138 N133 ge_cn
    have f141 : Yc Z h138 cn k124 (3 : Int32) [(.int (nar .char na)), (.int (nar .char nb)), (.int (nar .char nd))] := A138
    have Ac142 : Yc Z h138 cn k124 (Int32.ofNat [na, nb, nd].length) ([na, nb, nd].map Value.int) := by have q := f141; rw [n_na, n_nb, n_nd] at q; exact q
    have f143 : E1_ Z h138 nm := ((((A120.ext E124).wr W128).wr W133).wr W138)
    have f144 : F6_ Z h138 nm .null := ((((Fvalue_nm.ext E124).other W128 (Or.inl ne_nm_cn)).other W133 (Or.inl ne_nm_cn)).other W138 (Or.inl ne_nm_cn))
    have f145 : F5_ Z h138 nm (.int (0 : Int32)) := ((((Fcoder_nm.ext E124).other W128 (Or.inl ne_nm_cn)).other W133 (Or.inl ne_nm_cn)).other W138 (Or.inl ne_nm_cn))
    have f146 : own_O Z n0 h138 := ((((((f37.keep Kq2 (allS ge_ks all0)).ext E120).ext E124).wr W128 ge_cn).wr W133 ge_cn).wr W138 ge_cn)
    obtain ⟨_, T147, L147, X147, hQ147, go147⟩ := own_cI X138 hx hZ38 hown38 (wd hw 13 rfl) (wd hw 14 rfl) (wd hw 11 rfl) (wd hw 15 rfl) rfl (by decide) (W := 2) (rmN520 l Z a0 hw [] nm cn k124 [na, nb, nd] G fv h138 n0 z139 f143 ge_nm f144 f145 Ac142 (by show 3 ≤ 520; decide) (by show 1 ≤ 3; decide) (own_three hna.1 hnb.1 hnd.1) W0 f146) (by decide) (by decide) e138 (by decide) (by decide) go138 hml.symm (argsL := [(.ref cn)]) (rest := [(.ref nm), (.ref ks)]) (lenOf pd_56 rfl) rfl rfl rfl (D at_184)
    obtain ⟨rfl, N147q, Kq3, Sq3⟩ := hQ147
    have N147 := Fr.app N138 N147q
    have z148 : n0 ≤ T147.heap.size := Nat.le_trans z139 Kq3.1
    have K149 : Keep h0 T147.heap [] := K140.trans Kq3 (allS (Or.inr hz_nm) all0)
    obtain ⟨tn, kn, Exn, Fvn, Fcn, Axn⟩ := Sq3
    have f150 : E0_ Z T147.heap ks := ((((((Ek2.ext E120).ext E124).wr W128).wr W133).wr W138).keep Kq3)
    have f151 : F0_ Z T147.heap ks (.ref s0) := ((((((Fp2.ext E120).ext E124).other W128 (Or.inl ne_ks_cn)).other W133 (Or.inl ne_ks_cn)).other W138 (Or.inl ne_ks_cn)).keep Kq3 (ninS ne_ks_nm nin0))
    have f152 : E1_ Z T147.heap s0 := (((((((Ex0.keep Kq2).ext E120).ext E124).wr W128).wr W133).wr W138).keep Kq3)
    have f153 : F6_ Z T147.heap s0 (.ref t0) := (((((((Fv0.keep Kq2 (ninS (Ne.symm ne_ks_s0) nin0)).ext E120).ext E124).other W128 (Or.inl ne_s0_cn)).other W133 (Or.inl ne_s0_cn)).other W138 (Or.inl ne_s0_cn)).keep Kq3 (ninS ne_s0_nm nin0))
    have f154 : F5_ Z T147.heap s0 (.int (own_co [pa, pb])) := (((((((Fc0.keep Kq2 (ninS (Ne.symm ne_ks_s0) nin0)).ext E120).ext E124).other W128 (Or.inl ne_s0_cn)).other W133 (Or.inl ne_s0_cn)).other W138 (Or.inl ne_s0_cn)).keep Kq3 (ninS ne_s0_nm nin0))
    have f155 : Yb Z T147.heap t0 k0 (Int32.ofNat (own_k [pa, pb] * [pa, pb].length)) (own_by [pa, pb]) := (((((((Ax0.keep Kq2 (ninS (Ne.symm ne_ks_t0) nin0)).ext E120).ext E124).other W128 ne_t0_cn).other W133 ne_t0_cn).other W138 ne_t0_cn).keep Kq3 (ninS ne_t0_nm nin0))
    have f156 : own_O Z n0 T147.heap := (f146.keep Kq3 (allS ge_nm all0))
    obtain ⟨cq157, kq157, q157a, q157b, q157c⟩ := isOf hZ38 rfl f150
    obtain ⟨_, _, ⟨T157, L157, k157, n157⟩, -, Xp157, hSp157, hgp157, ⟨Lc157, hQ157, l157, y157, z157⟩, st157⟩ := X147.virtualBackS hx (y := y0_) (z := y0_) hown38 (wm hw hZ38 140 rfl) (wm hw hZ38 141 rfl) (notFace_of_selects (args := #[]) (wm hw hZ38 143 rfl)) (wm hw hZ38 143 rfl) (wm hw hZ38 142 rfl) (by decide) (own_backJ (W := 0) (rmLK l Z a0 hw [] ks s0 t0 k0 pa pb nm tn kn [na, nb, nd] G fv T147.heap T147.heap.size (Nat.le_refl _) rfl f150 f151 f152 f153 f154 f155 Exn Fvn Fcn Axn hpa.1 hpb.1 (own_three hna.1 hnb.1 hnd.1) (own_tx0 (by show 1 ≤ 3; decide) (by show 3 ≤ 512; decide) (own_three hna.2 hnb.2 hnd.2)) (Or.inl (by show 3 ≤ 8; decide)) hH43 hH45 hCW W0 (f156.up z148)) hZ38 (wd hw 144 rfl) (wd hw 8 rfl) (by decide) (by decide)) q157a q157c (g := (mkF m 187 #[(si p0), (si p1), (si p2), (si p3), (si pa), (si pb), (sr ks), (si na), (si nb), (si nd), (si v10), (si v11), (si 1), .unset, .unset, .unset] [(.ref nm), (.ref ks)])) rfl (by rw [hml]; rfl) (Steps.refl _) (argsL := [(.ref nm)]) (rest := []) (lenOf pd_58 rfl) rfl (by show 2 * 0 + _ ≤ _; exact Nat.le_of_eq rfl) (D at_187) (fun _ hwm => ⟨rfl, rfl, (own_IBwarm J1 hwm), (by decide : 11 + 15 ≤ _), (by decide : 3178 + 12556 ≤ _)⟩)
    dsimp only [Pt.U, Pt.locs, Pt.cells, Pt.slots] at Xp157 hSp157 hgp157 l157 y157 z157 st157 hQ157
    subst l157 y157 z157
    obtain ⟨X157, hS157, hZ157, hown157⟩ := rebS hS38 (Nat.le_trans (Nat.le_refl _) (Nat.le_trans (Nat.le_trans (Nat.le_trans (Nat.le_trans (Nat.le_trans E120.1 E124.1) (Keep.of_wr W128).1) (Keep.of_wr W133).1) (Keep.of_wr W138).1) Kq3.1)) Xp157 hSp157 hgp157 hZ38 hown38
    obtain ⟨got, rfl, N157q, Kq4, Sq4⟩ := hQ157
    have N157 := Fr.app N147 (own_frm z148 N157q)
    have z158 : n0 ≤ T157.heap.size := Nat.le_trans z148 Kq4.1
    have K159 : Keep h0 T157.heap [] := K149.trans Kq4 all0
    have go157 : Go p e below E0 T157 m 190 #[(si p0), (si p1), (si p2), (si p3), (si pa), (si pb), (sr ks), (si na), (si nb), (si nd), (si v10), (si v11), (si 1), .unset, .unset, .unset] [(.ref got)] := fun tgt kq => go147 tgt (st157.trans kq)
    obtain ⟨tg, kg, Exg, Fvg, Fcg, Axg⟩ := Sq4
    have go160 : Go p e below E0 T157 m 194 #[(si p0), (si p1), (si p2), (si p3), (si pa), (si pb), (sr ks), (si na), (si nb), (si nd), (si v10), (si v11), (si 1), (sr got), .unset, .unset] [(.int 8)] := fun tgt kq => go157 tgt (by
      refine XS.astore X157.here hx rfl (D at_190) rfl rfl (l' := #[(si p0), (si p1), (si p2), (si p3), (si pa), (si pb), (sr ks), (si na), (si nb), (si nd), (si v10), (si v11), (si 1), (sr got), .unset, .unset]) rfl ?_; refine XS.bipush X157.here hx rfl (D at_192) ?_; exact kq)
    obtain ⟨T161, h161, k161, X161, e161, E161, A161, st161⟩ := newP X157 hx hZ157 (wd hw 12 rfl) rfl (g := (mkF m 194 #[(si p0), (si p1), (si p2), (si p3), (si pa), (si pb), (sr ks), (si na), (si nb), (si nd), (si v10), (si v11), (si 1), (sr got), .unset, .unset] [(.int 8)])) rfl (D at_194) rfl (by decide) (cap := 8) (by decide) (by decide) (by decide) (by decide)
    obtain ⟨ea, g161⟩ : ∃ z, z = T157.heap.size := ⟨_, rfl⟩
    rw [← g161] at A161 st161
    have ne_ks_ea : ks ≠ ea := Nat.ne_of_lt (Nat.lt_of_lt_of_le (Nat.lt_of_lt_of_le A6.lt (Nat.le_trans (Nat.le_trans (Nat.le_trans (Nat.le_trans (Nat.le_trans (Nat.le_trans (Nat.le_trans (Nat.le_trans (Nat.le_trans (Nat.le_trans (Nat.le_trans (Nat.le_trans E10.1 E14.1) (Keep.of_wr W18).1) (Keep.of_wr W23).1) Kq1.1) Kq2.1) E120.1) E124.1) (Keep.of_wr W128).1) (Keep.of_wr W133).1) (Keep.of_wr W138).1) Kq3.1) Kq4.1)) (Nat.le_of_eq g161.symm))
    have ne_s0_ea : s0 ≠ ea := Nat.ne_of_lt (Nat.lt_of_lt_of_le (Nat.lt_of_lt_of_le Ex0.lt (Nat.le_trans (Nat.le_trans (Nat.le_trans (Nat.le_trans (Nat.le_trans (Nat.le_trans (Nat.le_trans Kq2.1 E120.1) E124.1) (Keep.of_wr W128).1) (Keep.of_wr W133).1) (Keep.of_wr W138).1) Kq3.1) Kq4.1)) (Nat.le_of_eq g161.symm))
    have ne_ca_ea : ca ≠ ea := Nat.ne_of_lt (Nat.lt_of_lt_of_le (Nat.lt_of_lt_of_le V14.lt (Nat.le_trans (Nat.le_trans (Nat.le_trans (Nat.le_trans (Nat.le_trans (Nat.le_trans (Nat.le_trans (Nat.le_trans (Nat.le_trans (Nat.le_trans (Keep.of_wr W18).1 (Keep.of_wr W23).1) Kq1.1) Kq2.1) E120.1) E124.1) (Keep.of_wr W128).1) (Keep.of_wr W133).1) (Keep.of_wr W138).1) Kq3.1) Kq4.1)) (Nat.le_of_eq g161.symm))
    have ne_t0_ea : t0 ≠ ea := Nat.ne_of_lt (Nat.lt_of_lt_of_le (Nat.lt_of_lt_of_le Ax0.lt (Nat.le_trans (Nat.le_trans (Nat.le_trans (Nat.le_trans (Nat.le_trans (Nat.le_trans (Nat.le_trans Kq2.1 E120.1) E124.1) (Keep.of_wr W128).1) (Keep.of_wr W133).1) (Keep.of_wr W138).1) Kq3.1) Kq4.1)) (Nat.le_of_eq g161.symm))
    have ne_nm_ea : nm ≠ ea := Nat.ne_of_lt (Nat.lt_of_lt_of_le (Nat.lt_of_lt_of_le Exn.lt Kq4.1) (Nat.le_of_eq g161.symm))
    have ne_cn_ea : cn ≠ ea := Nat.ne_of_lt (Nat.lt_of_lt_of_le (Nat.lt_of_lt_of_le V124.lt (Nat.le_trans (Nat.le_trans (Nat.le_trans (Nat.le_trans (Keep.of_wr W128).1 (Keep.of_wr W133).1) (Keep.of_wr W138).1) Kq3.1) Kq4.1)) (Nat.le_of_eq g161.symm))
    have ne_tn_ea : tn ≠ ea := Nat.ne_of_lt (Nat.lt_of_lt_of_le (Nat.lt_of_lt_of_le Axn.lt Kq4.1) (Nat.le_of_eq g161.symm))
    have ne_got_ea : got ≠ ea := Nat.ne_of_lt (Nat.lt_of_lt_of_le Exg.lt (Nat.le_of_eq g161.symm))
    have ne_tg_ea : tg ≠ ea := Nat.ne_of_lt (Nat.lt_of_lt_of_le Axg.lt (Nat.le_of_eq g161.symm))
    have ge_ea : n0 ≤ ea := Nat.le_trans z158 (Nat.le_of_eq g161.symm)
    have hz_ea : h0.size ≤ ea := Nat.le_trans K159.1 (Nat.le_of_eq g161.symm)
    have z162 : n0 ≤ h161.size := Nat.le_trans z158 E161.1
    have K163 : Keep h0 h161 [] := K159.ext E161
    have V161 : Yc Z h161 ea k161 (8 : Int32) [] := Arv.new A161 (by decide)
    have go161 : Go p e below E0 T161 m 196 #[(si p0), (si p1), (si p2), (si p3), (si pa), (si pb), (sr ks), (si na), (si nb), (si nd), (si v10), (si v11), (si 1), (sr got), .unset, .unset] [(.ref ea)] := fun a b => go160 a (st161 a b)
    have go164 : Go p e below E0 T161 m 200 #[(si p0), (si p1), (si p2), (si p3), (si pa), (si pb), (sr ks), (si na), (si nb), (si nd), (si v10), (si v11), (si 1), (sr got), .unset, .unset] [(.int pa), (.int 0), (.ref ea), (.ref ea)] := fun tgt kq => go161 tgt (by
      refine XS.dup X161.here hx rfl (D at_196) rfl rfl ?_; refine XS.iconst X161.here hx rfl (D at_197) ?_; refine XS.iload X161.here hx rfl (D at_198) rfl ?_; exact kq)
    obtain ⟨T165, h165, X165, e165, W165, A165, go165⟩ := own_sC X161 hx hZ157 e161 V161 (j := (0 : Int32)) rfl ⟨by decide, by decide⟩ go164 (D at_200)
    have z166 : n0 ≤ h165.size := Nat.le_trans z162 (Keep.of_wr W165).1
    have K167 : Keep h0 h165 [] := K163.wr W165 (Or.inr hz_ea)
    have N165 := Fr.snoc X165 N157 ge_ea
    have f168 : Yc Z h165 ea k161 (8 : Int32) [(.int (nar .char pa))] := A165
    have go169 : Go p e below E0 T165 m 205 #[(si p0), (si p1), (si p2), (si p3), (si pa), (si pb), (sr ks), (si na), (si nb), (si nd), (si v10), (si v11), (si 1), (sr got), .unset, .unset] [(.int pb), (.int 1), (.ref ea), (.ref ea)] := fun tgt kq => go165 tgt (by
      refine XS.dup X165.here hx rfl (D at_201) rfl rfl ?_; refine XS.iconst X165.here hx rfl (D at_202) ?_; refine XS.iload X165.here hx rfl (D at_203) rfl ?_; exact kq)
    obtain ⟨T170, h170, X170, e170, W170, A170, go170⟩ := own_sC X165 hx hZ157 e165 f168 (j := (1 : Int32)) rfl ⟨by decide, by decide⟩ go169 (D at_205)
    have z171 : n0 ≤ h170.size := Nat.le_trans z166 (Keep.of_wr W170).1
    have K172 : Keep h0 h170 [] := K167.wr W170 (Or.inr hz_ea)
    have N170 := Fr.snoc X170 N165 ge_ea
    have f173 : Yc Z h170 ea k161 (8 : Int32) [(.int (nar .char pa)), (.int (nar .char pb))] := A170
    have go174 : Go p e below E0 T170 m 210 #[(si p0), (si p1), (si p2), (si p3), (si pa), (si pb), (sr ks), (si na), (si nb), (si nd), (si v10), (si v11), (si 1), (sr got), .unset, .unset] [(.int 58), (.int 2), (.ref ea), (.ref ea)] := fun tgt kq => go170 tgt (by
      refine XS.dup X170.here hx rfl (D at_206) rfl rfl ?_; refine XS.iconst X170.here hx rfl (D at_207) ?_; refine XS.bipush X170.here hx rfl (D at_208) ?_; exact kq)
    obtain ⟨T175, h175, X175, e175, W175, A175, go175⟩ := own_sC X170 hx hZ157 e170 f173 (j := (2 : Int32)) rfl ⟨by decide, by decide⟩ go174 (D at_210)
    have z176 : n0 ≤ h175.size := Nat.le_trans z171 (Keep.of_wr W175).1
    have K177 : Keep h0 h175 [] := K172.wr W175 (Or.inr hz_ea)
    have N175 := Fr.snoc X175 N170 ge_ea
    have f178 : Yc Z h175 ea k161 (8 : Int32) [(.int (nar .char pa)), (.int (nar .char pb)), (.int (nar .char (58 : Int32)))] := A175
    have go179 : Go p e below E0 T175 m 215 #[(si p0), (si p1), (si p2), (si p3), (si pa), (si pb), (sr ks), (si na), (si nb), (si nd), (si v10), (si v11), (si 1), (sr got), .unset, .unset] [(.int 123), (.int 3), (.ref ea), (.ref ea)] := fun tgt kq => go175 tgt (by
      refine XS.dup X175.here hx rfl (D at_211) rfl rfl ?_; refine XS.iconst X175.here hx rfl (D at_212) ?_; refine XS.bipush X175.here hx rfl (D at_213) ?_; exact kq)
    obtain ⟨T180, h180, X180, e180, W180, A180, go180⟩ := own_sC X175 hx hZ157 e175 f178 (j := (3 : Int32)) rfl ⟨by decide, by decide⟩ go179 (D at_215)
    have z181 : n0 ≤ h180.size := Nat.le_trans z176 (Keep.of_wr W180).1
    have K182 : Keep h0 h180 [] := K177.wr W180 (Or.inr hz_ea)
    have N180 := Fr.snoc X180 N175 ge_ea
    have f183 : Yc Z h180 ea k161 (8 : Int32) [(.int (nar .char pa)), (.int (nar .char pb)), (.int (nar .char (58 : Int32))), (.int (nar .char (123 : Int32)))] := A180
    have go184 : Go p e below E0 T180 m 220 #[(si p0), (si p1), (si p2), (si p3), (si pa), (si pb), (sr ks), (si na), (si nb), (si nd), (si v10), (si v11), (si 1), (sr got), .unset, .unset] [(.int na), (.int 4), (.ref ea), (.ref ea)] := fun tgt kq => go180 tgt (by
      refine XS.dup X180.here hx rfl (D at_216) rfl rfl ?_; refine XS.iconst X180.here hx rfl (D at_217) ?_; refine XS.iload X180.here hx rfl (D at_218) rfl ?_; exact kq)
    obtain ⟨T185, h185, X185, e185, W185, A185, go185⟩ := own_sC X180 hx hZ157 e180 f183 (j := (4 : Int32)) rfl ⟨by decide, by decide⟩ go184 (D at_220)
    have z186 : n0 ≤ h185.size := Nat.le_trans z181 (Keep.of_wr W185).1
    have K187 : Keep h0 h185 [] := K182.wr W185 (Or.inr hz_ea)
    have N185 := Fr.snoc X185 N180 ge_ea
    have f188 : Yc Z h185 ea k161 (8 : Int32) [(.int (nar .char pa)), (.int (nar .char pb)), (.int (nar .char (58 : Int32))), (.int (nar .char (123 : Int32))), (.int (nar .char na))] := A185
    have go189 : Go p e below E0 T185 m 225 #[(si p0), (si p1), (si p2), (si p3), (si pa), (si pb), (sr ks), (si na), (si nb), (si nd), (si v10), (si v11), (si 1), (sr got), .unset, .unset] [(.int nb), (.int 5), (.ref ea), (.ref ea)] := fun tgt kq => go185 tgt (by
      refine XS.dup X185.here hx rfl (D at_221) rfl rfl ?_; refine XS.iconst X185.here hx rfl (D at_222) ?_; refine XS.iload X185.here hx rfl (D at_223) rfl ?_; exact kq)
    obtain ⟨T190, h190, X190, e190, W190, A190, go190⟩ := own_sC X185 hx hZ157 e185 f188 (j := (5 : Int32)) rfl ⟨by decide, by decide⟩ go189 (D at_225)
    have z191 : n0 ≤ h190.size := Nat.le_trans z186 (Keep.of_wr W190).1
    have K192 : Keep h0 h190 [] := K187.wr W190 (Or.inr hz_ea)
    have N190 := Fr.snoc X190 N185 ge_ea
    have f193 : Yc Z h190 ea k161 (8 : Int32) [(.int (nar .char pa)), (.int (nar .char pb)), (.int (nar .char (58 : Int32))), (.int (nar .char (123 : Int32))), (.int (nar .char na)), (.int (nar .char nb))] := A190
    have go194 : Go p e below E0 T190 m 231 #[(si p0), (si p1), (si p2), (si p3), (si pa), (si pb), (sr ks), (si na), (si nb), (si nd), (si v10), (si v11), (si 1), (sr got), .unset, .unset] [(.int nd), (.int 6), (.ref ea), (.ref ea)] := fun tgt kq => go190 tgt (by
      refine XS.dup X190.here hx rfl (D at_226) rfl rfl ?_; refine XS.bipush X190.here hx rfl (D at_227) ?_; refine XS.iload X190.here hx rfl (D at_229) rfl ?_; exact kq)
    obtain ⟨T195, h195, X195, e195, W195, A195, go195⟩ := own_sC X190 hx hZ157 e190 f193 (j := (6 : Int32)) rfl ⟨by decide, by decide⟩ go194 (D at_231)
    have z196 : n0 ≤ h195.size := Nat.le_trans z191 (Keep.of_wr W195).1
    have K197 : Keep h0 h195 [] := K192.wr W195 (Or.inr hz_ea)
    have N195 := Fr.snoc X195 N190 ge_ea
    have f198 : Yc Z h195 ea k161 (8 : Int32) [(.int (nar .char pa)), (.int (nar .char pb)), (.int (nar .char (58 : Int32))), (.int (nar .char (123 : Int32))), (.int (nar .char na)), (.int (nar .char nb)), (.int (nar .char nd))] := A195
    have go199 : Go p e below E0 T195 m 237 #[(si p0), (si p1), (si p2), (si p3), (si pa), (si pb), (sr ks), (si na), (si nb), (si nd), (si v10), (si v11), (si 1), (sr got), .unset, .unset] [(.int 125), (.int 7), (.ref ea), (.ref ea)] := fun tgt kq => go195 tgt (by
      refine XS.dup X195.here hx rfl (D at_232) rfl rfl ?_; refine XS.bipush X195.here hx rfl (D at_233) ?_; refine XS.bipush X195.here hx rfl (D at_235) ?_; exact kq)
    obtain ⟨T200, h200, X200, e200, W200, A200, go200⟩ := own_sC X195 hx hZ157 e195 f198 (j := (7 : Int32)) rfl ⟨by decide, by decide⟩ go199 (D at_237)
    have z201 : n0 ≤ h200.size := Nat.le_trans z196 (Keep.of_wr W200).1
    have K202 : Keep h0 h200 [] := K197.wr W200 (Or.inr hz_ea)
    have N200 := Fr.snoc X200 N195 ge_ea
    have f203 : Yc Z h200 ea k161 (8 : Int32) [(.int (nar .char pa)), (.int (nar .char pb)), (.int (nar .char (58 : Int32))), (.int (nar .char (123 : Int32))), (.int (nar .char na)), (.int (nar .char nb)), (.int (nar .char nd)), (.int (nar .char (125 : Int32)))] := A200
    have go204 : Go p e below E0 T200 m 441 #[(si p0), (si p1), (si p2), (si p3), (si pa), (si pb), (sr ks), (si na), (si nb), (si nd), (si v10), (si v11), (si 1), (sr got), (sr ea), .unset] [(.ref got)] := fun tgt kq => go200 tgt (by
      refine XS.astore X200.here hx rfl (D at_238) rfl rfl (l' := #[(si p0), (si p1), (si p2), (si p3), (si pa), (si pb), (sr ks), (si na), (si nb), (si nd), (si v10), (si v11), (si 1), (sr got), (sr ea), .unset]) rfl ?_; refine XS.goto X200.here hx rfl (pc0 := 240) (pc' := 434) rfl (D at_240) (by decide) (by decide) ?_; refine XS.aload X200.here hx rfl (D at_434) rfl rfl ?_; refine XS.ifnullNo X200.here hx rfl (D at_436) rfl ?_; refine XS.aload X200.here hx rfl (D at_439) rfl rfl ?_; exact kq)
    obtain ⟨T205, h205, X205, e205, E205, A205, D205, -, st205⟩ := newO X200 hx hZ157 hown157 (wd hw 9 rfl) (wd hw 10 rfl) (wd hw 11 rfl) e200 (g := (mkF m 441 #[(si p0), (si p1), (si p2), (si p3), (si pa), (si pb), (sr ks), (si na), (si nb), (si nd), (si v10), (si v11), (si 1), (sr got), (sr ea), .unset] [(.ref got)])) rfl (D at_441) (by decide) (by decide)
    obtain ⟨s2, g205⟩ : ∃ z, z = h200.size := ⟨_, rfl⟩
    rw [← g205] at A205 D205 st205
    have ne_ks_s2 : ks ≠ s2 := Nat.ne_of_lt (Nat.lt_of_lt_of_le (Nat.lt_of_lt_of_le A6.lt (Nat.le_trans (Nat.le_trans (Nat.le_trans (Nat.le_trans (Nat.le_trans (Nat.le_trans (Nat.le_trans (Nat.le_trans (Nat.le_trans (Nat.le_trans (Nat.le_trans (Nat.le_trans (Nat.le_trans (Nat.le_trans (Nat.le_trans (Nat.le_trans (Nat.le_trans (Nat.le_trans (Nat.le_trans (Nat.le_trans (Nat.le_trans E10.1 E14.1) (Keep.of_wr W18).1) (Keep.of_wr W23).1) Kq1.1) Kq2.1) E120.1) E124.1) (Keep.of_wr W128).1) (Keep.of_wr W133).1) (Keep.of_wr W138).1) Kq3.1) Kq4.1) E161.1) (Keep.of_wr W165).1) (Keep.of_wr W170).1) (Keep.of_wr W175).1) (Keep.of_wr W180).1) (Keep.of_wr W185).1) (Keep.of_wr W190).1) (Keep.of_wr W195).1) (Keep.of_wr W200).1)) (Nat.le_of_eq g205.symm))
    have ne_s0_s2 : s0 ≠ s2 := Nat.ne_of_lt (Nat.lt_of_lt_of_le (Nat.lt_of_lt_of_le Ex0.lt (Nat.le_trans (Nat.le_trans (Nat.le_trans (Nat.le_trans (Nat.le_trans (Nat.le_trans (Nat.le_trans (Nat.le_trans (Nat.le_trans (Nat.le_trans (Nat.le_trans (Nat.le_trans (Nat.le_trans (Nat.le_trans (Nat.le_trans (Nat.le_trans Kq2.1 E120.1) E124.1) (Keep.of_wr W128).1) (Keep.of_wr W133).1) (Keep.of_wr W138).1) Kq3.1) Kq4.1) E161.1) (Keep.of_wr W165).1) (Keep.of_wr W170).1) (Keep.of_wr W175).1) (Keep.of_wr W180).1) (Keep.of_wr W185).1) (Keep.of_wr W190).1) (Keep.of_wr W195).1) (Keep.of_wr W200).1)) (Nat.le_of_eq g205.symm))
    have ne_ca_s2 : ca ≠ s2 := Nat.ne_of_lt (Nat.lt_of_lt_of_le (Nat.lt_of_lt_of_le V14.lt (Nat.le_trans (Nat.le_trans (Nat.le_trans (Nat.le_trans (Nat.le_trans (Nat.le_trans (Nat.le_trans (Nat.le_trans (Nat.le_trans (Nat.le_trans (Nat.le_trans (Nat.le_trans (Nat.le_trans (Nat.le_trans (Nat.le_trans (Nat.le_trans (Nat.le_trans (Nat.le_trans (Nat.le_trans (Keep.of_wr W18).1 (Keep.of_wr W23).1) Kq1.1) Kq2.1) E120.1) E124.1) (Keep.of_wr W128).1) (Keep.of_wr W133).1) (Keep.of_wr W138).1) Kq3.1) Kq4.1) E161.1) (Keep.of_wr W165).1) (Keep.of_wr W170).1) (Keep.of_wr W175).1) (Keep.of_wr W180).1) (Keep.of_wr W185).1) (Keep.of_wr W190).1) (Keep.of_wr W195).1) (Keep.of_wr W200).1)) (Nat.le_of_eq g205.symm))
    have ne_t0_s2 : t0 ≠ s2 := Nat.ne_of_lt (Nat.lt_of_lt_of_le (Nat.lt_of_lt_of_le Ax0.lt (Nat.le_trans (Nat.le_trans (Nat.le_trans (Nat.le_trans (Nat.le_trans (Nat.le_trans (Nat.le_trans (Nat.le_trans (Nat.le_trans (Nat.le_trans (Nat.le_trans (Nat.le_trans (Nat.le_trans (Nat.le_trans (Nat.le_trans (Nat.le_trans Kq2.1 E120.1) E124.1) (Keep.of_wr W128).1) (Keep.of_wr W133).1) (Keep.of_wr W138).1) Kq3.1) Kq4.1) E161.1) (Keep.of_wr W165).1) (Keep.of_wr W170).1) (Keep.of_wr W175).1) (Keep.of_wr W180).1) (Keep.of_wr W185).1) (Keep.of_wr W190).1) (Keep.of_wr W195).1) (Keep.of_wr W200).1)) (Nat.le_of_eq g205.symm))
    have ne_nm_s2 : nm ≠ s2 := Nat.ne_of_lt (Nat.lt_of_lt_of_le (Nat.lt_of_lt_of_le Exn.lt (Nat.le_trans (Nat.le_trans (Nat.le_trans (Nat.le_trans (Nat.le_trans (Nat.le_trans (Nat.le_trans (Nat.le_trans (Nat.le_trans Kq4.1 E161.1) (Keep.of_wr W165).1) (Keep.of_wr W170).1) (Keep.of_wr W175).1) (Keep.of_wr W180).1) (Keep.of_wr W185).1) (Keep.of_wr W190).1) (Keep.of_wr W195).1) (Keep.of_wr W200).1)) (Nat.le_of_eq g205.symm))
    have ne_cn_s2 : cn ≠ s2 := Nat.ne_of_lt (Nat.lt_of_lt_of_le (Nat.lt_of_lt_of_le V124.lt (Nat.le_trans (Nat.le_trans (Nat.le_trans (Nat.le_trans (Nat.le_trans (Nat.le_trans (Nat.le_trans (Nat.le_trans (Nat.le_trans (Nat.le_trans (Nat.le_trans (Nat.le_trans (Nat.le_trans (Keep.of_wr W128).1 (Keep.of_wr W133).1) (Keep.of_wr W138).1) Kq3.1) Kq4.1) E161.1) (Keep.of_wr W165).1) (Keep.of_wr W170).1) (Keep.of_wr W175).1) (Keep.of_wr W180).1) (Keep.of_wr W185).1) (Keep.of_wr W190).1) (Keep.of_wr W195).1) (Keep.of_wr W200).1)) (Nat.le_of_eq g205.symm))
    have ne_tn_s2 : tn ≠ s2 := Nat.ne_of_lt (Nat.lt_of_lt_of_le (Nat.lt_of_lt_of_le Axn.lt (Nat.le_trans (Nat.le_trans (Nat.le_trans (Nat.le_trans (Nat.le_trans (Nat.le_trans (Nat.le_trans (Nat.le_trans (Nat.le_trans Kq4.1 E161.1) (Keep.of_wr W165).1) (Keep.of_wr W170).1) (Keep.of_wr W175).1) (Keep.of_wr W180).1) (Keep.of_wr W185).1) (Keep.of_wr W190).1) (Keep.of_wr W195).1) (Keep.of_wr W200).1)) (Nat.le_of_eq g205.symm))
    have ne_got_s2 : got ≠ s2 := Nat.ne_of_lt (Nat.lt_of_lt_of_le (Nat.lt_of_lt_of_le Exg.lt (Nat.le_trans (Nat.le_trans (Nat.le_trans (Nat.le_trans (Nat.le_trans (Nat.le_trans (Nat.le_trans (Nat.le_trans E161.1 (Keep.of_wr W165).1) (Keep.of_wr W170).1) (Keep.of_wr W175).1) (Keep.of_wr W180).1) (Keep.of_wr W185).1) (Keep.of_wr W190).1) (Keep.of_wr W195).1) (Keep.of_wr W200).1)) (Nat.le_of_eq g205.symm))
    have ne_tg_s2 : tg ≠ s2 := Nat.ne_of_lt (Nat.lt_of_lt_of_le (Nat.lt_of_lt_of_le Axg.lt (Nat.le_trans (Nat.le_trans (Nat.le_trans (Nat.le_trans (Nat.le_trans (Nat.le_trans (Nat.le_trans (Nat.le_trans E161.1 (Keep.of_wr W165).1) (Keep.of_wr W170).1) (Keep.of_wr W175).1) (Keep.of_wr W180).1) (Keep.of_wr W185).1) (Keep.of_wr W190).1) (Keep.of_wr W195).1) (Keep.of_wr W200).1)) (Nat.le_of_eq g205.symm))
    have ne_ea_s2 : ea ≠ s2 := Nat.ne_of_lt (Nat.lt_of_lt_of_le (Nat.lt_of_lt_of_le V161.lt (Nat.le_trans (Nat.le_trans (Nat.le_trans (Nat.le_trans (Nat.le_trans (Nat.le_trans (Nat.le_trans (Keep.of_wr W165).1 (Keep.of_wr W170).1) (Keep.of_wr W175).1) (Keep.of_wr W180).1) (Keep.of_wr W185).1) (Keep.of_wr W190).1) (Keep.of_wr W195).1) (Keep.of_wr W200).1)) (Nat.le_of_eq g205.symm))
    have ge_s2 : n0 ≤ s2 := Nat.le_trans z201 (Nat.le_of_eq g205.symm)
    have hz_s2 : h0.size ≤ s2 := Nat.le_trans K202.1 (Nat.le_of_eq g205.symm)
    have z206 : n0 ≤ h205.size := Nat.le_trans z201 E205.1
    have K207 : Keep h0 h205 [] := K202.ext E205
    have Fcoder_s2 : F5_ Z h205 s2 (.int (0 : Int32)) := D205 (Or.inr (wd hw 36 rfl)) (ty := .byte) (by decide)
    have Fvalue_s2 : F6_ Z h205 s2 .null := D205 (Or.inr (wd hw 38 rfl)) (ty := (.array .byte)) (by decide)
    have go205 : Go p e below E0 T205 m 444 #[(si p0), (si p1), (si p2), (si p3), (si pa), (si pb), (sr ks), (si na), (si nb), (si nd), (si v10), (si v11), (si 1), (sr got), (sr ea), .unset] [(.ref s2), (.ref got)] := fun a b => go204 a (st205 a b)
    have f208 : Yc Z h205 ea k161 (8 : Int32) [(.int (nar .char pa)), (.int (nar .char pb)), (.int (nar .char (58 : Int32))), (.int (nar .char (123 : Int32))), (.int (nar .char na)), (.int (nar .char nb)), (.int (nar .char nd)), (.int (nar .char (125 : Int32)))] := (f203.ext E205)
    have Ac209 : Yc Z h205 ea k161 (Int32.ofNat ([pa, pb] ++ ([58, 123] : List Int32) ++ [na, nb, nd] ++ ([125] : List Int32)).length) (([pa, pb] ++ ([58, 123] : List Int32) ++ [na, nb, nd] ++ ([125] : List Int32)).map Value.int) := by have q := f208; rw [n_pa, n_pb, n_58, n_123, n_na, n_nb, n_nd, n_125] at q; exact q
    have f210 : own_O Z n0 h205 := (((((((((((f156.keep Kq4 all0).ext E161).wr W165 ge_ea).wr W170 ge_ea).wr W175 ge_ea).wr W180 ge_ea).wr W185 ge_ea).wr W190 ge_ea).wr W195 ge_ea).wr W200 ge_ea).ext E205)
    have go211 : Go p e below E0 T205 m 447 #[(si p0), (si p1), (si p2), (si p3), (si pa), (si pb), (sr ks), (si na), (si nb), (si nd), (si v10), (si v11), (si 1), (sr got), (sr ea), .unset] [(.ref ea), (.ref s2), (.ref s2), (.ref got)] := fun tgt kq => go205 tgt (by
      refine XS.dup X205.here hx rfl (D at_444) rfl rfl ?_; refine XS.aload X205.here hx rfl (D at_445) rfl rfl ?_; exact kq)
    obtain ⟨_, T212, L212, X212, hQ212, go212⟩ := own_cI X205 hx hZ157 hown157 (wd hw 13 rfl) (wd hw 14 rfl) (wd hw 11 rfl) (wd hw 15 rfl) rfl (by decide) (W := 2) (rmN520 l Z a0 hw [] s2 ea k161 ([pa, pb] ++ ([58, 123] : List Int32) ++ [na, nb, nd] ++ ([125] : List Int32)) G fv h205 n0 z206 A205 ge_s2 Fvalue_s2 Fcoder_s2 Ac209 (by show 8 ≤ 520; decide) (by show 1 ≤ 8; decide) (own_allapp (own_allapp (own_allapp (own_pair hpa.1 hpb.1) (own_pair own_wf58 own_wf123)) (own_three hna.1 hnb.1 hnd.1)) (own_allcons own_wf125 own_allnil)) W0 f210) (by decide) (by decide) e205 (by decide) (by decide) go211 hml.symm (argsL := [(.ref ea)]) (rest := [(.ref s2), (.ref got)]) (lenOf pd_56 rfl) rfl rfl rfl (D at_447)
    obtain ⟨rfl, N212q, Kq5, Sq5⟩ := hQ212
    have N212 := Fr.app N200 N212q
    have z213 : n0 ≤ T212.heap.size := Nat.le_trans z206 Kq5.1
    have K214 : Keep h0 T212.heap [] := K207.trans Kq5 (allS (Or.inr hz_s2) all0)
    obtain ⟨t5, kq5, Ex5, Fv5, Fc5, Ax5⟩ := Sq5
    have f215 : E1_ Z T212.heap got := (((((((((((Exg.ext E161).wr W165).wr W170).wr W175).wr W180).wr W185).wr W190).wr W195).wr W200).ext E205).keep Kq5)
    have f216 : F6_ Z T212.heap got (.ref tg) := (((((((((((Fvg.ext E161).other W165 (Or.inl ne_got_ea)).other W170 (Or.inl ne_got_ea)).other W175 (Or.inl ne_got_ea)).other W180 (Or.inl ne_got_ea)).other W185 (Or.inl ne_got_ea)).other W190 (Or.inl ne_got_ea)).other W195 (Or.inl ne_got_ea)).other W200 (Or.inl ne_got_ea)).ext E205).keep Kq5 (ninS ne_got_s2 nin0))
    have f217 : F5_ Z T212.heap got (.int (own_co ([pa, pb] ++ ([58, 123] : List Int32) ++ [na, nb, nd] ++ ([125] : List Int32)))) := (((((((((((Fcg.ext E161).other W165 (Or.inl ne_got_ea)).other W170 (Or.inl ne_got_ea)).other W175 (Or.inl ne_got_ea)).other W180 (Or.inl ne_got_ea)).other W185 (Or.inl ne_got_ea)).other W190 (Or.inl ne_got_ea)).other W195 (Or.inl ne_got_ea)).other W200 (Or.inl ne_got_ea)).ext E205).keep Kq5 (ninS ne_got_s2 nin0))
    have f218 : Yb Z T212.heap tg kg (Int32.ofNat (own_k ([pa, pb] ++ ([58, 123] : List Int32) ++ [na, nb, nd] ++ ([125] : List Int32)) * ([pa, pb] ++ ([58, 123] : List Int32) ++ [na, nb, nd] ++ ([125] : List Int32)).length)) (own_by ([pa, pb] ++ ([58, 123] : List Int32) ++ [na, nb, nd] ++ ([125] : List Int32))) := (((((((((((Axg.ext E161).other W165 ne_tg_ea).other W170 ne_tg_ea).other W175 ne_tg_ea).other W180 ne_tg_ea).other W185 ne_tg_ea).other W190 ne_tg_ea).other W195 ne_tg_ea).other W200 ne_tg_ea).ext E205).keep Kq5 (ninS ne_tg_s2 nin0))
    have f219 : own_O Z n0 T212.heap := (f210.keep Kq5 (allS ge_s2 all0))
    obtain ⟨_, T220, L220, X220, hQ220, go220⟩ := own_cV X212 hx hZ157 hown157 (wd hw 256 rfl) (wd hw 257 rfl) (wd hw 259 rfl) (wd hw 258 rfl) (wd hw 11 rfl) (wd hw 260 rfl) (by decide) (W := 0) (rmEQ l Z a0 hw [] got tg kg s2 t5 kq5 ([pa, pb] ++ ([58, 123] : List Int32) ++ [na, nb, nd] ++ ([125] : List Int32)) G fv T212.heap n0 z213 f215 f216 f217 f218 Ex5 Fv5 Fc5 Ax5 ne_got_s2 (by show 8 ≤ 520; decide) W0 f219) (by decide) (by decide) rfl (by decide) (by decide) f215 go212 hml.symm (argsL := [(.ref s2)]) (rest := []) (lenOf pd_59 rfl) rfl rfl rfl (D at_450)
    obtain ⟨rfl, N220q, Kq6⟩ := hQ220
    have N220 := Fr.app N212 N220q
    have z221 : n0 ≤ T220.heap.size := Nat.le_trans z213 Kq6.1
    have K222 : Keep h0 T220.heap [] := K214.trans Kq6 all0
    have go223 : Go p e below E0 T220 m 461 #[(si p0), (si p1), (si p2), (si p3), (si pa), (si pb), (sr ks), (si na), (si nb), (si nd), (si v10), (si v11), (si 1), (sr got), (sr ea), .unset] [(.int 1)] := fun tgt kq => go220 tgt (by
      refine XS.ifNo X220.here hx rfl (D at_453) rfl ((if0 _ _).trans (feq (by decide)).1) ?_; refine XS.iconst X220.here hx rfl (D at_456) ?_; refine XS.goto X220.here hx rfl (pc0 := 457) (pc' := 461) rfl (D at_457) (by decide) (by decide) ?_; exact kq)
    obtain ⟨fs, hr, hrun, hended, hW⟩ := X220.leaveW hS157 (Nat.le_trans (Nat.le_refl _) (Nat.le_trans (Nat.le_trans (Nat.le_trans (Nat.le_trans (Nat.le_trans (Nat.le_trans (Nat.le_trans (Nat.le_trans (Nat.le_trans (Nat.le_trans (Nat.le_trans E161.1 (Keep.of_wr W165).1) (Keep.of_wr W170).1) (Keep.of_wr W175).1) (Keep.of_wr W180).1) (Keep.of_wr W185).1) (Keep.of_wr W190).1) (Keep.of_wr W195).1) (Keep.of_wr W200).1) E205.1) Kq5.1) Kq6.1)) (v := some (.int (1 : Int32))) (fun h => by rw [Bd.returns] at h; cases h)
    refine ⟨_, _, go223 _ ?_, hrun, hended, _, _, rfl, ?_, hW.1, hW.2.1, hW.2.2.1, hW.2.2.2.mono (by decide) (by decide)⟩
    · exact retN X220 hx (t := .boolean) Bd.returns (by simp) (D at_461) hr
    · show QL Z p0 p1 p2 p3 G fv h0 n0 _ T220.heap _ T220.vm
      exact ⟨rfl, N220⟩
  · have go224 : Go p e below E0 T46 m 251 #[(si p0), (si p1), (si p2), (si p3), (si pa), (si pb), (sr ks), (si na), (si nb), (si nd), (si v10), (si v11), (si 2), .unset, .unset, .unset] [(.ref ks)] := fun tgt kq => go49 tgt (by
      refine XS.iload X46.here hx rfl (D at_98) rfl ?_; refine XS.ifYes X46.here hx rfl (pc0 := 100) (pc' := 154) rfl (D at_100) rfl ((if0 _ _).trans (feq (by decide)).2) (by decide) (by decide) ?_; refine XS.iload X46.here hx rfl (D at_154) rfl ?_; refine XS.iconst X46.here hx rfl (D at_156) ?_; refine XS.icmpYes X46.here hx rfl (pc0 := 157) (pc' := 243) rfl (D at_157) rfl (feq (by decide)).2 (by decide) (by decide) ?_; refine XS.iload X46.here hx rfl (D at_243) rfl ?_; refine XS.iconst X46.here hx rfl (D at_245) ?_; refine XS.icmpNo X46.here hx rfl (D at_246) rfl (teq rfl).2 ?_; refine XS.aload X46.here hx rfl (D at_249) rfl rfl ?_; exact kq)
    obtain ⟨T225, h225, X225, e225, E225, A225, D225, -, st225⟩ := newO X46 hx hZ38 hown38 (wd hw 9 rfl) (wd hw 10 rfl) (wd hw 11 rfl) e46 (g := (mkF m 251 #[(si p0), (si p1), (si p2), (si p3), (si pa), (si pb), (sr ks), (si na), (si nb), (si nd), (si v10), (si v11), (si 2), .unset, .unset, .unset] [(.ref ks)])) rfl (D at_251) (by decide) (by decide)
    obtain ⟨nm, g225⟩ : ∃ z, z = T38.heap.size := ⟨_, rfl⟩
    rw [← g225] at A225 D225 st225
    have ne_ks_nm : ks ≠ nm := Nat.ne_of_lt (Nat.lt_of_lt_of_le (Nat.lt_of_lt_of_le A6.lt (Nat.le_trans (Nat.le_trans (Nat.le_trans (Nat.le_trans (Nat.le_trans E10.1 E14.1) (Keep.of_wr W18).1) (Keep.of_wr W23).1) Kq1.1) Kq2.1)) (Nat.le_of_eq g225.symm))
    have ne_s0_nm : s0 ≠ nm := Nat.ne_of_lt (Nat.lt_of_lt_of_le (Nat.lt_of_lt_of_le Ex0.lt Kq2.1) (Nat.le_of_eq g225.symm))
    have ne_ca_nm : ca ≠ nm := Nat.ne_of_lt (Nat.lt_of_lt_of_le (Nat.lt_of_lt_of_le V14.lt (Nat.le_trans (Nat.le_trans (Nat.le_trans (Keep.of_wr W18).1 (Keep.of_wr W23).1) Kq1.1) Kq2.1)) (Nat.le_of_eq g225.symm))
    have ne_t0_nm : t0 ≠ nm := Nat.ne_of_lt (Nat.lt_of_lt_of_le (Nat.lt_of_lt_of_le Ax0.lt Kq2.1) (Nat.le_of_eq g225.symm))
    have ge_nm : n0 ≤ nm := Nat.le_trans z39 (Nat.le_of_eq g225.symm)
    have hz_nm : h0.size ≤ nm := Nat.le_trans K40.1 (Nat.le_of_eq g225.symm)
    have z226 : n0 ≤ h225.size := Nat.le_trans z39 E225.1
    have K227 : Keep h0 h225 [] := K40.ext E225
    have Fcoder_nm : F5_ Z h225 nm (.int (0 : Int32)) := D225 (Or.inr (wd hw 36 rfl)) (ty := .byte) (by decide)
    have Fvalue_nm : F6_ Z h225 nm .null := D225 (Or.inr (wd hw 38 rfl)) (ty := (.array .byte)) (by decide)
    have go225 : Go p e below E0 T225 m 254 #[(si p0), (si p1), (si p2), (si p3), (si pa), (si pb), (sr ks), (si na), (si nb), (si nd), (si v10), (si v11), (si 2), .unset, .unset, .unset] [(.ref nm), (.ref ks)] := fun a b => go224 a (st225 a b)
    have go228 : Go p e below E0 T225 m 256 #[(si p0), (si p1), (si p2), (si p3), (si pa), (si pb), (sr ks), (si na), (si nb), (si nd), (si v10), (si v11), (si 2), .unset, .unset, .unset] [(.int 3), (.ref nm), (.ref nm), (.ref ks)] := fun tgt kq => go225 tgt (by
      refine XS.dup X225.here hx rfl (D at_254) rfl rfl ?_; refine XS.iconst X225.here hx rfl (D at_255) ?_; exact kq)
    obtain ⟨T229, h229, k229, X229, e229, E229, A229, st229⟩ := newP X225 hx hZ38 (wd hw 12 rfl) e225 (g := (mkF m 256 #[(si p0), (si p1), (si p2), (si p3), (si pa), (si pb), (sr ks), (si na), (si nb), (si nd), (si v10), (si v11), (si 2), .unset, .unset, .unset] [(.int 3), (.ref nm), (.ref nm), (.ref ks)])) rfl (D at_256) rfl (by decide) (cap := 3) (by decide) (by decide) (by decide) (by decide)
    obtain ⟨cn, g229⟩ : ∃ z, z = h225.size := ⟨_, rfl⟩
    rw [← g229] at A229 st229
    have ne_ks_cn : ks ≠ cn := Nat.ne_of_lt (Nat.lt_of_lt_of_le (Nat.lt_of_lt_of_le A6.lt (Nat.le_trans (Nat.le_trans (Nat.le_trans (Nat.le_trans (Nat.le_trans (Nat.le_trans E10.1 E14.1) (Keep.of_wr W18).1) (Keep.of_wr W23).1) Kq1.1) Kq2.1) E225.1)) (Nat.le_of_eq g229.symm))
    have ne_s0_cn : s0 ≠ cn := Nat.ne_of_lt (Nat.lt_of_lt_of_le (Nat.lt_of_lt_of_le Ex0.lt (Nat.le_trans Kq2.1 E225.1)) (Nat.le_of_eq g229.symm))
    have ne_ca_cn : ca ≠ cn := Nat.ne_of_lt (Nat.lt_of_lt_of_le (Nat.lt_of_lt_of_le V14.lt (Nat.le_trans (Nat.le_trans (Nat.le_trans (Nat.le_trans (Keep.of_wr W18).1 (Keep.of_wr W23).1) Kq1.1) Kq2.1) E225.1)) (Nat.le_of_eq g229.symm))
    have ne_t0_cn : t0 ≠ cn := Nat.ne_of_lt (Nat.lt_of_lt_of_le (Nat.lt_of_lt_of_le Ax0.lt (Nat.le_trans Kq2.1 E225.1)) (Nat.le_of_eq g229.symm))
    have ne_nm_cn : nm ≠ cn := Nat.ne_of_lt (Nat.lt_of_lt_of_le A225.lt (Nat.le_of_eq g229.symm))
    have ge_cn : n0 ≤ cn := Nat.le_trans z226 (Nat.le_of_eq g229.symm)
    have hz_cn : h0.size ≤ cn := Nat.le_trans K227.1 (Nat.le_of_eq g229.symm)
    have z230 : n0 ≤ h229.size := Nat.le_trans z226 E229.1
    have K231 : Keep h0 h229 [] := K227.ext E229
    have V229 : Yc Z h229 cn k229 (3 : Int32) [] := Arv.new A229 (by decide)
    have go229 : Go p e below E0 T229 m 258 #[(si p0), (si p1), (si p2), (si p3), (si pa), (si pb), (sr ks), (si na), (si nb), (si nd), (si v10), (si v11), (si 2), .unset, .unset, .unset] [(.ref cn), (.ref nm), (.ref nm), (.ref ks)] := fun a b => go228 a (st229 a b)
    have go232 : Go p e below E0 T229 m 262 #[(si p0), (si p1), (si p2), (si p3), (si pa), (si pb), (sr ks), (si na), (si nb), (si nd), (si v10), (si v11), (si 2), .unset, .unset, .unset] [(.int v10), (.int 0), (.ref cn), (.ref cn), (.ref nm), (.ref nm), (.ref ks)] := fun tgt kq => go229 tgt (by
      refine XS.dup X229.here hx rfl (D at_258) rfl rfl ?_; refine XS.iconst X229.here hx rfl (D at_259) ?_; refine XS.iload X229.here hx rfl (D at_260) rfl ?_; exact kq)
    obtain ⟨T233, h233, X233, e233, W233, A233, go233⟩ := own_sC X229 hx hZ38 e229 V229 (j := (0 : Int32)) rfl ⟨by decide, by decide⟩ go232 (D at_262)
    have z234 : n0 ≤ h233.size := Nat.le_trans z230 (Keep.of_wr W233).1
    have K235 : Keep h0 h233 [] := K231.wr W233 (Or.inr hz_cn)
    have N233 := Fr.snoc X233 N46 ge_cn
    have f236 : Yc Z h233 cn k229 (3 : Int32) [(.int (nar .char v10))] := A233
    have go237 : Go p e below E0 T233 m 267 #[(si p0), (si p1), (si p2), (si p3), (si pa), (si pb), (sr ks), (si na), (si nb), (si nd), (si v10), (si v11), (si 2), .unset, .unset, .unset] [(.int v11), (.int 1), (.ref cn), (.ref cn), (.ref nm), (.ref nm), (.ref ks)] := fun tgt kq => go233 tgt (by
      refine XS.dup X233.here hx rfl (D at_263) rfl rfl ?_; refine XS.iconst X233.here hx rfl (D at_264) ?_; refine XS.iload X233.here hx rfl (D at_265) rfl ?_; exact kq)
    obtain ⟨T238, h238, X238, e238, W238, A238, go238⟩ := own_sC X233 hx hZ38 e233 f236 (j := (1 : Int32)) rfl ⟨by decide, by decide⟩ go237 (D at_267)
    have z239 : n0 ≤ h238.size := Nat.le_trans z234 (Keep.of_wr W238).1
    have K240 : Keep h0 h238 [] := K235.wr W238 (Or.inr hz_cn)
    have N238 := Fr.snoc X238 N233 ge_cn
    have f241 : Yc Z h238 cn k229 (3 : Int32) [(.int (nar .char v10)), (.int (nar .char v11))] := A238
    have go242 : Go p e below E0 T238 m 272 #[(si p0), (si p1), (si p2), (si p3), (si pa), (si pb), (sr ks), (si na), (si nb), (si nd), (si v10), (si v11), (si 2), .unset, .unset, .unset] [(.int nd), (.int 2), (.ref cn), (.ref cn), (.ref nm), (.ref nm), (.ref ks)] := fun tgt kq => go238 tgt (by
      refine XS.dup X238.here hx rfl (D at_268) rfl rfl ?_; refine XS.iconst X238.here hx rfl (D at_269) ?_; refine XS.iload X238.here hx rfl (D at_270) rfl ?_; exact kq)
    obtain ⟨T243, h243, X243, e243, W243, A243, go243⟩ := own_sC X238 hx hZ38 e238 f241 (j := (2 : Int32)) rfl ⟨by decide, by decide⟩ go242 (D at_272)
    have z244 : n0 ≤ h243.size := Nat.le_trans z239 (Keep.of_wr W243).1
    have K245 : Keep h0 h243 [] := K240.wr W243 (Or.inr hz_cn)
    have N243 := Fr.snoc X243 N238 ge_cn
    have f246 : Yc Z h243 cn k229 (3 : Int32) [(.int (nar .char v10)), (.int (nar .char v11)), (.int (nar .char nd))] := A243
    have Ac247 : Yc Z h243 cn k229 (Int32.ofNat [v10, v11, nd].length) ([v10, v11, nd].map Value.int) := by have q := f246; rw [n_v10, n_v11, n_nd] at q; exact q
    have f248 : E1_ Z h243 nm := ((((A225.ext E229).wr W233).wr W238).wr W243)
    have f249 : F6_ Z h243 nm .null := ((((Fvalue_nm.ext E229).other W233 (Or.inl ne_nm_cn)).other W238 (Or.inl ne_nm_cn)).other W243 (Or.inl ne_nm_cn))
    have f250 : F5_ Z h243 nm (.int (0 : Int32)) := ((((Fcoder_nm.ext E229).other W233 (Or.inl ne_nm_cn)).other W238 (Or.inl ne_nm_cn)).other W243 (Or.inl ne_nm_cn))
    have f251 : own_O Z n0 h243 := ((((((f37.keep Kq2 (allS ge_ks all0)).ext E225).ext E229).wr W233 ge_cn).wr W238 ge_cn).wr W243 ge_cn)
    obtain ⟨_, T252, L252, X252, hQ252, go252⟩ := own_cI X243 hx hZ38 hown38 (wd hw 13 rfl) (wd hw 14 rfl) (wd hw 11 rfl) (wd hw 15 rfl) rfl (by decide) (W := 2) (rmN520 l Z a0 hw [] nm cn k229 [v10, v11, nd] G fv h243 n0 z244 f248 ge_nm f249 f250 Ac247 (by show 3 ≤ 520; decide) (by show 1 ≤ 3; decide) (own_three k10.1 k11.1 hnd.1) W0 f251) (by decide) (by decide) e243 (by decide) (by decide) go243 hml.symm (argsL := [(.ref cn)]) (rest := [(.ref nm), (.ref ks)]) (lenOf pd_56 rfl) rfl rfl rfl (D at_273)
    obtain ⟨rfl, N252q, Kq3, Sq3⟩ := hQ252
    have N252 := Fr.app N243 N252q
    have z253 : n0 ≤ T252.heap.size := Nat.le_trans z244 Kq3.1
    have K254 : Keep h0 T252.heap [] := K245.trans Kq3 (allS (Or.inr hz_nm) all0)
    obtain ⟨tn, kn, Exn, Fvn, Fcn, Axn⟩ := Sq3
    have f255 : E0_ Z T252.heap ks := ((((((Ek2.ext E225).ext E229).wr W233).wr W238).wr W243).keep Kq3)
    have f256 : F0_ Z T252.heap ks (.ref s0) := ((((((Fp2.ext E225).ext E229).other W233 (Or.inl ne_ks_cn)).other W238 (Or.inl ne_ks_cn)).other W243 (Or.inl ne_ks_cn)).keep Kq3 (ninS ne_ks_nm nin0))
    have f257 : E1_ Z T252.heap s0 := (((((((Ex0.keep Kq2).ext E225).ext E229).wr W233).wr W238).wr W243).keep Kq3)
    have f258 : F6_ Z T252.heap s0 (.ref t0) := (((((((Fv0.keep Kq2 (ninS (Ne.symm ne_ks_s0) nin0)).ext E225).ext E229).other W233 (Or.inl ne_s0_cn)).other W238 (Or.inl ne_s0_cn)).other W243 (Or.inl ne_s0_cn)).keep Kq3 (ninS ne_s0_nm nin0))
    have f259 : F5_ Z T252.heap s0 (.int (own_co [pa, pb])) := (((((((Fc0.keep Kq2 (ninS (Ne.symm ne_ks_s0) nin0)).ext E225).ext E229).other W233 (Or.inl ne_s0_cn)).other W238 (Or.inl ne_s0_cn)).other W243 (Or.inl ne_s0_cn)).keep Kq3 (ninS ne_s0_nm nin0))
    have f260 : Yb Z T252.heap t0 k0 (Int32.ofNat (own_k [pa, pb] * [pa, pb].length)) (own_by [pa, pb]) := (((((((Ax0.keep Kq2 (ninS (Ne.symm ne_ks_t0) nin0)).ext E225).ext E229).other W233 ne_t0_cn).other W238 ne_t0_cn).other W243 ne_t0_cn).keep Kq3 (ninS ne_t0_nm nin0))
    have f261 : own_O Z n0 T252.heap := (f251.keep Kq3 (allS ge_nm all0))
    obtain ⟨cq262, kq262, q262a, q262b, q262c⟩ := isOf hZ38 rfl f255
    obtain ⟨_, _, ⟨T262, L262, k262, n262⟩, -, Xp262, hSp262, hgp262, ⟨Lc262, hQ262, l262, y262, z262⟩, st262⟩ := X252.virtualBackS hx (y := y0_) (z := y0_) hown38 (wm hw hZ38 140 rfl) (wm hw hZ38 141 rfl) (notFace_of_selects (args := #[]) (wm hw hZ38 143 rfl)) (wm hw hZ38 143 rfl) (wm hw hZ38 142 rfl) (by decide) (own_backJ (W := 0) (rmLK l Z a0 hw [] ks s0 t0 k0 pa pb nm tn kn [v10, v11, nd] G fv T252.heap T252.heap.size (Nat.le_refl _) rfl f255 f256 f257 f258 f259 f260 Exn Fvn Fcn Axn hpa.1 hpb.1 (own_three k10.1 k11.1 hnd.1) (own_tx1 (q0 := v10) (q1 := v11) (by show 2 ≤ 3; decide) (by show 3 ≤ 513; decide) (own_pair3 hnd.2) rfl rfl k10.2 k11.2) (Or.inl (by show 3 ≤ 8; decide)) hH43 hH45 hCW W0 (f261.up z253)) hZ38 (wd hw 144 rfl) (wd hw 8 rfl) (by decide) (by decide)) q262a q262c (g := (mkF m 276 #[(si p0), (si p1), (si p2), (si p3), (si pa), (si pb), (sr ks), (si na), (si nb), (si nd), (si v10), (si v11), (si 2), .unset, .unset, .unset] [(.ref nm), (.ref ks)])) rfl (by rw [hml]; rfl) (Steps.refl _) (argsL := [(.ref nm)]) (rest := []) (lenOf pd_58 rfl) rfl (by show 2 * 0 + _ ≤ _; exact Nat.le_of_eq rfl) (D at_276) (fun _ hwm => ⟨rfl, rfl, (own_IBwarm J1 hwm), (by decide : 11 + 15 ≤ _), (by decide : 3178 + 12556 ≤ _)⟩)
    dsimp only [Pt.U, Pt.locs, Pt.cells, Pt.slots] at Xp262 hSp262 hgp262 l262 y262 z262 st262 hQ262
    subst l262 y262 z262
    obtain ⟨X262, hS262, hZ262, hown262⟩ := rebS hS38 (Nat.le_trans (Nat.le_refl _) (Nat.le_trans (Nat.le_trans (Nat.le_trans (Nat.le_trans (Nat.le_trans E225.1 E229.1) (Keep.of_wr W233).1) (Keep.of_wr W238).1) (Keep.of_wr W243).1) Kq3.1)) Xp262 hSp262 hgp262 hZ38 hown38
    obtain ⟨got, rfl, N262q, Kq4, Sq4⟩ := hQ262
    have N262 := Fr.app N252 (own_frm z253 N262q)
    have z263 : n0 ≤ T262.heap.size := Nat.le_trans z253 Kq4.1
    have K264 : Keep h0 T262.heap [] := K254.trans Kq4 all0
    have go262 : Go p e below E0 T262 m 279 #[(si p0), (si p1), (si p2), (si p3), (si pa), (si pb), (sr ks), (si na), (si nb), (si nd), (si v10), (si v11), (si 2), .unset, .unset, .unset] [(.ref got)] := fun tgt kq => go252 tgt (st262.trans kq)
    obtain ⟨tg, kg, Exg, Fvg, Fcg, Axg⟩ := Sq4
    have go265 : Go p e below E0 T262 m 283 #[(si p0), (si p1), (si p2), (si p3), (si pa), (si pb), (sr ks), (si na), (si nb), (si nd), (si v10), (si v11), (si 2), (sr got), .unset, .unset] [(.int 8)] := fun tgt kq => go262 tgt (by
      refine XS.astore X262.here hx rfl (D at_279) rfl rfl (l' := #[(si p0), (si p1), (si p2), (si p3), (si pa), (si pb), (sr ks), (si na), (si nb), (si nd), (si v10), (si v11), (si 2), (sr got), .unset, .unset]) rfl ?_; refine XS.bipush X262.here hx rfl (D at_281) ?_; exact kq)
    obtain ⟨T266, h266, k266, X266, e266, E266, A266, st266⟩ := newP X262 hx hZ262 (wd hw 12 rfl) rfl (g := (mkF m 283 #[(si p0), (si p1), (si p2), (si p3), (si pa), (si pb), (sr ks), (si na), (si nb), (si nd), (si v10), (si v11), (si 2), (sr got), .unset, .unset] [(.int 8)])) rfl (D at_283) rfl (by decide) (cap := 8) (by decide) (by decide) (by decide) (by decide)
    obtain ⟨ea, g266⟩ : ∃ z, z = T262.heap.size := ⟨_, rfl⟩
    rw [← g266] at A266 st266
    have ne_ks_ea : ks ≠ ea := Nat.ne_of_lt (Nat.lt_of_lt_of_le (Nat.lt_of_lt_of_le A6.lt (Nat.le_trans (Nat.le_trans (Nat.le_trans (Nat.le_trans (Nat.le_trans (Nat.le_trans (Nat.le_trans (Nat.le_trans (Nat.le_trans (Nat.le_trans (Nat.le_trans (Nat.le_trans E10.1 E14.1) (Keep.of_wr W18).1) (Keep.of_wr W23).1) Kq1.1) Kq2.1) E225.1) E229.1) (Keep.of_wr W233).1) (Keep.of_wr W238).1) (Keep.of_wr W243).1) Kq3.1) Kq4.1)) (Nat.le_of_eq g266.symm))
    have ne_s0_ea : s0 ≠ ea := Nat.ne_of_lt (Nat.lt_of_lt_of_le (Nat.lt_of_lt_of_le Ex0.lt (Nat.le_trans (Nat.le_trans (Nat.le_trans (Nat.le_trans (Nat.le_trans (Nat.le_trans (Nat.le_trans Kq2.1 E225.1) E229.1) (Keep.of_wr W233).1) (Keep.of_wr W238).1) (Keep.of_wr W243).1) Kq3.1) Kq4.1)) (Nat.le_of_eq g266.symm))
    have ne_ca_ea : ca ≠ ea := Nat.ne_of_lt (Nat.lt_of_lt_of_le (Nat.lt_of_lt_of_le V14.lt (Nat.le_trans (Nat.le_trans (Nat.le_trans (Nat.le_trans (Nat.le_trans (Nat.le_trans (Nat.le_trans (Nat.le_trans (Nat.le_trans (Nat.le_trans (Keep.of_wr W18).1 (Keep.of_wr W23).1) Kq1.1) Kq2.1) E225.1) E229.1) (Keep.of_wr W233).1) (Keep.of_wr W238).1) (Keep.of_wr W243).1) Kq3.1) Kq4.1)) (Nat.le_of_eq g266.symm))
    have ne_t0_ea : t0 ≠ ea := Nat.ne_of_lt (Nat.lt_of_lt_of_le (Nat.lt_of_lt_of_le Ax0.lt (Nat.le_trans (Nat.le_trans (Nat.le_trans (Nat.le_trans (Nat.le_trans (Nat.le_trans (Nat.le_trans Kq2.1 E225.1) E229.1) (Keep.of_wr W233).1) (Keep.of_wr W238).1) (Keep.of_wr W243).1) Kq3.1) Kq4.1)) (Nat.le_of_eq g266.symm))
    have ne_nm_ea : nm ≠ ea := Nat.ne_of_lt (Nat.lt_of_lt_of_le (Nat.lt_of_lt_of_le Exn.lt Kq4.1) (Nat.le_of_eq g266.symm))
    have ne_cn_ea : cn ≠ ea := Nat.ne_of_lt (Nat.lt_of_lt_of_le (Nat.lt_of_lt_of_le V229.lt (Nat.le_trans (Nat.le_trans (Nat.le_trans (Nat.le_trans (Keep.of_wr W233).1 (Keep.of_wr W238).1) (Keep.of_wr W243).1) Kq3.1) Kq4.1)) (Nat.le_of_eq g266.symm))
    have ne_tn_ea : tn ≠ ea := Nat.ne_of_lt (Nat.lt_of_lt_of_le (Nat.lt_of_lt_of_le Axn.lt Kq4.1) (Nat.le_of_eq g266.symm))
    have ne_got_ea : got ≠ ea := Nat.ne_of_lt (Nat.lt_of_lt_of_le Exg.lt (Nat.le_of_eq g266.symm))
    have ne_tg_ea : tg ≠ ea := Nat.ne_of_lt (Nat.lt_of_lt_of_le Axg.lt (Nat.le_of_eq g266.symm))
    have ge_ea : n0 ≤ ea := Nat.le_trans z263 (Nat.le_of_eq g266.symm)
    have hz_ea : h0.size ≤ ea := Nat.le_trans K264.1 (Nat.le_of_eq g266.symm)
    have z267 : n0 ≤ h266.size := Nat.le_trans z263 E266.1
    have K268 : Keep h0 h266 [] := K264.ext E266
    have V266 : Yc Z h266 ea k266 (8 : Int32) [] := Arv.new A266 (by decide)
    have go266 : Go p e below E0 T266 m 285 #[(si p0), (si p1), (si p2), (si p3), (si pa), (si pb), (sr ks), (si na), (si nb), (si nd), (si v10), (si v11), (si 2), (sr got), .unset, .unset] [(.ref ea)] := fun a b => go265 a (st266 a b)
    have go269 : Go p e below E0 T266 m 289 #[(si p0), (si p1), (si p2), (si p3), (si pa), (si pb), (sr ks), (si na), (si nb), (si nd), (si v10), (si v11), (si 2), (sr got), .unset, .unset] [(.int pa), (.int 0), (.ref ea), (.ref ea)] := fun tgt kq => go266 tgt (by
      refine XS.dup X266.here hx rfl (D at_285) rfl rfl ?_; refine XS.iconst X266.here hx rfl (D at_286) ?_; refine XS.iload X266.here hx rfl (D at_287) rfl ?_; exact kq)
    obtain ⟨T270, h270, X270, e270, W270, A270, go270⟩ := own_sC X266 hx hZ262 e266 V266 (j := (0 : Int32)) rfl ⟨by decide, by decide⟩ go269 (D at_289)
    have z271 : n0 ≤ h270.size := Nat.le_trans z267 (Keep.of_wr W270).1
    have K272 : Keep h0 h270 [] := K268.wr W270 (Or.inr hz_ea)
    have N270 := Fr.snoc X270 N262 ge_ea
    have f273 : Yc Z h270 ea k266 (8 : Int32) [(.int (nar .char pa))] := A270
    have go274 : Go p e below E0 T270 m 294 #[(si p0), (si p1), (si p2), (si p3), (si pa), (si pb), (sr ks), (si na), (si nb), (si nd), (si v10), (si v11), (si 2), (sr got), .unset, .unset] [(.int pb), (.int 1), (.ref ea), (.ref ea)] := fun tgt kq => go270 tgt (by
      refine XS.dup X270.here hx rfl (D at_290) rfl rfl ?_; refine XS.iconst X270.here hx rfl (D at_291) ?_; refine XS.iload X270.here hx rfl (D at_292) rfl ?_; exact kq)
    obtain ⟨T275, h275, X275, e275, W275, A275, go275⟩ := own_sC X270 hx hZ262 e270 f273 (j := (1 : Int32)) rfl ⟨by decide, by decide⟩ go274 (D at_294)
    have z276 : n0 ≤ h275.size := Nat.le_trans z271 (Keep.of_wr W275).1
    have K277 : Keep h0 h275 [] := K272.wr W275 (Or.inr hz_ea)
    have N275 := Fr.snoc X275 N270 ge_ea
    have f278 : Yc Z h275 ea k266 (8 : Int32) [(.int (nar .char pa)), (.int (nar .char pb))] := A275
    have go279 : Go p e below E0 T275 m 299 #[(si p0), (si p1), (si p2), (si p3), (si pa), (si pb), (sr ks), (si na), (si nb), (si nd), (si v10), (si v11), (si 2), (sr got), .unset, .unset] [(.int 58), (.int 2), (.ref ea), (.ref ea)] := fun tgt kq => go275 tgt (by
      refine XS.dup X275.here hx rfl (D at_295) rfl rfl ?_; refine XS.iconst X275.here hx rfl (D at_296) ?_; refine XS.bipush X275.here hx rfl (D at_297) ?_; exact kq)
    obtain ⟨T280, h280, X280, e280, W280, A280, go280⟩ := own_sC X275 hx hZ262 e275 f278 (j := (2 : Int32)) rfl ⟨by decide, by decide⟩ go279 (D at_299)
    have z281 : n0 ≤ h280.size := Nat.le_trans z276 (Keep.of_wr W280).1
    have K282 : Keep h0 h280 [] := K277.wr W280 (Or.inr hz_ea)
    have N280 := Fr.snoc X280 N275 ge_ea
    have f283 : Yc Z h280 ea k266 (8 : Int32) [(.int (nar .char pa)), (.int (nar .char pb)), (.int (nar .char (58 : Int32)))] := A280
    have go284 : Go p e below E0 T280 m 304 #[(si p0), (si p1), (si p2), (si p3), (si pa), (si pb), (sr ks), (si na), (si nb), (si nd), (si v10), (si v11), (si 2), (sr got), .unset, .unset] [(.int 123), (.int 3), (.ref ea), (.ref ea)] := fun tgt kq => go280 tgt (by
      refine XS.dup X280.here hx rfl (D at_300) rfl rfl ?_; refine XS.iconst X280.here hx rfl (D at_301) ?_; refine XS.bipush X280.here hx rfl (D at_302) ?_; exact kq)
    obtain ⟨T285, h285, X285, e285, W285, A285, go285⟩ := own_sC X280 hx hZ262 e280 f283 (j := (3 : Int32)) rfl ⟨by decide, by decide⟩ go284 (D at_304)
    have z286 : n0 ≤ h285.size := Nat.le_trans z281 (Keep.of_wr W285).1
    have K287 : Keep h0 h285 [] := K282.wr W285 (Or.inr hz_ea)
    have N285 := Fr.snoc X285 N280 ge_ea
    have f288 : Yc Z h285 ea k266 (8 : Int32) [(.int (nar .char pa)), (.int (nar .char pb)), (.int (nar .char (58 : Int32))), (.int (nar .char (123 : Int32)))] := A285
    have go289 : Go p e below E0 T285 m 309 #[(si p0), (si p1), (si p2), (si p3), (si pa), (si pb), (sr ks), (si na), (si nb), (si nd), (si v10), (si v11), (si 2), (sr got), .unset, .unset] [(.int v10), (.int 4), (.ref ea), (.ref ea)] := fun tgt kq => go285 tgt (by
      refine XS.dup X285.here hx rfl (D at_305) rfl rfl ?_; refine XS.iconst X285.here hx rfl (D at_306) ?_; refine XS.iload X285.here hx rfl (D at_307) rfl ?_; exact kq)
    obtain ⟨T290, h290, X290, e290, W290, A290, go290⟩ := own_sC X285 hx hZ262 e285 f288 (j := (4 : Int32)) rfl ⟨by decide, by decide⟩ go289 (D at_309)
    have z291 : n0 ≤ h290.size := Nat.le_trans z286 (Keep.of_wr W290).1
    have K292 : Keep h0 h290 [] := K287.wr W290 (Or.inr hz_ea)
    have N290 := Fr.snoc X290 N285 ge_ea
    have f293 : Yc Z h290 ea k266 (8 : Int32) [(.int (nar .char pa)), (.int (nar .char pb)), (.int (nar .char (58 : Int32))), (.int (nar .char (123 : Int32))), (.int (nar .char v10))] := A290
    have go294 : Go p e below E0 T290 m 314 #[(si p0), (si p1), (si p2), (si p3), (si pa), (si pb), (sr ks), (si na), (si nb), (si nd), (si v10), (si v11), (si 2), (sr got), .unset, .unset] [(.int v11), (.int 5), (.ref ea), (.ref ea)] := fun tgt kq => go290 tgt (by
      refine XS.dup X290.here hx rfl (D at_310) rfl rfl ?_; refine XS.iconst X290.here hx rfl (D at_311) ?_; refine XS.iload X290.here hx rfl (D at_312) rfl ?_; exact kq)
    obtain ⟨T295, h295, X295, e295, W295, A295, go295⟩ := own_sC X290 hx hZ262 e290 f293 (j := (5 : Int32)) rfl ⟨by decide, by decide⟩ go294 (D at_314)
    have z296 : n0 ≤ h295.size := Nat.le_trans z291 (Keep.of_wr W295).1
    have K297 : Keep h0 h295 [] := K292.wr W295 (Or.inr hz_ea)
    have N295 := Fr.snoc X295 N290 ge_ea
    have f298 : Yc Z h295 ea k266 (8 : Int32) [(.int (nar .char pa)), (.int (nar .char pb)), (.int (nar .char (58 : Int32))), (.int (nar .char (123 : Int32))), (.int (nar .char v10)), (.int (nar .char v11))] := A295
    have go299 : Go p e below E0 T295 m 320 #[(si p0), (si p1), (si p2), (si p3), (si pa), (si pb), (sr ks), (si na), (si nb), (si nd), (si v10), (si v11), (si 2), (sr got), .unset, .unset] [(.int nd), (.int 6), (.ref ea), (.ref ea)] := fun tgt kq => go295 tgt (by
      refine XS.dup X295.here hx rfl (D at_315) rfl rfl ?_; refine XS.bipush X295.here hx rfl (D at_316) ?_; refine XS.iload X295.here hx rfl (D at_318) rfl ?_; exact kq)
    obtain ⟨T300, h300, X300, e300, W300, A300, go300⟩ := own_sC X295 hx hZ262 e295 f298 (j := (6 : Int32)) rfl ⟨by decide, by decide⟩ go299 (D at_320)
    have z301 : n0 ≤ h300.size := Nat.le_trans z296 (Keep.of_wr W300).1
    have K302 : Keep h0 h300 [] := K297.wr W300 (Or.inr hz_ea)
    have N300 := Fr.snoc X300 N295 ge_ea
    have f303 : Yc Z h300 ea k266 (8 : Int32) [(.int (nar .char pa)), (.int (nar .char pb)), (.int (nar .char (58 : Int32))), (.int (nar .char (123 : Int32))), (.int (nar .char v10)), (.int (nar .char v11)), (.int (nar .char nd))] := A300
    have go304 : Go p e below E0 T300 m 326 #[(si p0), (si p1), (si p2), (si p3), (si pa), (si pb), (sr ks), (si na), (si nb), (si nd), (si v10), (si v11), (si 2), (sr got), .unset, .unset] [(.int 125), (.int 7), (.ref ea), (.ref ea)] := fun tgt kq => go300 tgt (by
      refine XS.dup X300.here hx rfl (D at_321) rfl rfl ?_; refine XS.bipush X300.here hx rfl (D at_322) ?_; refine XS.bipush X300.here hx rfl (D at_324) ?_; exact kq)
    obtain ⟨T305, h305, X305, e305, W305, A305, go305⟩ := own_sC X300 hx hZ262 e300 f303 (j := (7 : Int32)) rfl ⟨by decide, by decide⟩ go304 (D at_326)
    have z306 : n0 ≤ h305.size := Nat.le_trans z301 (Keep.of_wr W305).1
    have K307 : Keep h0 h305 [] := K302.wr W305 (Or.inr hz_ea)
    have N305 := Fr.snoc X305 N300 ge_ea
    have f308 : Yc Z h305 ea k266 (8 : Int32) [(.int (nar .char pa)), (.int (nar .char pb)), (.int (nar .char (58 : Int32))), (.int (nar .char (123 : Int32))), (.int (nar .char v10)), (.int (nar .char v11)), (.int (nar .char nd)), (.int (nar .char (125 : Int32)))] := A305
    have go309 : Go p e below E0 T305 m 441 #[(si p0), (si p1), (si p2), (si p3), (si pa), (si pb), (sr ks), (si na), (si nb), (si nd), (si v10), (si v11), (si 2), (sr got), (sr ea), .unset] [(.ref got)] := fun tgt kq => go305 tgt (by
      refine XS.astore X305.here hx rfl (D at_327) rfl rfl (l' := #[(si p0), (si p1), (si p2), (si p3), (si pa), (si pb), (sr ks), (si na), (si nb), (si nd), (si v10), (si v11), (si 2), (sr got), (sr ea), .unset]) rfl ?_; refine XS.goto X305.here hx rfl (pc0 := 329) (pc' := 434) rfl (D at_329) (by decide) (by decide) ?_; refine XS.aload X305.here hx rfl (D at_434) rfl rfl ?_; refine XS.ifnullNo X305.here hx rfl (D at_436) rfl ?_; refine XS.aload X305.here hx rfl (D at_439) rfl rfl ?_; exact kq)
    obtain ⟨T310, h310, X310, e310, E310, A310, D310, -, st310⟩ := newO X305 hx hZ262 hown262 (wd hw 9 rfl) (wd hw 10 rfl) (wd hw 11 rfl) e305 (g := (mkF m 441 #[(si p0), (si p1), (si p2), (si p3), (si pa), (si pb), (sr ks), (si na), (si nb), (si nd), (si v10), (si v11), (si 2), (sr got), (sr ea), .unset] [(.ref got)])) rfl (D at_441) (by decide) (by decide)
    obtain ⟨s2, g310⟩ : ∃ z, z = h305.size := ⟨_, rfl⟩
    rw [← g310] at A310 D310 st310
    have ne_ks_s2 : ks ≠ s2 := Nat.ne_of_lt (Nat.lt_of_lt_of_le (Nat.lt_of_lt_of_le A6.lt (Nat.le_trans (Nat.le_trans (Nat.le_trans (Nat.le_trans (Nat.le_trans (Nat.le_trans (Nat.le_trans (Nat.le_trans (Nat.le_trans (Nat.le_trans (Nat.le_trans (Nat.le_trans (Nat.le_trans (Nat.le_trans (Nat.le_trans (Nat.le_trans (Nat.le_trans (Nat.le_trans (Nat.le_trans (Nat.le_trans (Nat.le_trans E10.1 E14.1) (Keep.of_wr W18).1) (Keep.of_wr W23).1) Kq1.1) Kq2.1) E225.1) E229.1) (Keep.of_wr W233).1) (Keep.of_wr W238).1) (Keep.of_wr W243).1) Kq3.1) Kq4.1) E266.1) (Keep.of_wr W270).1) (Keep.of_wr W275).1) (Keep.of_wr W280).1) (Keep.of_wr W285).1) (Keep.of_wr W290).1) (Keep.of_wr W295).1) (Keep.of_wr W300).1) (Keep.of_wr W305).1)) (Nat.le_of_eq g310.symm))
    have ne_s0_s2 : s0 ≠ s2 := Nat.ne_of_lt (Nat.lt_of_lt_of_le (Nat.lt_of_lt_of_le Ex0.lt (Nat.le_trans (Nat.le_trans (Nat.le_trans (Nat.le_trans (Nat.le_trans (Nat.le_trans (Nat.le_trans (Nat.le_trans (Nat.le_trans (Nat.le_trans (Nat.le_trans (Nat.le_trans (Nat.le_trans (Nat.le_trans (Nat.le_trans (Nat.le_trans Kq2.1 E225.1) E229.1) (Keep.of_wr W233).1) (Keep.of_wr W238).1) (Keep.of_wr W243).1) Kq3.1) Kq4.1) E266.1) (Keep.of_wr W270).1) (Keep.of_wr W275).1) (Keep.of_wr W280).1) (Keep.of_wr W285).1) (Keep.of_wr W290).1) (Keep.of_wr W295).1) (Keep.of_wr W300).1) (Keep.of_wr W305).1)) (Nat.le_of_eq g310.symm))
    have ne_ca_s2 : ca ≠ s2 := Nat.ne_of_lt (Nat.lt_of_lt_of_le (Nat.lt_of_lt_of_le V14.lt (Nat.le_trans (Nat.le_trans (Nat.le_trans (Nat.le_trans (Nat.le_trans (Nat.le_trans (Nat.le_trans (Nat.le_trans (Nat.le_trans (Nat.le_trans (Nat.le_trans (Nat.le_trans (Nat.le_trans (Nat.le_trans (Nat.le_trans (Nat.le_trans (Nat.le_trans (Nat.le_trans (Nat.le_trans (Keep.of_wr W18).1 (Keep.of_wr W23).1) Kq1.1) Kq2.1) E225.1) E229.1) (Keep.of_wr W233).1) (Keep.of_wr W238).1) (Keep.of_wr W243).1) Kq3.1) Kq4.1) E266.1) (Keep.of_wr W270).1) (Keep.of_wr W275).1) (Keep.of_wr W280).1) (Keep.of_wr W285).1) (Keep.of_wr W290).1) (Keep.of_wr W295).1) (Keep.of_wr W300).1) (Keep.of_wr W305).1)) (Nat.le_of_eq g310.symm))
    have ne_t0_s2 : t0 ≠ s2 := Nat.ne_of_lt (Nat.lt_of_lt_of_le (Nat.lt_of_lt_of_le Ax0.lt (Nat.le_trans (Nat.le_trans (Nat.le_trans (Nat.le_trans (Nat.le_trans (Nat.le_trans (Nat.le_trans (Nat.le_trans (Nat.le_trans (Nat.le_trans (Nat.le_trans (Nat.le_trans (Nat.le_trans (Nat.le_trans (Nat.le_trans (Nat.le_trans Kq2.1 E225.1) E229.1) (Keep.of_wr W233).1) (Keep.of_wr W238).1) (Keep.of_wr W243).1) Kq3.1) Kq4.1) E266.1) (Keep.of_wr W270).1) (Keep.of_wr W275).1) (Keep.of_wr W280).1) (Keep.of_wr W285).1) (Keep.of_wr W290).1) (Keep.of_wr W295).1) (Keep.of_wr W300).1) (Keep.of_wr W305).1)) (Nat.le_of_eq g310.symm))
    have ne_nm_s2 : nm ≠ s2 := Nat.ne_of_lt (Nat.lt_of_lt_of_le (Nat.lt_of_lt_of_le Exn.lt (Nat.le_trans (Nat.le_trans (Nat.le_trans (Nat.le_trans (Nat.le_trans (Nat.le_trans (Nat.le_trans (Nat.le_trans (Nat.le_trans Kq4.1 E266.1) (Keep.of_wr W270).1) (Keep.of_wr W275).1) (Keep.of_wr W280).1) (Keep.of_wr W285).1) (Keep.of_wr W290).1) (Keep.of_wr W295).1) (Keep.of_wr W300).1) (Keep.of_wr W305).1)) (Nat.le_of_eq g310.symm))
    have ne_cn_s2 : cn ≠ s2 := Nat.ne_of_lt (Nat.lt_of_lt_of_le (Nat.lt_of_lt_of_le V229.lt (Nat.le_trans (Nat.le_trans (Nat.le_trans (Nat.le_trans (Nat.le_trans (Nat.le_trans (Nat.le_trans (Nat.le_trans (Nat.le_trans (Nat.le_trans (Nat.le_trans (Nat.le_trans (Nat.le_trans (Keep.of_wr W233).1 (Keep.of_wr W238).1) (Keep.of_wr W243).1) Kq3.1) Kq4.1) E266.1) (Keep.of_wr W270).1) (Keep.of_wr W275).1) (Keep.of_wr W280).1) (Keep.of_wr W285).1) (Keep.of_wr W290).1) (Keep.of_wr W295).1) (Keep.of_wr W300).1) (Keep.of_wr W305).1)) (Nat.le_of_eq g310.symm))
    have ne_tn_s2 : tn ≠ s2 := Nat.ne_of_lt (Nat.lt_of_lt_of_le (Nat.lt_of_lt_of_le Axn.lt (Nat.le_trans (Nat.le_trans (Nat.le_trans (Nat.le_trans (Nat.le_trans (Nat.le_trans (Nat.le_trans (Nat.le_trans (Nat.le_trans Kq4.1 E266.1) (Keep.of_wr W270).1) (Keep.of_wr W275).1) (Keep.of_wr W280).1) (Keep.of_wr W285).1) (Keep.of_wr W290).1) (Keep.of_wr W295).1) (Keep.of_wr W300).1) (Keep.of_wr W305).1)) (Nat.le_of_eq g310.symm))
    have ne_got_s2 : got ≠ s2 := Nat.ne_of_lt (Nat.lt_of_lt_of_le (Nat.lt_of_lt_of_le Exg.lt (Nat.le_trans (Nat.le_trans (Nat.le_trans (Nat.le_trans (Nat.le_trans (Nat.le_trans (Nat.le_trans (Nat.le_trans E266.1 (Keep.of_wr W270).1) (Keep.of_wr W275).1) (Keep.of_wr W280).1) (Keep.of_wr W285).1) (Keep.of_wr W290).1) (Keep.of_wr W295).1) (Keep.of_wr W300).1) (Keep.of_wr W305).1)) (Nat.le_of_eq g310.symm))
    have ne_tg_s2 : tg ≠ s2 := Nat.ne_of_lt (Nat.lt_of_lt_of_le (Nat.lt_of_lt_of_le Axg.lt (Nat.le_trans (Nat.le_trans (Nat.le_trans (Nat.le_trans (Nat.le_trans (Nat.le_trans (Nat.le_trans (Nat.le_trans E266.1 (Keep.of_wr W270).1) (Keep.of_wr W275).1) (Keep.of_wr W280).1) (Keep.of_wr W285).1) (Keep.of_wr W290).1) (Keep.of_wr W295).1) (Keep.of_wr W300).1) (Keep.of_wr W305).1)) (Nat.le_of_eq g310.symm))
    have ne_ea_s2 : ea ≠ s2 := Nat.ne_of_lt (Nat.lt_of_lt_of_le (Nat.lt_of_lt_of_le V266.lt (Nat.le_trans (Nat.le_trans (Nat.le_trans (Nat.le_trans (Nat.le_trans (Nat.le_trans (Nat.le_trans (Keep.of_wr W270).1 (Keep.of_wr W275).1) (Keep.of_wr W280).1) (Keep.of_wr W285).1) (Keep.of_wr W290).1) (Keep.of_wr W295).1) (Keep.of_wr W300).1) (Keep.of_wr W305).1)) (Nat.le_of_eq g310.symm))
    have ge_s2 : n0 ≤ s2 := Nat.le_trans z306 (Nat.le_of_eq g310.symm)
    have hz_s2 : h0.size ≤ s2 := Nat.le_trans K307.1 (Nat.le_of_eq g310.symm)
    have z311 : n0 ≤ h310.size := Nat.le_trans z306 E310.1
    have K312 : Keep h0 h310 [] := K307.ext E310
    have Fcoder_s2 : F5_ Z h310 s2 (.int (0 : Int32)) := D310 (Or.inr (wd hw 36 rfl)) (ty := .byte) (by decide)
    have Fvalue_s2 : F6_ Z h310 s2 .null := D310 (Or.inr (wd hw 38 rfl)) (ty := (.array .byte)) (by decide)
    have go310 : Go p e below E0 T310 m 444 #[(si p0), (si p1), (si p2), (si p3), (si pa), (si pb), (sr ks), (si na), (si nb), (si nd), (si v10), (si v11), (si 2), (sr got), (sr ea), .unset] [(.ref s2), (.ref got)] := fun a b => go309 a (st310 a b)
    have f313 : Yc Z h310 ea k266 (8 : Int32) [(.int (nar .char pa)), (.int (nar .char pb)), (.int (nar .char (58 : Int32))), (.int (nar .char (123 : Int32))), (.int (nar .char v10)), (.int (nar .char v11)), (.int (nar .char nd)), (.int (nar .char (125 : Int32)))] := (f308.ext E310)
    have Ac314 : Yc Z h310 ea k266 (Int32.ofNat ([pa, pb] ++ ([58, 123] : List Int32) ++ [v10, v11, nd] ++ ([125] : List Int32)).length) (([pa, pb] ++ ([58, 123] : List Int32) ++ [v10, v11, nd] ++ ([125] : List Int32)).map Value.int) := by have q := f313; rw [n_pa, n_pb, n_58, n_123, n_v10, n_v11, n_nd, n_125] at q; exact q
    have f315 : own_O Z n0 h310 := (((((((((((f261.keep Kq4 all0).ext E266).wr W270 ge_ea).wr W275 ge_ea).wr W280 ge_ea).wr W285 ge_ea).wr W290 ge_ea).wr W295 ge_ea).wr W300 ge_ea).wr W305 ge_ea).ext E310)
    have go316 : Go p e below E0 T310 m 447 #[(si p0), (si p1), (si p2), (si p3), (si pa), (si pb), (sr ks), (si na), (si nb), (si nd), (si v10), (si v11), (si 2), (sr got), (sr ea), .unset] [(.ref ea), (.ref s2), (.ref s2), (.ref got)] := fun tgt kq => go310 tgt (by
      refine XS.dup X310.here hx rfl (D at_444) rfl rfl ?_; refine XS.aload X310.here hx rfl (D at_445) rfl rfl ?_; exact kq)
    obtain ⟨_, T317, L317, X317, hQ317, go317⟩ := own_cI X310 hx hZ262 hown262 (wd hw 13 rfl) (wd hw 14 rfl) (wd hw 11 rfl) (wd hw 15 rfl) rfl (by decide) (W := 2) (rmN520 l Z a0 hw [] s2 ea k266 ([pa, pb] ++ ([58, 123] : List Int32) ++ [v10, v11, nd] ++ ([125] : List Int32)) G fv h310 n0 z311 A310 ge_s2 Fvalue_s2 Fcoder_s2 Ac314 (by show 8 ≤ 520; decide) (by show 1 ≤ 8; decide) (own_allapp (own_allapp (own_allapp (own_pair hpa.1 hpb.1) (own_pair own_wf58 own_wf123)) (own_three k10.1 k11.1 hnd.1)) (own_allcons own_wf125 own_allnil)) W0 f315) (by decide) (by decide) e310 (by decide) (by decide) go316 hml.symm (argsL := [(.ref ea)]) (rest := [(.ref s2), (.ref got)]) (lenOf pd_56 rfl) rfl rfl rfl (D at_447)
    obtain ⟨rfl, N317q, Kq5, Sq5⟩ := hQ317
    have N317 := Fr.app N305 N317q
    have z318 : n0 ≤ T317.heap.size := Nat.le_trans z311 Kq5.1
    have K319 : Keep h0 T317.heap [] := K312.trans Kq5 (allS (Or.inr hz_s2) all0)
    obtain ⟨t5, kq5, Ex5, Fv5, Fc5, Ax5⟩ := Sq5
    have f320 : E1_ Z T317.heap got := (((((((((((Exg.ext E266).wr W270).wr W275).wr W280).wr W285).wr W290).wr W295).wr W300).wr W305).ext E310).keep Kq5)
    have f321 : F6_ Z T317.heap got (.ref tg) := (((((((((((Fvg.ext E266).other W270 (Or.inl ne_got_ea)).other W275 (Or.inl ne_got_ea)).other W280 (Or.inl ne_got_ea)).other W285 (Or.inl ne_got_ea)).other W290 (Or.inl ne_got_ea)).other W295 (Or.inl ne_got_ea)).other W300 (Or.inl ne_got_ea)).other W305 (Or.inl ne_got_ea)).ext E310).keep Kq5 (ninS ne_got_s2 nin0))
    have f322 : F5_ Z T317.heap got (.int (own_co ([pa, pb] ++ ([58, 123] : List Int32) ++ [v10, v11, nd] ++ ([125] : List Int32)))) := (((((((((((Fcg.ext E266).other W270 (Or.inl ne_got_ea)).other W275 (Or.inl ne_got_ea)).other W280 (Or.inl ne_got_ea)).other W285 (Or.inl ne_got_ea)).other W290 (Or.inl ne_got_ea)).other W295 (Or.inl ne_got_ea)).other W300 (Or.inl ne_got_ea)).other W305 (Or.inl ne_got_ea)).ext E310).keep Kq5 (ninS ne_got_s2 nin0))
    have f323 : Yb Z T317.heap tg kg (Int32.ofNat (own_k ([pa, pb] ++ ([58, 123] : List Int32) ++ [v10, v11, nd] ++ ([125] : List Int32)) * ([pa, pb] ++ ([58, 123] : List Int32) ++ [v10, v11, nd] ++ ([125] : List Int32)).length)) (own_by ([pa, pb] ++ ([58, 123] : List Int32) ++ [v10, v11, nd] ++ ([125] : List Int32))) := (((((((((((Axg.ext E266).other W270 ne_tg_ea).other W275 ne_tg_ea).other W280 ne_tg_ea).other W285 ne_tg_ea).other W290 ne_tg_ea).other W295 ne_tg_ea).other W300 ne_tg_ea).other W305 ne_tg_ea).ext E310).keep Kq5 (ninS ne_tg_s2 nin0))
    have f324 : own_O Z n0 T317.heap := (f315.keep Kq5 (allS ge_s2 all0))
    obtain ⟨_, T325, L325, X325, hQ325, go325⟩ := own_cV X317 hx hZ262 hown262 (wd hw 256 rfl) (wd hw 257 rfl) (wd hw 259 rfl) (wd hw 258 rfl) (wd hw 11 rfl) (wd hw 260 rfl) (by decide) (W := 0) (rmEQ l Z a0 hw [] got tg kg s2 t5 kq5 ([pa, pb] ++ ([58, 123] : List Int32) ++ [v10, v11, nd] ++ ([125] : List Int32)) G fv T317.heap n0 z318 f320 f321 f322 f323 Ex5 Fv5 Fc5 Ax5 ne_got_s2 (by show 8 ≤ 520; decide) W0 f324) (by decide) (by decide) rfl (by decide) (by decide) f320 go317 hml.symm (argsL := [(.ref s2)]) (rest := []) (lenOf pd_59 rfl) rfl rfl rfl (D at_450)
    obtain ⟨rfl, N325q, Kq6⟩ := hQ325
    have N325 := Fr.app N317 N325q
    have z326 : n0 ≤ T325.heap.size := Nat.le_trans z318 Kq6.1
    have K327 : Keep h0 T325.heap [] := K319.trans Kq6 all0
    have go328 : Go p e below E0 T325 m 461 #[(si p0), (si p1), (si p2), (si p3), (si pa), (si pb), (sr ks), (si na), (si nb), (si nd), (si v10), (si v11), (si 2), (sr got), (sr ea), .unset] [(.int 1)] := fun tgt kq => go325 tgt (by
      refine XS.ifNo X325.here hx rfl (D at_453) rfl ((if0 _ _).trans (feq (by decide)).1) ?_; refine XS.iconst X325.here hx rfl (D at_456) ?_; refine XS.goto X325.here hx rfl (pc0 := 457) (pc' := 461) rfl (D at_457) (by decide) (by decide) ?_; exact kq)
    obtain ⟨fs, hr, hrun, hended, hW⟩ := X325.leaveW hS262 (Nat.le_trans (Nat.le_refl _) (Nat.le_trans (Nat.le_trans (Nat.le_trans (Nat.le_trans (Nat.le_trans (Nat.le_trans (Nat.le_trans (Nat.le_trans (Nat.le_trans (Nat.le_trans (Nat.le_trans E266.1 (Keep.of_wr W270).1) (Keep.of_wr W275).1) (Keep.of_wr W280).1) (Keep.of_wr W285).1) (Keep.of_wr W290).1) (Keep.of_wr W295).1) (Keep.of_wr W300).1) (Keep.of_wr W305).1) E310.1) Kq5.1) Kq6.1)) (v := some (.int (1 : Int32))) (fun h => by rw [Bd.returns] at h; cases h)
    refine ⟨_, _, go328 _ ?_, hrun, hended, _, _, rfl, ?_, hW.1, hW.2.1, hW.2.2.1, hW.2.2.2.mono (by decide) (by decide)⟩
    · exact retN X325 hx (t := .boolean) Bd.returns (by simp) (D at_461) hr
    · show QL Z p0 p1 p2 p3 G fv h0 n0 _ T325.heap _ T325.vm
      exact ⟨rfl, N325⟩
  · have go329 : Go p e below E0 T46 m 335 #[(si p0), (si p1), (si p2), (si p3), (si pa), (si pb), (sr ks), (si na), (si nb), (si nd), (si v10), (si v11), (si 3), .unset, .unset, .unset] [(.int 513)] := fun tgt kq => go49 tgt (by
      refine XS.iload X46.here hx rfl (D at_98) rfl ?_; refine XS.ifYes X46.here hx rfl (pc0 := 100) (pc' := 154) rfl (D at_100) rfl ((if0 _ _).trans (feq (by decide)).2) (by decide) (by decide) ?_; refine XS.iload X46.here hx rfl (D at_154) rfl ?_; refine XS.iconst X46.here hx rfl (D at_156) ?_; refine XS.icmpYes X46.here hx rfl (pc0 := 157) (pc' := 243) rfl (D at_157) rfl (feq (by decide)).2 (by decide) (by decide) ?_; refine XS.iload X46.here hx rfl (D at_243) rfl ?_; refine XS.iconst X46.here hx rfl (D at_245) ?_; refine XS.icmpYes X46.here hx rfl (pc0 := 246) (pc' := 332) rfl (D at_246) rfl (feq (by decide)).2 (by decide) (by decide) ?_; refine XS.sipush X46.here hx rfl (D at_332) ?_; exact kq)
    obtain ⟨T330, h330, k330, X330, e330, E330, A330, st330⟩ := newP X46 hx hZ38 (wd hw 12 rfl) e46 (g := (mkF m 335 #[(si p0), (si p1), (si p2), (si p3), (si pa), (si pb), (sr ks), (si na), (si nb), (si nd), (si v10), (si v11), (si 3), .unset, .unset, .unset] [(.int 513)])) rfl (D at_335) rfl (by decide) (cap := 513) (by decide) (by decide) (by decide) (by decide)
    obtain ⟨cn, g330⟩ : ∃ z, z = T38.heap.size := ⟨_, rfl⟩
    rw [← g330] at A330 st330
    have ne_ks_cn : ks ≠ cn := Nat.ne_of_lt (Nat.lt_of_lt_of_le (Nat.lt_of_lt_of_le A6.lt (Nat.le_trans (Nat.le_trans (Nat.le_trans (Nat.le_trans (Nat.le_trans E10.1 E14.1) (Keep.of_wr W18).1) (Keep.of_wr W23).1) Kq1.1) Kq2.1)) (Nat.le_of_eq g330.symm))
    have ne_s0_cn : s0 ≠ cn := Nat.ne_of_lt (Nat.lt_of_lt_of_le (Nat.lt_of_lt_of_le Ex0.lt Kq2.1) (Nat.le_of_eq g330.symm))
    have ne_ca_cn : ca ≠ cn := Nat.ne_of_lt (Nat.lt_of_lt_of_le (Nat.lt_of_lt_of_le V14.lt (Nat.le_trans (Nat.le_trans (Nat.le_trans (Keep.of_wr W18).1 (Keep.of_wr W23).1) Kq1.1) Kq2.1)) (Nat.le_of_eq g330.symm))
    have ne_t0_cn : t0 ≠ cn := Nat.ne_of_lt (Nat.lt_of_lt_of_le (Nat.lt_of_lt_of_le Ax0.lt Kq2.1) (Nat.le_of_eq g330.symm))
    have ge_cn : n0 ≤ cn := Nat.le_trans z39 (Nat.le_of_eq g330.symm)
    have hz_cn : h0.size ≤ cn := Nat.le_trans K40.1 (Nat.le_of_eq g330.symm)
    have z331 : n0 ≤ h330.size := Nat.le_trans z39 E330.1
    have K332 : Keep h0 h330 [] := K40.ext E330
    have V330 : Yc Z h330 cn k330 (513 : Int32) [] := Arv.new A330 (by decide)
    have go330 : Go p e below E0 T330 m 337 #[(si p0), (si p1), (si p2), (si p3), (si pa), (si pb), (sr ks), (si na), (si nb), (si nd), (si v10), (si v11), (si 3), .unset, .unset, .unset] [(.ref cn)] := fun a b => go329 a (st330 a b)
    have go333 : Go p e below E0 T330 m 344 #[(si p0), (si p1), (si p2), (si p3), (si pa), (si pb), (sr ks), (si na), (si nb), (si nd), (si v10), (si v11), (si 3), .unset, .unset, (sr cn)] [(.int v10), (.int 0), (.ref cn)] := fun tgt kq => go330 tgt (by
      refine XS.astore X330.here hx rfl (D at_337) rfl rfl (l' := #[(si p0), (si p1), (si p2), (si p3), (si pa), (si pb), (sr ks), (si na), (si nb), (si nd), (si v10), (si v11), (si 3), .unset, .unset, (sr cn)]) rfl ?_; refine XS.aload X330.here hx rfl (D at_339) rfl rfl ?_; refine XS.iconst X330.here hx rfl (D at_341) ?_; refine XS.iload X330.here hx rfl (D at_342) rfl ?_; exact kq)
    obtain ⟨T334, h334, X334, e334, W334, A334, go334⟩ := own_sC X330 hx hZ38 e330 V330 (j := (0 : Int32)) rfl ⟨by decide, by decide⟩ go333 (D at_344)
    have z335 : n0 ≤ h334.size := Nat.le_trans z331 (Keep.of_wr W334).1
    have K336 : Keep h0 h334 [] := K332.wr W334 (Or.inr hz_cn)
    have N334 := Fr.snoc X334 N46 ge_cn
    have f337 : Yc Z h334 cn k330 (513 : Int32) [(.int (nar .char v10))] := A334
    have go338 : Go p e below E0 T334 m 350 #[(si p0), (si p1), (si p2), (si p3), (si pa), (si pb), (sr ks), (si na), (si nb), (si nd), (si v10), (si v11), (si 3), .unset, .unset, (sr cn)] [(.int v11), (.int 1), (.ref cn)] := fun tgt kq => go334 tgt (by
      refine XS.aload X334.here hx rfl (D at_345) rfl rfl ?_; refine XS.iconst X334.here hx rfl (D at_347) ?_; refine XS.iload X334.here hx rfl (D at_348) rfl ?_; exact kq)
    obtain ⟨T339, h339, X339, e339, W339, A339, go339⟩ := own_sC X334 hx hZ38 e334 f337 (j := (1 : Int32)) rfl ⟨by decide, by decide⟩ go338 (D at_350)
    have z340 : n0 ≤ h339.size := Nat.le_trans z335 (Keep.of_wr W339).1
    have K341 : Keep h0 h339 [] := K336.wr W339 (Or.inr hz_cn)
    have N339 := Fr.snoc X339 N334 ge_cn
    have f342 : Yc Z h339 cn k330 (513 : Int32) [(.int (nar .char v10)), (.int (nar .char v11))] := A339
    have go343 : Go p e below E0 T339 m 358 #[(si p0), (si p1), (si p2), (si p3), (si pa), (si pb), (sr ks), (si na), (si nb), (si nd), (si v10), (si v11), (si 3), .unset, .unset, (sr cn)] [(.int na), (.int 512), (.ref cn)] := fun tgt kq => go339 tgt (by
      refine XS.aload X339.here hx rfl (D at_351) rfl rfl ?_; refine XS.sipush X339.here hx rfl (D at_353) ?_; refine XS.iload X339.here hx rfl (D at_356) rfl ?_; exact kq)
    have p344 : Yc Z h339 cn k330 (513 : Int32) ([(.int (nar .char v10)), (.int (nar .char v11))] ++ List.replicate 511 (.int (0 : Int32))) := f342.pad (pad_rep [(.int (nar .char v10)), (.int (nar .char v11))] (.int (0 : Int32)) 511)
    obtain ⟨c344, Ar344, q344, S344, M344, Hh344, G344⟩ := id p344
    obtain ⟨T344, h344, X344, e344, W344, st344⟩ := stC X339 hx hZ38 e339 Ar344 (j := (512 : Int32)) (inb_of S344 ⟨by decide, by decide⟩) (g := (mkF m 358 #[(si p0), (si p1), (si p2), (si p3), (si pa), (si pb), (sr ks), (si na), (si nb), (si nd), (si v10), (si v11), (si 3), .unset, .unset, (sr cn)] [(.int na), (.int 512), (.ref cn)])) rfl rfl (D at_358)
    have z345 : n0 ≤ h344.size := Nat.le_trans z340 (Keep.of_wr W344).1
    have K346 : Keep h0 h344 [] := K341.wr W344 (Or.inr hz_cn)
    have N344 := Fr.snoc X344 N339 ge_cn
    have f347 : Yc Z h344 cn k330 (513 : Int32) ([(.int (nar .char v10)), (.int (nar .char v11))] ++ List.replicate 510 (.int (0 : Int32)) ++ [(.int (nar .char na))]) := (by have e : (([(Value.int (nar .char v10)), (Value.int (nar .char v11))] : List Value) ++ List.replicate 511 (Value.int (0 : Int32))).set 512 (Value.int (nar .char na)) = (([(Value.int (nar .char v10)), (Value.int (nar .char v11))] ++ List.replicate 510 (Value.int (0 : Int32)) ++ [(Value.int (nar .char na))]) : List Value) := own_far ([(Value.int (nar .char v10)), (Value.int (nar .char v11))] : List Value) (Value.int (0 : Int32)) (Value.int (nar .char na)) 510; have q := Arv.set Ar344 q344 S344 M344 Hh344 G344 (fits_nar_char _) W344 512 (by decide) (by rw [List.length_append, List.length_replicate]; show 512 < 2 + 511; decide); rw [e] at q; exact q)
    have go344 : Go p e below E0 T344 m 359 #[(si p0), (si p1), (si p2), (si p3), (si pa), (si pb), (sr ks), (si na), (si nb), (si nd), (si v10), (si v11), (si 3), .unset, .unset, (sr cn)] [] := fun a b => go343 a (st344 a b)
    have go348 : Go p e below E0 T344 m 361 #[(si p0), (si p1), (si p2), (si p3), (si pa), (si pb), (sr ks), (si na), (si nb), (si nd), (si v10), (si v11), (si 3), .unset, .unset, (sr cn)] [(.ref ks)] := fun tgt kq => go344 tgt (by
      refine XS.aload X344.here hx rfl (D at_359) rfl rfl ?_; exact kq)
    obtain ⟨T349, h349, X349, e349, E349, A349, D349, -, st349⟩ := newO X344 hx hZ38 hown38 (wd hw 9 rfl) (wd hw 10 rfl) (wd hw 11 rfl) e344 (g := (mkF m 361 #[(si p0), (si p1), (si p2), (si p3), (si pa), (si pb), (sr ks), (si na), (si nb), (si nd), (si v10), (si v11), (si 3), .unset, .unset, (sr cn)] [(.ref ks)])) rfl (D at_361) (by decide) (by decide)
    obtain ⟨nm, g349⟩ : ∃ z, z = h344.size := ⟨_, rfl⟩
    rw [← g349] at A349 D349 st349
    have ne_ks_nm : ks ≠ nm := Nat.ne_of_lt (Nat.lt_of_lt_of_le (Nat.lt_of_lt_of_le A6.lt (Nat.le_trans (Nat.le_trans (Nat.le_trans (Nat.le_trans (Nat.le_trans (Nat.le_trans (Nat.le_trans (Nat.le_trans (Nat.le_trans E10.1 E14.1) (Keep.of_wr W18).1) (Keep.of_wr W23).1) Kq1.1) Kq2.1) E330.1) (Keep.of_wr W334).1) (Keep.of_wr W339).1) (Keep.of_wr W344).1)) (Nat.le_of_eq g349.symm))
    have ne_s0_nm : s0 ≠ nm := Nat.ne_of_lt (Nat.lt_of_lt_of_le (Nat.lt_of_lt_of_le Ex0.lt (Nat.le_trans (Nat.le_trans (Nat.le_trans (Nat.le_trans Kq2.1 E330.1) (Keep.of_wr W334).1) (Keep.of_wr W339).1) (Keep.of_wr W344).1)) (Nat.le_of_eq g349.symm))
    have ne_ca_nm : ca ≠ nm := Nat.ne_of_lt (Nat.lt_of_lt_of_le (Nat.lt_of_lt_of_le V14.lt (Nat.le_trans (Nat.le_trans (Nat.le_trans (Nat.le_trans (Nat.le_trans (Nat.le_trans (Nat.le_trans (Keep.of_wr W18).1 (Keep.of_wr W23).1) Kq1.1) Kq2.1) E330.1) (Keep.of_wr W334).1) (Keep.of_wr W339).1) (Keep.of_wr W344).1)) (Nat.le_of_eq g349.symm))
    have ne_t0_nm : t0 ≠ nm := Nat.ne_of_lt (Nat.lt_of_lt_of_le (Nat.lt_of_lt_of_le Ax0.lt (Nat.le_trans (Nat.le_trans (Nat.le_trans (Nat.le_trans Kq2.1 E330.1) (Keep.of_wr W334).1) (Keep.of_wr W339).1) (Keep.of_wr W344).1)) (Nat.le_of_eq g349.symm))
    have ne_cn_nm : cn ≠ nm := Nat.ne_of_lt (Nat.lt_of_lt_of_le (Nat.lt_of_lt_of_le V330.lt (Nat.le_trans (Nat.le_trans (Keep.of_wr W334).1 (Keep.of_wr W339).1) (Keep.of_wr W344).1)) (Nat.le_of_eq g349.symm))
    have ge_nm : n0 ≤ nm := Nat.le_trans z345 (Nat.le_of_eq g349.symm)
    have hz_nm : h0.size ≤ nm := Nat.le_trans K346.1 (Nat.le_of_eq g349.symm)
    have z350 : n0 ≤ h349.size := Nat.le_trans z345 E349.1
    have K351 : Keep h0 h349 [] := K346.ext E349
    have Fcoder_nm : F5_ Z h349 nm (.int (0 : Int32)) := D349 (Or.inr (wd hw 36 rfl)) (ty := .byte) (by decide)
    have Fvalue_nm : F6_ Z h349 nm .null := D349 (Or.inr (wd hw 38 rfl)) (ty := (.array .byte)) (by decide)
    have go349 : Go p e below E0 T349 m 364 #[(si p0), (si p1), (si p2), (si p3), (si pa), (si pb), (sr ks), (si na), (si nb), (si nd), (si v10), (si v11), (si 3), .unset, .unset, (sr cn)] [(.ref nm), (.ref ks)] := fun a b => go348 a (st349 a b)
    have f352 : Yc Z h349 cn k330 (513 : Int32) ([(.int (nar .char v10)), (.int (nar .char v11))] ++ List.replicate 510 (.int (0 : Int32)) ++ [(.int (nar .char na))]) := (f347.ext E349)
    have Acn : Yc Z h349 cn k330 (Int32.ofNat (own_n3 v10 v11 na).length) ((own_n3 v10 v11 na).map Value.int) := by have q := f352; rw [n_v10, n_v11, n_na] at q; rw [own_n3_len, own_n3_map]; exact q
    have f353 : own_O Z n0 h349 := ((((((f37.keep Kq2 (allS ge_ks all0)).ext E330).wr W334 ge_cn).wr W339 ge_cn).wr W344 ge_cn).ext E349)
    have go354 : Go p e below E0 T349 m 367 #[(si p0), (si p1), (si p2), (si p3), (si pa), (si pb), (sr ks), (si na), (si nb), (si nd), (si v10), (si v11), (si 3), .unset, .unset, (sr cn)] [(.ref cn), (.ref nm), (.ref nm), (.ref ks)] := fun tgt kq => go349 tgt (by
      refine XS.dup X349.here hx rfl (D at_364) rfl rfl ?_; refine XS.aload X349.here hx rfl (D at_365) rfl rfl ?_; exact kq)
    obtain ⟨_, T355, L355, X355, hQ355, go355⟩ := own_cI X349 hx hZ38 hown38 (wd hw 13 rfl) (wd hw 14 rfl) (wd hw 11 rfl) (wd hw 15 rfl) rfl (by decide) (W := 2) (rmN520 l Z a0 hw [] nm cn k330 (own_n3 v10 v11 na) G fv h349 n0 z350 A349 ge_nm Fvalue_nm Fcoder_nm Acn (by rw [own_n3_len]; decide) (by rw [own_n3_len]; decide) (own_n3_ch k10.1 k11.1 hna.1) W0 f353) (by decide) (by decide) e349 (by decide) (by decide) go354 hml.symm (argsL := [(.ref cn)]) (rest := [(.ref nm), (.ref ks)]) (lenOf pd_56 rfl) rfl rfl rfl (D at_367)
    obtain ⟨rfl, N355q, Kq3, Sq3⟩ := hQ355
    have N355 := Fr.app N344 N355q
    have z356 : n0 ≤ T355.heap.size := Nat.le_trans z350 Kq3.1
    have K357 : Keep h0 T355.heap [] := K351.trans Kq3 (allS (Or.inr hz_nm) all0)
    obtain ⟨tn, kn, Exn, Fvn, Fcn, Axn⟩ := Sq3
    have f358 : E0_ Z T355.heap ks := ((((((Ek2.ext E330).wr W334).wr W339).wr W344).ext E349).keep Kq3)
    have f359 : F0_ Z T355.heap ks (.ref s0) := ((((((Fp2.ext E330).other W334 (Or.inl ne_ks_cn)).other W339 (Or.inl ne_ks_cn)).other W344 (Or.inl ne_ks_cn)).ext E349).keep Kq3 (ninS ne_ks_nm nin0))
    have f360 : E1_ Z T355.heap s0 := (((((((Ex0.keep Kq2).ext E330).wr W334).wr W339).wr W344).ext E349).keep Kq3)
    have f361 : F6_ Z T355.heap s0 (.ref t0) := (((((((Fv0.keep Kq2 (ninS (Ne.symm ne_ks_s0) nin0)).ext E330).other W334 (Or.inl ne_s0_cn)).other W339 (Or.inl ne_s0_cn)).other W344 (Or.inl ne_s0_cn)).ext E349).keep Kq3 (ninS ne_s0_nm nin0))
    have f362 : F5_ Z T355.heap s0 (.int (own_co [pa, pb])) := (((((((Fc0.keep Kq2 (ninS (Ne.symm ne_ks_s0) nin0)).ext E330).other W334 (Or.inl ne_s0_cn)).other W339 (Or.inl ne_s0_cn)).other W344 (Or.inl ne_s0_cn)).ext E349).keep Kq3 (ninS ne_s0_nm nin0))
    have f363 : Yb Z T355.heap t0 k0 (Int32.ofNat (own_k [pa, pb] * [pa, pb].length)) (own_by [pa, pb]) := (((((((Ax0.keep Kq2 (ninS (Ne.symm ne_ks_t0) nin0)).ext E330).other W334 ne_t0_cn).other W339 ne_t0_cn).other W344 ne_t0_cn).ext E349).keep Kq3 (ninS ne_t0_nm nin0))
    have f364 : own_O Z n0 T355.heap := (f353.keep Kq3 (allS ge_nm all0))
    obtain ⟨cq365, kq365, q365a, q365b, q365c⟩ := isOf hZ38 rfl f358
    obtain ⟨_, _, ⟨T365, L365, k365, n365⟩, -, Xp365, hSp365, hgp365, ⟨Lc365, hQ365, l365, y365, z365⟩, st365⟩ := X355.virtualBackS hx (y := y0_) (z := y0_) hown38 (wm hw hZ38 140 rfl) (wm hw hZ38 141 rfl) (notFace_of_selects (args := #[]) (wm hw hZ38 143 rfl)) (wm hw hZ38 143 rfl) (wm hw hZ38 142 rfl) (by decide) (own_backJ (W := 0) (rmLK l Z a0 hw [] ks s0 t0 k0 pa pb nm tn kn (own_n3 v10 v11 na) G fv T355.heap T355.heap.size (Nat.le_refl _) rfl f358 f359 f360 f361 f362 f363 Exn Fvn Fcn Axn hpa.1 hpb.1 (own_n3_ch k10.1 k11.1 hna.1) (own_tx1 (q0 := v10) (q1 := v11) (by rw [own_n3_len]; decide) (by rw [own_n3_len]; decide) (own_n3_ns hna.2) rfl rfl k10.2 k11.2) (Or.inr (own_n3_len _ _ _)) hH43 hH45 hCW W0 (f364.up z356)) hZ38 (wd hw 144 rfl) (wd hw 8 rfl) (by decide) (by decide)) q365a q365c (g := (mkF m 370 #[(si p0), (si p1), (si p2), (si p3), (si pa), (si pb), (sr ks), (si na), (si nb), (si nd), (si v10), (si v11), (si 3), .unset, .unset, (sr cn)] [(.ref nm), (.ref ks)])) rfl (by rw [hml]; rfl) (Steps.refl _) (argsL := [(.ref nm)]) (rest := []) (lenOf pd_58 rfl) rfl (by show 2 * 0 + _ ≤ _; exact Nat.le_of_eq rfl) (D at_370) (fun _ hwm => ⟨rfl, rfl, (own_IBwarm J1 hwm), (by decide : 11 + 15 ≤ _), (by decide : 3688 + 12556 ≤ _)⟩)
    dsimp only [Pt.U, Pt.locs, Pt.cells, Pt.slots] at Xp365 hSp365 hgp365 l365 y365 z365 st365 hQ365
    subst l365 y365 z365
    obtain ⟨X365, hS365, hZ365, hown365⟩ := rebS hS38 (Nat.le_trans (Nat.le_refl _) (Nat.le_trans (Nat.le_trans (Nat.le_trans (Nat.le_trans (Nat.le_trans E330.1 (Keep.of_wr W334).1) (Keep.of_wr W339).1) (Keep.of_wr W344).1) E349.1) Kq3.1)) Xp365 hSp365 hgp365 hZ38 hown38
    obtain ⟨got, rfl, N365q, Kq4, Sq4⟩ := hQ365
    have N365 := Fr.app N355 (own_frm z356 N365q)
    have z366 : n0 ≤ T365.heap.size := Nat.le_trans z356 Kq4.1
    have K367 : Keep h0 T365.heap [] := K357.trans Kq4 all0
    have go365 : Go p e below E0 T365 m 373 #[(si p0), (si p1), (si p2), (si p3), (si pa), (si pb), (sr ks), (si na), (si nb), (si nd), (si v10), (si v11), (si 3), .unset, .unset, (sr cn)] [(.ref got)] := fun tgt kq => go355 tgt (st365.trans kq)
    obtain ⟨tg, kg, Exg, Fvg, Fcg, Axg⟩ := Sq4
    have go368 : Go p e below E0 T365 m 378 #[(si p0), (si p1), (si p2), (si p3), (si pa), (si pb), (sr ks), (si na), (si nb), (si nd), (si v10), (si v11), (si 3), (sr got), .unset, (sr cn)] [(.int 518)] := fun tgt kq => go365 tgt (by
      refine XS.astore X365.here hx rfl (D at_373) rfl rfl (l' := #[(si p0), (si p1), (si p2), (si p3), (si pa), (si pb), (sr ks), (si na), (si nb), (si nd), (si v10), (si v11), (si 3), (sr got), .unset, (sr cn)]) rfl ?_; refine XS.sipush X365.here hx rfl (D at_375) ?_; exact kq)
    obtain ⟨T369, h369, k369, X369, e369, E369, A369, st369⟩ := newP X365 hx hZ365 (wd hw 12 rfl) rfl (g := (mkF m 378 #[(si p0), (si p1), (si p2), (si p3), (si pa), (si pb), (sr ks), (si na), (si nb), (si nd), (si v10), (si v11), (si 3), (sr got), .unset, (sr cn)] [(.int 518)])) rfl (D at_378) rfl (by decide) (cap := 518) (by decide) (by decide) (by decide) (by decide)
    obtain ⟨ea, g369⟩ : ∃ z, z = T365.heap.size := ⟨_, rfl⟩
    rw [← g369] at A369 st369
    have ne_ks_ea : ks ≠ ea := Nat.ne_of_lt (Nat.lt_of_lt_of_le (Nat.lt_of_lt_of_le A6.lt (Nat.le_trans (Nat.le_trans (Nat.le_trans (Nat.le_trans (Nat.le_trans (Nat.le_trans (Nat.le_trans (Nat.le_trans (Nat.le_trans (Nat.le_trans (Nat.le_trans (Nat.le_trans E10.1 E14.1) (Keep.of_wr W18).1) (Keep.of_wr W23).1) Kq1.1) Kq2.1) E330.1) (Keep.of_wr W334).1) (Keep.of_wr W339).1) (Keep.of_wr W344).1) E349.1) Kq3.1) Kq4.1)) (Nat.le_of_eq g369.symm))
    have ne_s0_ea : s0 ≠ ea := Nat.ne_of_lt (Nat.lt_of_lt_of_le (Nat.lt_of_lt_of_le Ex0.lt (Nat.le_trans (Nat.le_trans (Nat.le_trans (Nat.le_trans (Nat.le_trans (Nat.le_trans (Nat.le_trans Kq2.1 E330.1) (Keep.of_wr W334).1) (Keep.of_wr W339).1) (Keep.of_wr W344).1) E349.1) Kq3.1) Kq4.1)) (Nat.le_of_eq g369.symm))
    have ne_ca_ea : ca ≠ ea := Nat.ne_of_lt (Nat.lt_of_lt_of_le (Nat.lt_of_lt_of_le V14.lt (Nat.le_trans (Nat.le_trans (Nat.le_trans (Nat.le_trans (Nat.le_trans (Nat.le_trans (Nat.le_trans (Nat.le_trans (Nat.le_trans (Nat.le_trans (Keep.of_wr W18).1 (Keep.of_wr W23).1) Kq1.1) Kq2.1) E330.1) (Keep.of_wr W334).1) (Keep.of_wr W339).1) (Keep.of_wr W344).1) E349.1) Kq3.1) Kq4.1)) (Nat.le_of_eq g369.symm))
    have ne_t0_ea : t0 ≠ ea := Nat.ne_of_lt (Nat.lt_of_lt_of_le (Nat.lt_of_lt_of_le Ax0.lt (Nat.le_trans (Nat.le_trans (Nat.le_trans (Nat.le_trans (Nat.le_trans (Nat.le_trans (Nat.le_trans Kq2.1 E330.1) (Keep.of_wr W334).1) (Keep.of_wr W339).1) (Keep.of_wr W344).1) E349.1) Kq3.1) Kq4.1)) (Nat.le_of_eq g369.symm))
    have ne_cn_ea : cn ≠ ea := Nat.ne_of_lt (Nat.lt_of_lt_of_le (Nat.lt_of_lt_of_le V330.lt (Nat.le_trans (Nat.le_trans (Nat.le_trans (Nat.le_trans (Nat.le_trans (Keep.of_wr W334).1 (Keep.of_wr W339).1) (Keep.of_wr W344).1) E349.1) Kq3.1) Kq4.1)) (Nat.le_of_eq g369.symm))
    have ne_nm_ea : nm ≠ ea := Nat.ne_of_lt (Nat.lt_of_lt_of_le (Nat.lt_of_lt_of_le Exn.lt Kq4.1) (Nat.le_of_eq g369.symm))
    have ne_tn_ea : tn ≠ ea := Nat.ne_of_lt (Nat.lt_of_lt_of_le (Nat.lt_of_lt_of_le Axn.lt Kq4.1) (Nat.le_of_eq g369.symm))
    have ne_got_ea : got ≠ ea := Nat.ne_of_lt (Nat.lt_of_lt_of_le Exg.lt (Nat.le_of_eq g369.symm))
    have ne_tg_ea : tg ≠ ea := Nat.ne_of_lt (Nat.lt_of_lt_of_le Axg.lt (Nat.le_of_eq g369.symm))
    have ge_ea : n0 ≤ ea := Nat.le_trans z366 (Nat.le_of_eq g369.symm)
    have hz_ea : h0.size ≤ ea := Nat.le_trans K367.1 (Nat.le_of_eq g369.symm)
    have z370 : n0 ≤ h369.size := Nat.le_trans z366 E369.1
    have K371 : Keep h0 h369 [] := K367.ext E369
    have V369 : Yc Z h369 ea k369 (518 : Int32) [] := Arv.new A369 (by decide)
    have go369 : Go p e below E0 T369 m 380 #[(si p0), (si p1), (si p2), (si p3), (si pa), (si pb), (sr ks), (si na), (si nb), (si nd), (si v10), (si v11), (si 3), (sr got), .unset, (sr cn)] [(.ref ea)] := fun a b => go368 a (st369 a b)
    have go372 : Go p e below E0 T369 m 387 #[(si p0), (si p1), (si p2), (si p3), (si pa), (si pb), (sr ks), (si na), (si nb), (si nd), (si v10), (si v11), (si 3), (sr got), (sr ea), (sr cn)] [(.int pa), (.int 0), (.ref ea)] := fun tgt kq => go369 tgt (by
      refine XS.astore X369.here hx rfl (D at_380) rfl rfl (l' := #[(si p0), (si p1), (si p2), (si p3), (si pa), (si pb), (sr ks), (si na), (si nb), (si nd), (si v10), (si v11), (si 3), (sr got), (sr ea), (sr cn)]) rfl ?_; refine XS.aload X369.here hx rfl (D at_382) rfl rfl ?_; refine XS.iconst X369.here hx rfl (D at_384) ?_; refine XS.iload X369.here hx rfl (D at_385) rfl ?_; exact kq)
    obtain ⟨T373, h373, X373, e373, W373, A373, go373⟩ := own_sC X369 hx hZ365 e369 V369 (j := (0 : Int32)) rfl ⟨by decide, by decide⟩ go372 (D at_387)
    have z374 : n0 ≤ h373.size := Nat.le_trans z370 (Keep.of_wr W373).1
    have K375 : Keep h0 h373 [] := K371.wr W373 (Or.inr hz_ea)
    have N373 := Fr.snoc X373 N365 ge_ea
    have f376 : Yc Z h373 ea k369 (518 : Int32) [(.int (nar .char pa))] := A373
    have go377 : Go p e below E0 T373 m 393 #[(si p0), (si p1), (si p2), (si p3), (si pa), (si pb), (sr ks), (si na), (si nb), (si nd), (si v10), (si v11), (si 3), (sr got), (sr ea), (sr cn)] [(.int pb), (.int 1), (.ref ea)] := fun tgt kq => go373 tgt (by
      refine XS.aload X373.here hx rfl (D at_388) rfl rfl ?_; refine XS.iconst X373.here hx rfl (D at_390) ?_; refine XS.iload X373.here hx rfl (D at_391) rfl ?_; exact kq)
    obtain ⟨T378, h378, X378, e378, W378, A378, go378⟩ := own_sC X373 hx hZ365 e373 f376 (j := (1 : Int32)) rfl ⟨by decide, by decide⟩ go377 (D at_393)
    have z379 : n0 ≤ h378.size := Nat.le_trans z374 (Keep.of_wr W378).1
    have K380 : Keep h0 h378 [] := K375.wr W378 (Or.inr hz_ea)
    have N378 := Fr.snoc X378 N373 ge_ea
    have f381 : Yc Z h378 ea k369 (518 : Int32) [(.int (nar .char pa)), (.int (nar .char pb))] := A378
    have go382 : Go p e below E0 T378 m 399 #[(si p0), (si p1), (si p2), (si p3), (si pa), (si pb), (sr ks), (si na), (si nb), (si nd), (si v10), (si v11), (si 3), (sr got), (sr ea), (sr cn)] [(.int 58), (.int 2), (.ref ea)] := fun tgt kq => go378 tgt (by
      refine XS.aload X378.here hx rfl (D at_394) rfl rfl ?_; refine XS.iconst X378.here hx rfl (D at_396) ?_; refine XS.bipush X378.here hx rfl (D at_397) ?_; exact kq)
    obtain ⟨T383, h383, X383, e383, W383, A383, go383⟩ := own_sC X378 hx hZ365 e378 f381 (j := (2 : Int32)) rfl ⟨by decide, by decide⟩ go382 (D at_399)
    have z384 : n0 ≤ h383.size := Nat.le_trans z379 (Keep.of_wr W383).1
    have K385 : Keep h0 h383 [] := K380.wr W383 (Or.inr hz_ea)
    have N383 := Fr.snoc X383 N378 ge_ea
    have f386 : Yc Z h383 ea k369 (518 : Int32) [(.int (nar .char pa)), (.int (nar .char pb)), (.int (nar .char (58 : Int32)))] := A383
    have go387 : Go p e below E0 T383 m 405 #[(si p0), (si p1), (si p2), (si p3), (si pa), (si pb), (sr ks), (si na), (si nb), (si nd), (si v10), (si v11), (si 3), (sr got), (sr ea), (sr cn)] [(.int 123), (.int 3), (.ref ea)] := fun tgt kq => go383 tgt (by
      refine XS.aload X383.here hx rfl (D at_400) rfl rfl ?_; refine XS.iconst X383.here hx rfl (D at_402) ?_; refine XS.bipush X383.here hx rfl (D at_403) ?_; exact kq)
    obtain ⟨T388, h388, X388, e388, W388, A388, go388⟩ := own_sC X383 hx hZ365 e383 f386 (j := (3 : Int32)) rfl ⟨by decide, by decide⟩ go387 (D at_405)
    have z389 : n0 ≤ h388.size := Nat.le_trans z384 (Keep.of_wr W388).1
    have K390 : Keep h0 h388 [] := K385.wr W388 (Or.inr hz_ea)
    have N388 := Fr.snoc X388 N383 ge_ea
    have f391 : Yc Z h388 ea k369 (518 : Int32) [(.int (nar .char pa)), (.int (nar .char pb)), (.int (nar .char (58 : Int32))), (.int (nar .char (123 : Int32)))] := A388
    have go392 : Go p e below E0 T388 m 411 #[(si p0), (si p1), (si p2), (si p3), (si pa), (si pb), (sr ks), (si na), (si nb), (si nd), (si v10), (si v11), (si 3), (sr got), (sr ea), (sr cn)] [(.int v10), (.int 4), (.ref ea)] := fun tgt kq => go388 tgt (by
      refine XS.aload X388.here hx rfl (D at_406) rfl rfl ?_; refine XS.iconst X388.here hx rfl (D at_408) ?_; refine XS.iload X388.here hx rfl (D at_409) rfl ?_; exact kq)
    obtain ⟨T393, h393, X393, e393, W393, A393, go393⟩ := own_sC X388 hx hZ365 e388 f391 (j := (4 : Int32)) rfl ⟨by decide, by decide⟩ go392 (D at_411)
    have z394 : n0 ≤ h393.size := Nat.le_trans z389 (Keep.of_wr W393).1
    have K395 : Keep h0 h393 [] := K390.wr W393 (Or.inr hz_ea)
    have N393 := Fr.snoc X393 N388 ge_ea
    have f396 : Yc Z h393 ea k369 (518 : Int32) [(.int (nar .char pa)), (.int (nar .char pb)), (.int (nar .char (58 : Int32))), (.int (nar .char (123 : Int32))), (.int (nar .char v10))] := A393
    have go397 : Go p e below E0 T393 m 417 #[(si p0), (si p1), (si p2), (si p3), (si pa), (si pb), (sr ks), (si na), (si nb), (si nd), (si v10), (si v11), (si 3), (sr got), (sr ea), (sr cn)] [(.int v11), (.int 5), (.ref ea)] := fun tgt kq => go393 tgt (by
      refine XS.aload X393.here hx rfl (D at_412) rfl rfl ?_; refine XS.iconst X393.here hx rfl (D at_414) ?_; refine XS.iload X393.here hx rfl (D at_415) rfl ?_; exact kq)
    obtain ⟨T398, h398, X398, e398, W398, A398, go398⟩ := own_sC X393 hx hZ365 e393 f396 (j := (5 : Int32)) rfl ⟨by decide, by decide⟩ go397 (D at_417)
    have z399 : n0 ≤ h398.size := Nat.le_trans z394 (Keep.of_wr W398).1
    have K400 : Keep h0 h398 [] := K395.wr W398 (Or.inr hz_ea)
    have N398 := Fr.snoc X398 N393 ge_ea
    have f401 : Yc Z h398 ea k369 (518 : Int32) [(.int (nar .char pa)), (.int (nar .char pb)), (.int (nar .char (58 : Int32))), (.int (nar .char (123 : Int32))), (.int (nar .char v10)), (.int (nar .char v11))] := A398
    have go402 : Go p e below E0 T398 m 425 #[(si p0), (si p1), (si p2), (si p3), (si pa), (si pb), (sr ks), (si na), (si nb), (si nd), (si v10), (si v11), (si 3), (sr got), (sr ea), (sr cn)] [(.int na), (.int 516), (.ref ea)] := fun tgt kq => go398 tgt (by
      refine XS.aload X398.here hx rfl (D at_418) rfl rfl ?_; refine XS.sipush X398.here hx rfl (D at_420) ?_; refine XS.iload X398.here hx rfl (D at_423) rfl ?_; exact kq)
    have p403 : Yc Z h398 ea k369 (518 : Int32) ([(.int (nar .char pa)), (.int (nar .char pb)), (.int (nar .char (58 : Int32))), (.int (nar .char (123 : Int32))), (.int (nar .char v10)), (.int (nar .char v11))] ++ List.replicate 511 (.int (0 : Int32))) := f401.pad (pad_rep [(.int (nar .char pa)), (.int (nar .char pb)), (.int (nar .char (58 : Int32))), (.int (nar .char (123 : Int32))), (.int (nar .char v10)), (.int (nar .char v11))] (.int (0 : Int32)) 511)
    obtain ⟨c403, Ar403, q403, S403, M403, Hh403, G403⟩ := id p403
    obtain ⟨T403, h403, X403, e403, W403, st403⟩ := stC X398 hx hZ365 e398 Ar403 (j := (516 : Int32)) (inb_of S403 ⟨by decide, by decide⟩) (g := (mkF m 425 #[(si p0), (si p1), (si p2), (si p3), (si pa), (si pb), (sr ks), (si na), (si nb), (si nd), (si v10), (si v11), (si 3), (sr got), (sr ea), (sr cn)] [(.int na), (.int 516), (.ref ea)])) rfl rfl (D at_425)
    have z404 : n0 ≤ h403.size := Nat.le_trans z399 (Keep.of_wr W403).1
    have K405 : Keep h0 h403 [] := K400.wr W403 (Or.inr hz_ea)
    have N403 := Fr.snoc X403 N398 ge_ea
    have f406 : Yc Z h403 ea k369 (518 : Int32) ([(.int (nar .char pa)), (.int (nar .char pb)), (.int (nar .char (58 : Int32))), (.int (nar .char (123 : Int32))), (.int (nar .char v10)), (.int (nar .char v11))] ++ List.replicate 510 (.int (0 : Int32)) ++ [(.int (nar .char na))]) := (by have e : (([(Value.int (nar .char pa)), (Value.int (nar .char pb)), (Value.int (nar .char (58 : Int32))), (Value.int (nar .char (123 : Int32))), (Value.int (nar .char v10)), (Value.int (nar .char v11))] : List Value) ++ List.replicate 511 (Value.int (0 : Int32))).set 516 (Value.int (nar .char na)) = (([(Value.int (nar .char pa)), (Value.int (nar .char pb)), (Value.int (nar .char (58 : Int32))), (Value.int (nar .char (123 : Int32))), (Value.int (nar .char v10)), (Value.int (nar .char v11))] ++ List.replicate 510 (Value.int (0 : Int32)) ++ [(Value.int (nar .char na))]) : List Value) := own_far ([(Value.int (nar .char pa)), (Value.int (nar .char pb)), (Value.int (nar .char (58 : Int32))), (Value.int (nar .char (123 : Int32))), (Value.int (nar .char v10)), (Value.int (nar .char v11))] : List Value) (Value.int (0 : Int32)) (Value.int (nar .char na)) 510; have q := Arv.set Ar403 q403 S403 M403 Hh403 G403 (fits_nar_char _) W403 516 (by decide) (by rw [List.length_append, List.length_replicate]; show 516 < 6 + 511; decide); rw [e] at q; exact q)
    have go403 : Go p e below E0 T403 m 426 #[(si p0), (si p1), (si p2), (si p3), (si pa), (si pb), (sr ks), (si na), (si nb), (si nd), (si v10), (si v11), (si 3), (sr got), (sr ea), (sr cn)] [] := fun a b => go402 a (st403 a b)
    have yl : (([(Value.int (nar .char pa)), (Value.int (nar .char pb)), (Value.int (nar .char (58 : Int32))), (Value.int (nar .char (123 : Int32))), (Value.int (nar .char v10)), (Value.int (nar .char v11))] ++ List.replicate 510 (Value.int (0 : Int32)) ++ [(Value.int (nar .char na))]) : List Value).length = 517 := by simp only [List.length_append, List.length_replicate, List.length_cons, List.length_nil]
    have go407 : Go p e below E0 T403 m 433 #[(si p0), (si p1), (si p2), (si p3), (si pa), (si pb), (sr ks), (si na), (si nb), (si nd), (si v10), (si v11), (si 3), (sr got), (sr ea), (sr cn)] [(.int 125), (.int 517), (.ref ea)] := fun tgt kq => go403 tgt (by
      refine XS.aload X403.here hx rfl (D at_426) rfl rfl ?_; refine XS.sipush X403.here hx rfl (D at_428) ?_; refine XS.bipush X403.here hx rfl (D at_431) ?_; exact kq)
    have p408 : Yc Z h403 ea k369 (518 : Int32) (([(.int (nar .char pa)), (.int (nar .char pb)), (.int (nar .char (58 : Int32))), (.int (nar .char (123 : Int32))), (.int (nar .char v10)), (.int (nar .char v11))] ++ List.replicate 510 (.int (0 : Int32)) ++ [(.int (nar .char na))]) ++ List.replicate 1 (.int (0 : Int32))) := f406.pad (pad_rep ([(.int (nar .char pa)), (.int (nar .char pb)), (.int (nar .char (58 : Int32))), (.int (nar .char (123 : Int32))), (.int (nar .char v10)), (.int (nar .char v11))] ++ List.replicate 510 (.int (0 : Int32)) ++ [(.int (nar .char na))]) (.int (0 : Int32)) 1)
    obtain ⟨c408, Ar408, q408, S408, M408, Hh408, G408⟩ := id p408
    obtain ⟨T408, h408, X408, e408, W408, st408⟩ := stC X403 hx hZ365 e403 Ar408 (j := (517 : Int32)) (inb_of S408 ⟨by decide, by decide⟩) (g := (mkF m 433 #[(si p0), (si p1), (si p2), (si p3), (si pa), (si pb), (sr ks), (si na), (si nb), (si nd), (si v10), (si v11), (si 3), (sr got), (sr ea), (sr cn)] [(.int 125), (.int 517), (.ref ea)])) rfl rfl (D at_433)
    have z409 : n0 ≤ h408.size := Nat.le_trans z404 (Keep.of_wr W408).1
    have K410 : Keep h0 h408 [] := K405.wr W408 (Or.inr hz_ea)
    have N408 := Fr.snoc X408 N403 ge_ea
    have f411 : Yc Z h408 ea k369 (518 : Int32) (([(.int (nar .char pa)), (.int (nar .char pb)), (.int (nar .char (58 : Int32))), (.int (nar .char (123 : Int32))), (.int (nar .char v10)), (.int (nar .char v11))] ++ List.replicate 510 (.int (0 : Int32)) ++ [(.int (nar .char na))]) ++ [(.int (nar .char (125 : Int32)))]) := (by have e : ((([(Value.int (nar .char pa)), (Value.int (nar .char pb)), (Value.int (nar .char (58 : Int32))), (Value.int (nar .char (123 : Int32))), (Value.int (nar .char v10)), (Value.int (nar .char v11))] ++ List.replicate 510 (Value.int (0 : Int32)) ++ [(Value.int (nar .char na))]) : List Value) ++ List.replicate 1 (Value.int (0 : Int32))).set 517 (Value.int (nar .char (125 : Int32))) = ((([(Value.int (nar .char pa)), (Value.int (nar .char pb)), (Value.int (nar .char (58 : Int32))), (Value.int (nar .char (123 : Int32))), (Value.int (nar .char v10)), (Value.int (nar .char v11))] ++ List.replicate 510 (Value.int (0 : Int32)) ++ [(Value.int (nar .char na))]) ++ [(Value.int (nar .char (125 : Int32)))]) : List Value) := yl ▸ own_push (([(Value.int (nar .char pa)), (Value.int (nar .char pb)), (Value.int (nar .char (58 : Int32))), (Value.int (nar .char (123 : Int32))), (Value.int (nar .char v10)), (Value.int (nar .char v11))] ++ List.replicate 510 (Value.int (0 : Int32)) ++ [(Value.int (nar .char na))]) : List Value) (Value.int (0 : Int32)) (Value.int (nar .char (125 : Int32))); have q := Arv.set Ar408 q408 S408 M408 Hh408 G408 (fits_nar_char _) W408 517 (by decide) (by rw [List.length_append, yl]; show 517 < 517 + 1; decide); rw [e] at q; exact q)
    have go408 : Go p e below E0 T408 m 434 #[(si p0), (si p1), (si p2), (si p3), (si pa), (si pb), (sr ks), (si na), (si nb), (si nd), (si v10), (si v11), (si 3), (sr got), (sr ea), (sr cn)] [] := fun a b => go407 a (st408 a b)
    have go412 : Go p e below E0 T408 m 441 #[(si p0), (si p1), (si p2), (si p3), (si pa), (si pb), (sr ks), (si na), (si nb), (si nd), (si v10), (si v11), (si 3), (sr got), (sr ea), (sr cn)] [(.ref got)] := fun tgt kq => go408 tgt (by
      refine XS.aload X408.here hx rfl (D at_434) rfl rfl ?_; refine XS.ifnullNo X408.here hx rfl (D at_436) rfl ?_; refine XS.aload X408.here hx rfl (D at_439) rfl rfl ?_; exact kq)
    obtain ⟨T413, h413, X413, e413, E413, A413, D413, -, st413⟩ := newO X408 hx hZ365 hown365 (wd hw 9 rfl) (wd hw 10 rfl) (wd hw 11 rfl) e408 (g := (mkF m 441 #[(si p0), (si p1), (si p2), (si p3), (si pa), (si pb), (sr ks), (si na), (si nb), (si nd), (si v10), (si v11), (si 3), (sr got), (sr ea), (sr cn)] [(.ref got)])) rfl (D at_441) (by decide) (by decide)
    obtain ⟨s2, g413⟩ : ∃ z, z = h408.size := ⟨_, rfl⟩
    rw [← g413] at A413 D413 st413
    have ne_ks_s2 : ks ≠ s2 := Nat.ne_of_lt (Nat.lt_of_lt_of_le (Nat.lt_of_lt_of_le A6.lt (Nat.le_trans (Nat.le_trans (Nat.le_trans (Nat.le_trans (Nat.le_trans (Nat.le_trans (Nat.le_trans (Nat.le_trans (Nat.le_trans (Nat.le_trans (Nat.le_trans (Nat.le_trans (Nat.le_trans (Nat.le_trans (Nat.le_trans (Nat.le_trans (Nat.le_trans (Nat.le_trans (Nat.le_trans (Nat.le_trans (Nat.le_trans E10.1 E14.1) (Keep.of_wr W18).1) (Keep.of_wr W23).1) Kq1.1) Kq2.1) E330.1) (Keep.of_wr W334).1) (Keep.of_wr W339).1) (Keep.of_wr W344).1) E349.1) Kq3.1) Kq4.1) E369.1) (Keep.of_wr W373).1) (Keep.of_wr W378).1) (Keep.of_wr W383).1) (Keep.of_wr W388).1) (Keep.of_wr W393).1) (Keep.of_wr W398).1) (Keep.of_wr W403).1) (Keep.of_wr W408).1)) (Nat.le_of_eq g413.symm))
    have ne_s0_s2 : s0 ≠ s2 := Nat.ne_of_lt (Nat.lt_of_lt_of_le (Nat.lt_of_lt_of_le Ex0.lt (Nat.le_trans (Nat.le_trans (Nat.le_trans (Nat.le_trans (Nat.le_trans (Nat.le_trans (Nat.le_trans (Nat.le_trans (Nat.le_trans (Nat.le_trans (Nat.le_trans (Nat.le_trans (Nat.le_trans (Nat.le_trans (Nat.le_trans (Nat.le_trans Kq2.1 E330.1) (Keep.of_wr W334).1) (Keep.of_wr W339).1) (Keep.of_wr W344).1) E349.1) Kq3.1) Kq4.1) E369.1) (Keep.of_wr W373).1) (Keep.of_wr W378).1) (Keep.of_wr W383).1) (Keep.of_wr W388).1) (Keep.of_wr W393).1) (Keep.of_wr W398).1) (Keep.of_wr W403).1) (Keep.of_wr W408).1)) (Nat.le_of_eq g413.symm))
    have ne_ca_s2 : ca ≠ s2 := Nat.ne_of_lt (Nat.lt_of_lt_of_le (Nat.lt_of_lt_of_le V14.lt (Nat.le_trans (Nat.le_trans (Nat.le_trans (Nat.le_trans (Nat.le_trans (Nat.le_trans (Nat.le_trans (Nat.le_trans (Nat.le_trans (Nat.le_trans (Nat.le_trans (Nat.le_trans (Nat.le_trans (Nat.le_trans (Nat.le_trans (Nat.le_trans (Nat.le_trans (Nat.le_trans (Nat.le_trans (Keep.of_wr W18).1 (Keep.of_wr W23).1) Kq1.1) Kq2.1) E330.1) (Keep.of_wr W334).1) (Keep.of_wr W339).1) (Keep.of_wr W344).1) E349.1) Kq3.1) Kq4.1) E369.1) (Keep.of_wr W373).1) (Keep.of_wr W378).1) (Keep.of_wr W383).1) (Keep.of_wr W388).1) (Keep.of_wr W393).1) (Keep.of_wr W398).1) (Keep.of_wr W403).1) (Keep.of_wr W408).1)) (Nat.le_of_eq g413.symm))
    have ne_t0_s2 : t0 ≠ s2 := Nat.ne_of_lt (Nat.lt_of_lt_of_le (Nat.lt_of_lt_of_le Ax0.lt (Nat.le_trans (Nat.le_trans (Nat.le_trans (Nat.le_trans (Nat.le_trans (Nat.le_trans (Nat.le_trans (Nat.le_trans (Nat.le_trans (Nat.le_trans (Nat.le_trans (Nat.le_trans (Nat.le_trans (Nat.le_trans (Nat.le_trans (Nat.le_trans Kq2.1 E330.1) (Keep.of_wr W334).1) (Keep.of_wr W339).1) (Keep.of_wr W344).1) E349.1) Kq3.1) Kq4.1) E369.1) (Keep.of_wr W373).1) (Keep.of_wr W378).1) (Keep.of_wr W383).1) (Keep.of_wr W388).1) (Keep.of_wr W393).1) (Keep.of_wr W398).1) (Keep.of_wr W403).1) (Keep.of_wr W408).1)) (Nat.le_of_eq g413.symm))
    have ne_cn_s2 : cn ≠ s2 := Nat.ne_of_lt (Nat.lt_of_lt_of_le (Nat.lt_of_lt_of_le V330.lt (Nat.le_trans (Nat.le_trans (Nat.le_trans (Nat.le_trans (Nat.le_trans (Nat.le_trans (Nat.le_trans (Nat.le_trans (Nat.le_trans (Nat.le_trans (Nat.le_trans (Nat.le_trans (Nat.le_trans (Nat.le_trans (Keep.of_wr W334).1 (Keep.of_wr W339).1) (Keep.of_wr W344).1) E349.1) Kq3.1) Kq4.1) E369.1) (Keep.of_wr W373).1) (Keep.of_wr W378).1) (Keep.of_wr W383).1) (Keep.of_wr W388).1) (Keep.of_wr W393).1) (Keep.of_wr W398).1) (Keep.of_wr W403).1) (Keep.of_wr W408).1)) (Nat.le_of_eq g413.symm))
    have ne_nm_s2 : nm ≠ s2 := Nat.ne_of_lt (Nat.lt_of_lt_of_le (Nat.lt_of_lt_of_le Exn.lt (Nat.le_trans (Nat.le_trans (Nat.le_trans (Nat.le_trans (Nat.le_trans (Nat.le_trans (Nat.le_trans (Nat.le_trans (Nat.le_trans Kq4.1 E369.1) (Keep.of_wr W373).1) (Keep.of_wr W378).1) (Keep.of_wr W383).1) (Keep.of_wr W388).1) (Keep.of_wr W393).1) (Keep.of_wr W398).1) (Keep.of_wr W403).1) (Keep.of_wr W408).1)) (Nat.le_of_eq g413.symm))
    have ne_tn_s2 : tn ≠ s2 := Nat.ne_of_lt (Nat.lt_of_lt_of_le (Nat.lt_of_lt_of_le Axn.lt (Nat.le_trans (Nat.le_trans (Nat.le_trans (Nat.le_trans (Nat.le_trans (Nat.le_trans (Nat.le_trans (Nat.le_trans (Nat.le_trans Kq4.1 E369.1) (Keep.of_wr W373).1) (Keep.of_wr W378).1) (Keep.of_wr W383).1) (Keep.of_wr W388).1) (Keep.of_wr W393).1) (Keep.of_wr W398).1) (Keep.of_wr W403).1) (Keep.of_wr W408).1)) (Nat.le_of_eq g413.symm))
    have ne_got_s2 : got ≠ s2 := Nat.ne_of_lt (Nat.lt_of_lt_of_le (Nat.lt_of_lt_of_le Exg.lt (Nat.le_trans (Nat.le_trans (Nat.le_trans (Nat.le_trans (Nat.le_trans (Nat.le_trans (Nat.le_trans (Nat.le_trans E369.1 (Keep.of_wr W373).1) (Keep.of_wr W378).1) (Keep.of_wr W383).1) (Keep.of_wr W388).1) (Keep.of_wr W393).1) (Keep.of_wr W398).1) (Keep.of_wr W403).1) (Keep.of_wr W408).1)) (Nat.le_of_eq g413.symm))
    have ne_tg_s2 : tg ≠ s2 := Nat.ne_of_lt (Nat.lt_of_lt_of_le (Nat.lt_of_lt_of_le Axg.lt (Nat.le_trans (Nat.le_trans (Nat.le_trans (Nat.le_trans (Nat.le_trans (Nat.le_trans (Nat.le_trans (Nat.le_trans E369.1 (Keep.of_wr W373).1) (Keep.of_wr W378).1) (Keep.of_wr W383).1) (Keep.of_wr W388).1) (Keep.of_wr W393).1) (Keep.of_wr W398).1) (Keep.of_wr W403).1) (Keep.of_wr W408).1)) (Nat.le_of_eq g413.symm))
    have ne_ea_s2 : ea ≠ s2 := Nat.ne_of_lt (Nat.lt_of_lt_of_le (Nat.lt_of_lt_of_le V369.lt (Nat.le_trans (Nat.le_trans (Nat.le_trans (Nat.le_trans (Nat.le_trans (Nat.le_trans (Nat.le_trans (Keep.of_wr W373).1 (Keep.of_wr W378).1) (Keep.of_wr W383).1) (Keep.of_wr W388).1) (Keep.of_wr W393).1) (Keep.of_wr W398).1) (Keep.of_wr W403).1) (Keep.of_wr W408).1)) (Nat.le_of_eq g413.symm))
    have ge_s2 : n0 ≤ s2 := Nat.le_trans z409 (Nat.le_of_eq g413.symm)
    have hz_s2 : h0.size ≤ s2 := Nat.le_trans K410.1 (Nat.le_of_eq g413.symm)
    have z414 : n0 ≤ h413.size := Nat.le_trans z409 E413.1
    have K415 : Keep h0 h413 [] := K410.ext E413
    have Fcoder_s2 : F5_ Z h413 s2 (.int (0 : Int32)) := D413 (Or.inr (wd hw 36 rfl)) (ty := .byte) (by decide)
    have Fvalue_s2 : F6_ Z h413 s2 .null := D413 (Or.inr (wd hw 38 rfl)) (ty := (.array .byte)) (by decide)
    have go413 : Go p e below E0 T413 m 444 #[(si p0), (si p1), (si p2), (si p3), (si pa), (si pb), (sr ks), (si na), (si nb), (si nd), (si v10), (si v11), (si 3), (sr got), (sr ea), (sr cn)] [(.ref s2), (.ref got)] := fun a b => go412 a (st413 a b)
    have f416 : Yc Z h413 ea k369 (518 : Int32) (([(.int (nar .char pa)), (.int (nar .char pb)), (.int (nar .char (58 : Int32))), (.int (nar .char (123 : Int32))), (.int (nar .char v10)), (.int (nar .char v11))] ++ List.replicate 510 (.int (0 : Int32)) ++ [(.int (nar .char na))]) ++ [(.int (nar .char (125 : Int32)))]) := (f411.ext E413)
    have Aea : Yc Z h413 ea k369 (Int32.ofNat ([pa, pb] ++ ([58, 123] : List Int32) ++ (own_n3 v10 v11 na) ++ ([125] : List Int32)).length) (([pa, pb] ++ ([58, 123] : List Int32) ++ (own_n3 v10 v11 na) ++ ([125] : List Int32)).map Value.int) := by have q := f416; rw [n_pa, n_pb, n_58, n_123, n_v10, n_v11, n_na, n_125] at q; rw [own_x3_len, own_x3_map]; exact q
    have f417 : own_O Z n0 h413 := (((((((((((f364.keep Kq4 all0).ext E369).wr W373 ge_ea).wr W378 ge_ea).wr W383 ge_ea).wr W388 ge_ea).wr W393 ge_ea).wr W398 ge_ea).wr W403 ge_ea).wr W408 ge_ea).ext E413)
    have go418 : Go p e below E0 T413 m 447 #[(si p0), (si p1), (si p2), (si p3), (si pa), (si pb), (sr ks), (si na), (si nb), (si nd), (si v10), (si v11), (si 3), (sr got), (sr ea), (sr cn)] [(.ref ea), (.ref s2), (.ref s2), (.ref got)] := fun tgt kq => go413 tgt (by
      refine XS.dup X413.here hx rfl (D at_444) rfl rfl ?_; refine XS.aload X413.here hx rfl (D at_445) rfl rfl ?_; exact kq)
    obtain ⟨_, T419, L419, X419, hQ419, go419⟩ := own_cI X413 hx hZ365 hown365 (wd hw 13 rfl) (wd hw 14 rfl) (wd hw 11 rfl) (wd hw 15 rfl) rfl (by decide) (W := 2) (rmN520 l Z a0 hw [] s2 ea k369 ([pa, pb] ++ ([58, 123] : List Int32) ++ (own_n3 v10 v11 na) ++ ([125] : List Int32)) G fv h413 n0 z414 A413 ge_s2 Fvalue_s2 Fcoder_s2 Aea (by rw [own_x3_len]; decide) (by rw [own_x3_len]; decide) (own_allapp (own_allapp (own_allapp (own_pair hpa.1 hpb.1) (own_pair own_wf58 own_wf123)) (own_n3_ch k10.1 k11.1 hna.1)) (own_allcons own_wf125 own_allnil)) W0 f417) (by decide) (by decide) e413 (by decide) (by decide) go418 hml.symm (argsL := [(.ref ea)]) (rest := [(.ref s2), (.ref got)]) (lenOf pd_56 rfl) rfl rfl rfl (D at_447)
    obtain ⟨rfl, N419q, Kq5, Sq5⟩ := hQ419
    have N419 := Fr.app N408 N419q
    have z420 : n0 ≤ T419.heap.size := Nat.le_trans z414 Kq5.1
    have K421 : Keep h0 T419.heap [] := K415.trans Kq5 (allS (Or.inr hz_s2) all0)
    obtain ⟨t5, kq5, Ex5, Fv5, Fc5, Ax5⟩ := Sq5
    have f422 : E1_ Z T419.heap got := (((((((((((Exg.ext E369).wr W373).wr W378).wr W383).wr W388).wr W393).wr W398).wr W403).wr W408).ext E413).keep Kq5)
    have f423 : F6_ Z T419.heap got (.ref tg) := (((((((((((Fvg.ext E369).other W373 (Or.inl ne_got_ea)).other W378 (Or.inl ne_got_ea)).other W383 (Or.inl ne_got_ea)).other W388 (Or.inl ne_got_ea)).other W393 (Or.inl ne_got_ea)).other W398 (Or.inl ne_got_ea)).other W403 (Or.inl ne_got_ea)).other W408 (Or.inl ne_got_ea)).ext E413).keep Kq5 (ninS ne_got_s2 nin0))
    have f424 : F5_ Z T419.heap got (.int (own_co ([pa, pb] ++ ([58, 123] : List Int32) ++ (own_n3 v10 v11 na) ++ ([125] : List Int32)))) := (((((((((((Fcg.ext E369).other W373 (Or.inl ne_got_ea)).other W378 (Or.inl ne_got_ea)).other W383 (Or.inl ne_got_ea)).other W388 (Or.inl ne_got_ea)).other W393 (Or.inl ne_got_ea)).other W398 (Or.inl ne_got_ea)).other W403 (Or.inl ne_got_ea)).other W408 (Or.inl ne_got_ea)).ext E413).keep Kq5 (ninS ne_got_s2 nin0))
    have f425 : Yb Z T419.heap tg kg (Int32.ofNat (own_k ([pa, pb] ++ ([58, 123] : List Int32) ++ (own_n3 v10 v11 na) ++ ([125] : List Int32)) * ([pa, pb] ++ ([58, 123] : List Int32) ++ (own_n3 v10 v11 na) ++ ([125] : List Int32)).length)) (own_by ([pa, pb] ++ ([58, 123] : List Int32) ++ (own_n3 v10 v11 na) ++ ([125] : List Int32))) := (((((((((((Axg.ext E369).other W373 ne_tg_ea).other W378 ne_tg_ea).other W383 ne_tg_ea).other W388 ne_tg_ea).other W393 ne_tg_ea).other W398 ne_tg_ea).other W403 ne_tg_ea).other W408 ne_tg_ea).ext E413).keep Kq5 (ninS ne_tg_s2 nin0))
    have f426 : own_O Z n0 T419.heap := (f417.keep Kq5 (allS ge_s2 all0))
    obtain ⟨_, T427, L427, X427, hQ427, go427⟩ := own_cV X419 hx hZ365 hown365 (wd hw 256 rfl) (wd hw 257 rfl) (wd hw 259 rfl) (wd hw 258 rfl) (wd hw 11 rfl) (wd hw 260 rfl) (by decide) (W := 0) (rmEQ l Z a0 hw [] got tg kg s2 t5 kq5 ([pa, pb] ++ ([58, 123] : List Int32) ++ (own_n3 v10 v11 na) ++ ([125] : List Int32)) G fv T419.heap n0 z420 f422 f423 f424 f425 Ex5 Fv5 Fc5 Ax5 ne_got_s2 (by rw [own_x3_len]; decide) W0 f426) (by decide) (by decide) rfl (by decide) (by decide) f422 go419 hml.symm (argsL := [(.ref s2)]) (rest := []) (lenOf pd_59 rfl) rfl rfl rfl (D at_450)
    obtain ⟨rfl, N427q, Kq6⟩ := hQ427
    have N427 := Fr.app N419 N427q
    have z428 : n0 ≤ T427.heap.size := Nat.le_trans z420 Kq6.1
    have K429 : Keep h0 T427.heap [] := K421.trans Kq6 all0
    have go430 : Go p e below E0 T427 m 461 #[(si p0), (si p1), (si p2), (si p3), (si pa), (si pb), (sr ks), (si na), (si nb), (si nd), (si v10), (si v11), (si 3), (sr got), (sr ea), (sr cn)] [(.int 1)] := fun tgt kq => go427 tgt (by
      refine XS.ifNo X427.here hx rfl (D at_453) rfl ((if0 _ _).trans (feq (by decide)).1) ?_; refine XS.iconst X427.here hx rfl (D at_456) ?_; refine XS.goto X427.here hx rfl (pc0 := 457) (pc' := 461) rfl (D at_457) (by decide) (by decide) ?_; exact kq)
    obtain ⟨fs, hr, hrun, hended, hW⟩ := X427.leaveW hS365 (Nat.le_trans (Nat.le_refl _) (Nat.le_trans (Nat.le_trans (Nat.le_trans (Nat.le_trans (Nat.le_trans (Nat.le_trans (Nat.le_trans (Nat.le_trans (Nat.le_trans (Nat.le_trans (Nat.le_trans E369.1 (Keep.of_wr W373).1) (Keep.of_wr W378).1) (Keep.of_wr W383).1) (Keep.of_wr W388).1) (Keep.of_wr W393).1) (Keep.of_wr W398).1) (Keep.of_wr W403).1) (Keep.of_wr W408).1) E413.1) Kq5.1) Kq6.1)) (v := some (.int (1 : Int32))) (fun h => by rw [Bd.returns] at h; cases h)
    refine ⟨_, _, go430 _ ?_, hrun, hended, _, _, rfl, ?_, hW.1, hW.2.1, hW.2.2.1, hW.2.2.2.mono (by decide) (by decide)⟩
    · exact retN X427 hx (t := .boolean) Bd.returns (by simp) (D at_461) hr
    · show QL Z p0 p1 p2 p3 G fv h0 n0 _ T427.heap _ T427.vm
      exact ⟨rfl, N427⟩
set_option maxRecDepth 65536 in
set_option maxHeartbeats 40000000 in
theorem comes_1 {Post : Tables → Env → Array Value → State → Outcome → State → Prop} (hpost : ∀ tb e args s v u, (limb_1_1.after args s (.returned v) u = true ∧ limb_1_2.after args s (.returned v) u = true ∧ True) → ReturnedEndW s (.returned v) u (Jvm.fieldLocs frame_1_writes args s ++ Jvm.arrayLocs frame_1_arrays args s ++ Jvm.staticLocs frame_1_statics s) 56 20800 → Post tb e args s (.returned v) u) :
    ArmFor flags0 classFile x code maxLocals ret World_1 tables_1 room_1 Calls_1 rest_1 Pre_1 Post := by
  intro l hfl _ _ p e ha hc hk s m args below hf hA hF happ hP
  obtain ⟨hcalls, hrest, hpre⟩ := hP
  obtain ⟨-, -, -, hnamed, -, -, -, hat⟩ := (Spec.applies_iff hf).mp happ
  obtain ⟨hg, hn⟩ := and_e (Cond.before_iff.mp (show (Jvm.Cond.and given_1 narrow_1).before args s = true from hpre))
  obtain ⟨h1, r0⟩ := and_e hg
  obtain ⟨t0, r1⟩ := and_e r0
  obtain ⟨t1, r2⟩ := and_e r1
  obtain ⟨t2, r3⟩ := and_e r2
  have t3 := r3
  obtain ⟨w0, w1, w2, w3, rfl⟩ : ∃ w0 w1 w2 w3 : Value, args = #[w0, w1, w2, w3] := by
    have hs : args.size = 4 := by simpa [Cond.value, given_1] using h1
    obtain ⟨L⟩ := args
    match L, hs with
    | [w0, w1, w2, w3], _ => exact ⟨w0, w1, w2, w3, rfl⟩
  have hw := fun d (hd : d ∈ tables_1) => atoms_spec (ws := Jvm.Cond.code x code maxLocals ret :: tables_1) hat d (List.mem_cons_of_mem _ hd)
  have hfit : Fit s := fun {y c} hc i hi => by
    obtain ⟨ha, rfl⟩ := Array.getElem?_eq_some_iff.mp hc
    have q := List.all_eq_true.mp ((Array.all_eq_true_iff_forall_mem.mp hF) _ (Array.getElem_mem ha)) i (List.mem_range.mpr hi)
    simpa [Array.getElem?_eq_getElem hi] using q
  obtain ⟨i0, e0⟩ := is_v t0
  obtain rfl : w0 = (.int i0) := Option.some.inj e0
  obtain ⟨i1, e1⟩ := is_v t1
  obtain rfl : w1 = (.int i1) := Option.some.inj e1
  obtain ⟨i2, e2⟩ := is_v t2
  obtain rfl : w2 = (.int i2) := Option.some.inj e2
  obtain ⟨i3, e3⟩ := is_v t3
  obtain rfl : w3 = (.int i3) := Option.some.inj e3
  obtain ⟨hsets, hown0⟩ := atoms_of _ (rest_1_c_eq ▸ (show rest_1_c.before _ s = true from hrest))
  have nC := not_v (Cond.before_iff.mp (hsets _ (List.mem_of_getElem? (i := 2) rfl)))
  obtain ⟨iC, eC⟩ := is_v (Cond.before_iff.mp (hsets _ (List.mem_of_getElem? (i := 1) rfl)))
  have SC : Sta s s.heap "java/lang/String" "COMPACT_STRINGS" "Z" (.int iC) := Sta.start eC (Or.inl (hsets _ (List.mem_of_getElem? (i := 0) rfl)))
  have cC : ¬ (iC = (0 : Int32)) := gotF (Cond.eq_ints eC (Term.int_eval (0))) nC
  have hH7 : Jvm.Lit.constHeld s "com/example/portunus/portunus/core/KeySpace" 7 := hcalls.1 ("com/example/portunus/portunus/core/KeySpace", 7) (by simp [consts_1])
  have hH43 : Jvm.Lit.constHeld s "com/example/portunus/portunus/core/KeySpace" 43 := hcalls.1 ("com/example/portunus/portunus/core/KeySpace", 43) (by simp [consts_1])
  have hH45 : Jvm.Lit.constHeld s "com/example/portunus/portunus/core/KeySpace" 45 := hcalls.1 ("com/example/portunus/portunus/core/KeySpace", 45) (by simp [consts_1])
  have hCW : Jvm.Lit.compactW.before #[] s = true := hsets _ (List.mem_of_getElem? (i := 2) rfl)
  obtain ⟨fv, eF, hfv⟩ := isR_v (Cond.before_iff.mp (hsets _ (List.mem_of_getElem? (i := 8) rfl)))
  have W0 : own_W s iC fv := ⟨SC, cC, Sta.start eF (Or.inl (hsets _ (List.mem_of_getElem? (i := 7) rfl))), hfv, Sta.start (own_eqI (Cond.before_iff.mp (hsets _ (List.mem_of_getElem? (i := 12) rfl)))) (Or.inl (hsets _ (List.mem_of_getElem? (i := 11) rfl))), Sta.start (own_eqI (Cond.before_iff.mp (hsets _ (List.mem_of_getElem? (i := 15) rfl)))) (Or.inl (hsets _ (List.mem_of_getElem? (i := 14) rfl))), Sta.start (own_eqI (Cond.before_iff.mp (hsets _ (List.mem_of_getElem? (i := 18) rfl)))) (Or.inl (hsets _ (List.mem_of_getElem? (i := 17) rfl)))⟩
  obtain ⟨n, o, h1, h2, h3, _, L, rfl, ⟨rfl, N⟩, hq⟩ := rmL l s _ hw tables_1 i0 i1 i2 i3 iC fv  s.heap s.heap.size (Nat.le_refl _)  W0 ⟨Nat.le_refl _, Nat.le_refl _, fun _ _ q => q⟩ hH7 hH43 hH45 hCW p e ha hc hk s m _ below hf ((Spec.applies_iff_loose hf).mp happ).1 ⟨rfl, State.Warmed39.refl s, rfl, IB.start⟩ trivial
  refine ⟨n, _, h1, h2, h3, hpost _ _ _ _ _ _ ⟨Cond.after_iff.mpr rfl, Cond.after_iff.mpr (eq_i res_at (Term.int_eval (1)) rfl), trivial⟩ ⟨hq.1, hq.2.1, hq.2.2.1, (hq.2.2.2.sift fun y hy => Or.inr (N y hy)).mono (by decide) (by decide)⟩⟩
theorem main_1_1 : Claimed_1_1 := comes_1 fun _ _ _ _ _ _ h hF => ⟨h.1, hF⟩
theorem main_1_2 : Claimed_1_2 := comes_1 fun _ _ _ _ _ _ h hF => ⟨h.2.1, hF⟩
end Jvm.Pilot.@@N@@
namespace Jvm.Pilot.@@N@@
open Jvm Jvm.ClassFile Sem Op Lib Jvm.Free Jvm.Stand Jvm.Pilot.@@N@@.Jvm.D
/-! MADE BY PROGRAM (witnessworld.py) out of the Statement's table words and the real class files: 28 classes; the members and pool entries that the words name. The judged class is class 1, her method 3. -/
namespace start1
open Jvm.ClassFile
def u (s : String) : CpInfo := .utf8 (stringToUtf16 s)
/-- a pool by its gaps: so many unusable entries, then the entry; so many at the end -/
def gap : Nat → List CpInfo → List CpInfo
  | 0, r => r
  | n + 1, r => .unusable :: gap n r
def poolList (es : List (Nat × CpInfo)) (last : Nat) : List CpInfo := es.foldr (fun e r => gap e.1 (e.2 :: r)) (gap last [])
def pool (es : List (Nat × CpInfo)) (last : Nat) : Array CpInfo := ⟨poolList es last⟩
def fileOf (pool : Array CpInfo) (this : Nat) (attrs : Array Attribute := #[]) (ms : Array MethodInfo := #[]) (fl : Nat := 33) (sup : Nat := 0) (ifs : Array Nat := #[]) (fds : Array FieldInfo := #[]) : ClassFile where
  minorVersion := 0
  majorVersion := 65
  constantPool := pool
  accessFlags := fl
  thisClass := this
  superClass := sup
  interfaces := ifs
  fields := fds
  methods := ms
  attributes := attrs
def plain (name : String) (sup : Option ClassId) : Class where
  name := name
  kind := .ordinary
  loader := none
  accessFlags := 33
  super := sup
  interfaces := #[]
  cf := none
  fields := #[]
  methods := #[]
  instanceTypes := #[]
  staticTypes := #[]
  resolved := #[]
  callSites := []
  init := .initialized
  statics := none
  mirror := none

def pool0 : Array CpInfo := pool [(5, u "<init>"), (0, u "()V"), (1, .class_ 10), (1, u "java/lang/Object")] 113

def k0c0 : Code := { maxStack := 0, maxLocals := 1, code := object_method_1_code, exceptionTable := #[], attributes := #[] }
def k0m0 : Method := { name := "<init>", desc := "()V", sig := { parameters := [], returnType := none }, accessFlags := 1, code := some k0c0 }
/-- java/lang/Object -/
def k0 : Class := { plain "java/lang/Object" none with
  accessFlags := 33
  interfaces := #[]
  cf := some (fileOf pool0 8 #[] #[{ accessFlags := 1, nameIndex := 5, descriptorIndex := 6, attributes := #[] }] 33 0 #[] #[])
  fields := #[]
  methods := #[k0m0]
  instanceTypes := #[]
  staticTypes := #[]
  resolved := Array.replicate 124 none
  statics := none }

def pool1 : Array CpInfo := pool [(2, .class_ 4), (1, u "java/lang/Object"), (0, u "<init>"), (0, u "()V"), (0, .integer 65535), (0, .integer 55296), (0, .integer 57343), (0, .methodref 11 12), (0, .class_ 13), (0, .nameAndType 14 15), (0, u "com/example/portunus/portunus/core/KeySpaceLockKeyPinLaw"), (0, u "pc"), (0, u "(I)C"), (0, .class_ 17), (0, u "com/example/portunus/portunus/core/KeySpace"), (0, .class_ 19), (0, u "java/lang/String"), (0, .methodref 18 21), (0, .nameAndType 5 22), (0, u "([C)V"), (0, .methodref 16 24), (0, .nameAndType 5 25), (0, u "(Ljava/lang/String;)V"), (0, .methodref 11 27), (0, .nameAndType 28 15), (0, u "nc"), (0, .integer 56320), (0, .methodref 18 31), (0, .nameAndType 32 33), (0, u "valueOf"), (0, u "(C)Ljava/lang/String;"), (0, .methodref 16 35), (0, .nameAndType 36 37), (0, u "lockKey"), (0, u "(Ljava/lang/String;)Ljava/lang/String;"), (0, .methodref 18 39), (0, .nameAndType 40 41), (0, u "equals"), (0, u "(Ljava/lang/Object;)Z"), (3, u "law"), (0, u "(IIII)Z")] 4

def k1m0 : Method := { name := "<init>", desc := "()V", sig := { parameters := [], returnType := none }, accessFlags := 1, code := none }
def k1c1 : Code := { maxStack := 2, maxLocals := 2, code := method_2_code, exceptionTable := #[], attributes := #[] }
def k1m1 : Method := { name := "pc", desc := "(I)C", sig := { parameters := [.int], returnType := some .char }, accessFlags := 10, code := some k1c1 }
def k1c2 : Code := { maxStack := 2, maxLocals := 2, code := method_3_code, exceptionTable := #[], attributes := #[] }
def k1m2 : Method := { name := "nc", desc := "(I)C", sig := { parameters := [.int], returnType := some .char }, accessFlags := 10, code := some k1c2 }
def k1c3 : Code := { maxStack := 8, maxLocals := 16, code := code, exceptionTable := #[], attributes := #[] }
def k1m3 : Method := { name := "law", desc := "(IIII)Z", sig := { parameters := [.int, .int, .int, .int], returnType := some .boolean }, accessFlags := 9, code := some k1c3 }
/-- com/example/portunus/portunus/core/KeySpaceLockKeyPinLaw -/
def k1 : Class := { plain "com/example/portunus/portunus/core/KeySpaceLockKeyPinLaw" (some 0) with
  accessFlags := 49
  interfaces := #[]
  cf := some (fileOf pool1 11 #[] #[{ accessFlags := 1, nameIndex := 5, descriptorIndex := 6, attributes := #[] }, { accessFlags := 10, nameIndex := 14, descriptorIndex := 15, attributes := #[] }, { accessFlags := 10, nameIndex := 28, descriptorIndex := 15, attributes := #[] }, { accessFlags := 9, nameIndex := 45, descriptorIndex := 46, attributes := #[] }] 49 2 #[] #[])
  fields := #[]
  methods := #[k1m0, k1m1, k1m2, k1m3]
  instanceTypes := #[]
  staticTypes := #[]
  resolved := Array.replicate 51 none
  statics := none }

def pool2 : Array CpInfo := pool [(1, .methodref 2 3), (0, .class_ 4), (0, .nameAndType 5 6), (0, u "java/lang/Object"), (0, u "<init>"), (0, u "()V"), (0, .class_ 8), (0, u "java/lang/Record")] 13

def k2c0 : Code := { maxStack := 1, maxLocals := 1, code := jdk_30_method_1_code, exceptionTable := #[], attributes := #[] }
def k2m0 : Method := { name := "<init>", desc := "()V", sig := { parameters := [], returnType := none }, accessFlags := 4, code := some k2c0 }
/-- java/lang/Record -/
def k2 : Class := { plain "java/lang/Record" (some 0) with
  accessFlags := 1057
  interfaces := #[]
  cf := some (fileOf pool2 7 #[] #[{ accessFlags := 4, nameIndex := 5, descriptorIndex := 6, attributes := #[] }] 1057 2 #[] #[])
  fields := #[]
  methods := #[k2m0]
  instanceTypes := #[]
  staticTypes := #[]
  resolved := Array.replicate 22 none
  statics := none }

def pool3 : Array CpInfo := pool [(1, .methodref 2 3), (0, .class_ 4), (0, .nameAndType 5 6), (0, u "java/lang/Record"), (0, u "<init>"), (0, u "()V"), (0, .string 8), (0, u "key prefix"), (0, .class_ 10), (0, u "com/example/portunus/portunus/core/KeySpace"), (0, .methodref 9 12), (0, .nameAndType 13 14), (0, u "checkText"), (0, u "(Ljava/lang/String;Ljava/lang/String;I)V"), (0, .methodref 16 17), (0, .class_ 18), (0, .nameAndType 19 20), (0, u "java/lang/String"), (0, u "indexOf"), (0, u "(I)I"), (2, .class_ 24), (0, u "java/lang/StringBuilder"), (0, .methodref 23 3), (2, .methodref 23 29), (0, .nameAndType 30 31), (0, u "append"), (0, u "(Ljava/lang/String;)Ljava/lang/StringBuilder;"), (0, .methodref 23 33), (0, .nameAndType 34 35), (0, u "toString"), (0, u "()Ljava/lang/String;"), (2, u "(Ljava/lang/String;)V"), (0, .fieldref 9 40), (0, .nameAndType 41 42), (0, u "prefix"), (0, u "Ljava/lang/String;"), (0, .string 44), (0, u "lock name"), (0, .string 46), (0, u ":{"), (0, .methodref 23 48), (0, .nameAndType 30 49), (0, u "(C)Ljava/lang/StringBuilder;"), (8, .methodref 16 59), (0, .nameAndType 60 61), (0, u "length"), (0, u "()I"), (0, .methodref 16 63), (0, .nameAndType 64 65), (0, u "charAt"), (0, u "(I)C"), (0, .methodref 67 68), (0, .class_ 69), (0, .nameAndType 70 71), (0, u "java/lang/Character"), (0, u "isHighSurrogate"), (0, u "(C)Z"), (0, .methodref 67 73), (0, .nameAndType 74 71), (0, u "isLowSurrogate"), (0, .methodref 67 76), (0, .nameAndType 77 71), (0, u "isSurrogate"), (22, u "MAX_PREFIX_LENGTH"), (0, u "I"), (2, u "MAX_NAME_LENGTH"), (5, u "lockKey"), (0, u "(Ljava/lang/String;)Ljava/lang/String;")] 23

def k3c0 : Code := { maxStack := 4, maxLocals := 2, code := prog_7_method_1_code, exceptionTable := #[], attributes := #[] }
def k3m0 : Method := { name := "<init>", desc := "(Ljava/lang/String;)V", sig := { parameters := [(.object "java/lang/String")], returnType := none }, accessFlags := 1, code := some k3c0 }
def k3c1 : Code := { maxStack := 3, maxLocals := 2, code := prog_7_method_2_code, exceptionTable := #[], attributes := #[] }
def k3m1 : Method := { name := "lockKey", desc := "(Ljava/lang/String;)Ljava/lang/String;", sig := { parameters := [(.object "java/lang/String")], returnType := some (.object "java/lang/String") }, accessFlags := 1, code := some k3c1 }
def k3c2 : Code := { maxStack := 4, maxLocals := 6, code := prog_7_method_6_code, exceptionTable := #[], attributes := #[] }
def k3m2 : Method := { name := "checkText", desc := "(Ljava/lang/String;Ljava/lang/String;I)V", sig := { parameters := [(.object "java/lang/String"), (.object "java/lang/String"), .int], returnType := none }, accessFlags := 10, code := some k3c2 }
/-- com/example/portunus/portunus/core/KeySpace -/
def k3 : Class := { plain "com/example/portunus/portunus/core/KeySpace" (some 2) with
  accessFlags := 49
  interfaces := #[]
  cf := some (fileOf pool3 9 #[] #[{ accessFlags := 1, nameIndex := 5, descriptorIndex := 38, attributes := #[] }, { accessFlags := 1, nameIndex := 110, descriptorIndex := 111, attributes := #[] }, { accessFlags := 10, nameIndex := 13, descriptorIndex := 14, attributes := #[] }] 49 2 #[] #[{ accessFlags := 18, nameIndex := 41, descriptorIndex := 42, attributes := #[] }, { accessFlags := 25, nameIndex := 100, descriptorIndex := 101, attributes := #[] }, { accessFlags := 25, nameIndex := 104, descriptorIndex := 101, attributes := #[] }])
  fields := #[{ name := "prefix", type := (.object "java/lang/String"), accessFlags := 18, slot := 0, constantValue := 0 }, { name := "MAX_PREFIX_LENGTH", type := .int, accessFlags := 25, slot := 0, constantValue := 0 }, { name := "MAX_NAME_LENGTH", type := .int, accessFlags := 25, slot := 1, constantValue := 0 }]
  methods := #[k3m0, k3m1, k3m2]
  instanceTypes := #[(.object "java/lang/String")]
  staticTypes := #[.int, .int]
  resolved := Array.replicate 135 none
  statics := none }

def pool4 : Array CpInfo := pool [(1, .class_ 2), (0, u "java/io/Serializable"), (0, .class_ 4), (0, u "java/lang/Object")] 2

/-- java/io/Serializable -/
def k4 : Class := { plain "java/io/Serializable" (some 0) with
  accessFlags := 1537
  interfaces := #[]
  cf := some (fileOf pool4 1 #[] #[] 1537 3 #[] #[])
  fields := #[]
  methods := #[]
  instanceTypes := #[]
  staticTypes := #[]
  resolved := Array.replicate 7 none
  statics := none }

def pool5 : Array CpInfo := pool [(1, .class_ 2), (0, u "java/lang/Comparable"), (0, .class_ 4), (0, u "java/lang/Object")] 7

/-- java/lang/Comparable -/
def k5 : Class := { plain "java/lang/Comparable" (some 0) with
  accessFlags := 1537
  interfaces := #[]
  cf := some (fileOf pool5 1 #[] #[] 1537 3 #[] #[])
  fields := #[]
  methods := #[]
  instanceTypes := #[]
  staticTypes := #[]
  resolved := Array.replicate 12 none
  statics := none }

def pool6 : Array CpInfo := pool [(2, .class_ 4), (1, u "java/lang/CharSequence"), (42, .class_ 48), (0, u "java/lang/CharSequence$1CodePointIterator"), (10, .class_ 60), (0, u "java/lang/CharSequence$1CharIterator"), (5, .class_ 67), (0, u "java/lang/Object")] 63

/-- java/lang/CharSequence -/
def k6 : Class := { plain "java/lang/CharSequence" (some 0) with
  accessFlags := 1537
  interfaces := #[]
  cf := some (fileOf pool6 2 #[.nestMembers #[47, 59]] #[] 1537 66 #[] #[])
  fields := #[]
  methods := #[]
  instanceTypes := #[]
  staticTypes := #[]
  resolved := Array.replicate 131 none
  statics := none }

def pool7 : Array CpInfo := pool [(1, .class_ 2), (0, u "java/lang/constant/Constable"), (0, .class_ 4), (0, u "java/lang/Object")] 6

/-- java/lang/constant/Constable -/
def k7 : Class := { plain "java/lang/constant/Constable" (some 0) with
  accessFlags := 1537
  interfaces := #[]
  cf := some (fileOf pool7 1 #[] #[] 1537 3 #[] #[])
  fields := #[]
  methods := #[]
  instanceTypes := #[]
  staticTypes := #[]
  resolved := Array.replicate 11 none
  statics := none }

def pool8 : Array CpInfo := pool [(1, .class_ 2), (0, u "java/lang/constant/ConstantDesc"), (0, .class_ 4), (0, u "java/lang/Object")] 32

/-- java/lang/constant/ConstantDesc -/
def k8 : Class := { plain "java/lang/constant/ConstantDesc" (some 0) with
  accessFlags := 1537
  interfaces := #[]
  cf := some (fileOf pool8 1 #[] #[] 1537 3 #[] #[])
  fields := #[]
  methods := #[]
  instanceTypes := #[]
  staticTypes := #[]
  resolved := Array.replicate 37 none
  statics := none }

def pool9 : Array CpInfo := pool [(1, .methodref 2 3), (0, .class_ 4), (0, .nameAndType 5 6), (0, u "java/lang/Object"), (0, u "<init>"), (0, u "()V"), (2, .fieldref 10 11), (0, .class_ 12), (0, .nameAndType 13 14), (0, u "java/lang/String"), (0, u "value"), (0, u "[B"), (0, .fieldref 10 16), (0, .nameAndType 17 18), (0, u "coder"), (0, u "B"), (2, u "hash"), (0, u "I"), (2, u "hashIsZero"), (0, u "Z"), (0, .methodref 10 28), (0, .nameAndType 5 29), (0, u "([CIILjava/lang/Void;)V"), (6, u "checkBoundsOffCount"), (0, u "(III)I"), (0, .fieldref 10 39), (0, .nameAndType 40 26), (0, u "COMPACT_STRINGS"), (1, .class_ 44), (1, u "java/lang/StringUTF16"), (0, u "compress"), (1, .methodref 42 48), (0, .nameAndType 49 50), (0, u "coderFromArrayLen"), (0, u "([BI)B"), (2, u "toBytes"), (0, .methodref 55 56), (0, .class_ 57), (0, .nameAndType 58 59), (0, u "java/util/Arrays"), (0, u "copyOfRange"), (0, u "([BII)[B"), (46, .methodref 107 108), (0, .class_ 109), (0, .nameAndType 110 111), (0, u "java/lang/StringLatin1"), (0, u "inflate"), (0, u "([BI[BII)V"), (30, u "()Z"), (34, .methodref 42 178), (0, .nameAndType 45 179), (0, u "([CII)[B"), (13, .class_ 195), (1, u "java/lang/System"), (13, .methodref 10 210), (0, .nameAndType 5 211), (0, u "([BB)V"), (0, .methodref 193 213), (0, .nameAndType 214 215), (0, u "arraycopy"), (0, u "(Ljava/lang/Object;ILjava/lang/Object;II)V"), (118, u "()I"), (0, .methodref 10 336), (0, .nameAndType 17 337), (0, u "()B"), (2, u "()[B"), (22, u "([BI)C"), (5, u "(C)Z"), (21, u "(II)V"), (35, u "(I)C"), (61, .methodref 10 490), (0, .nameAndType 5 491), (0, u "(Ljava/lang/AbstractStringBuilder;Ljava/lang/Void;)V"), (0, .methodref 10 493), (0, .nameAndType 494 142), (0, u "isLatin1"), (0, .methodref 107 496), (0, .nameAndType 497 363), (0, u "charAt"), (0, .methodref 42 496), (2, u "checkIndex"), (3, .methodref 10 506), (0, .nameAndType 507 334), (0, u "length"), (5, u "checkFromToIndex"), (9, u "checkBoundsBeginEnd"), (0, u "(III)V"), (7, u "getBytes"), (8, .methodref 107 542), (0, .nameAndType 543 544), (0, u "equals"), (0, u "([B[B)Z"), (4, .methodref 550 506), (0, .class_ 551), (0, u "java/lang/AbstractStringBuilder"), (0, .methodref 550 553), (0, .nameAndType 554 340), (0, u "getValue"), (18, u "(Ljava/lang/Object;)Z"), (1, .class_ 576), (0, u "java/lang/CharSequence"), (22, u "CASE_INSENSITIVE_ORDER"), (0, u "Ljava/util/Comparator;"), (32, .methodref 10 634), (0, .nameAndType 635 636), (0, u "indexOf"), (0, u "(II)I"), (0, .methodref 107 638), (0, .nameAndType 635 639), (0, u "([BIII)I"), (0, .methodref 42 638), (124, u "(I)I"), (16, u "valueOf"), (0, u "(C)Ljava/lang/String;"), (37, u "([BIB)V"), (188, u "([C)V"), (4, .methodref 107 1016), (0, .nameAndType 1017 369), (0, u "canEncode"), (0, .methodref 107 1019), (0, .nameAndType 53 1020), (0, u "(C)[B"), (0, .methodref 42 1019), (25, .methodref 550 493), (0, .fieldref 550 1049), (0, .nameAndType 1050 26), (0, u "maybeLatin1"), (2, .fieldref 1054 1055), (0, .class_ 1056), (0, .nameAndType 1057 1058), (0, u "jdk/internal/util/Preconditions"), (0, u "SIOOBE_FORMATTER"), (0, u "Ljava/util/function/BiFunction;"), (0, .methodref 1054 1060), (0, .nameAndType 501 1061), (0, u "(IILjava/util/function/BiFunction;)I"), (0, .methodref 1054 1063), (0, .nameAndType 513 1064), (0, u "(IIILjava/util/function/BiFunction;)I"), (0, .methodref 1054 1066), (0, .nameAndType 1067 1064), (0, u "checkFromIndexSize"), (33, u "serialPersistentFields"), (0, u "[Ljava/io/ObjectStreamField;"), (0, .class_ 1104), (0, u "java/lang/String$CaseInsensitiveComparator"), (1, .class_ 1107), (0, u "java/io/Serializable"), (0, .class_ 1109), (0, u "java/lang/Comparable"), (0, .class_ 1111), (0, u "java/lang/constant/Constable"), (0, .class_ 1113), (0, u "java/lang/constant/ConstantDesc"), (2, u "serialVersionUID"), (0, u "J"), (3, u "REPL"), (0, u "C"), (2, u "LATIN1"), (1, u "UTF16"), (105, u "(Ljava/lang/StringBuilder;)V")] 217

def k9m0 : Method := { name := "<init>", desc := "()V", sig := { parameters := [], returnType := none }, accessFlags := 1, code := none }
def k9c1 : Code := { maxStack := 5, maxLocals := 2, code := jdk_42_method_3_code, exceptionTable := #[], attributes := #[] }
def k9m1 : Method := { name := "<init>", desc := "([C)V", sig := { parameters := [(.array .char)], returnType := none }, accessFlags := 1, code := some k9c1 }
def k9c2 : Code := { maxStack := 3, maxLocals := 2, code := jdk_42_method_53_code, exceptionTable := #[], attributes := #[] }
def k9m2 : Method := { name := "<init>", desc := "(Ljava/lang/StringBuilder;)V", sig := { parameters := [(.object "java/lang/StringBuilder")], returnType := none }, accessFlags := 1, code := some k9c2 }
def k9c3 : Code := { maxStack := 2, maxLocals := 1, code := jdk_42_method_54_code, exceptionTable := #[], attributes := #[] }
def k9m3 : Method := { name := "length", desc := "()I", sig := { parameters := [], returnType := some .int }, accessFlags := 1, code := some k9c3 }
def k9c4 : Code := { maxStack := 2, maxLocals := 2, code := jdk_42_method_56_code, exceptionTable := #[], attributes := #[] }
def k9m4 : Method := { name := "charAt", desc := "(I)C", sig := { parameters := [.int], returnType := some .char }, accessFlags := 1, code := some k9c4 }
def k9c5 : Code := { maxStack := 2, maxLocals := 3, code := jdk_42_method_66_code, exceptionTable := #[], attributes := #[] }
def k9m5 : Method := { name := "equals", desc := "(Ljava/lang/Object;)Z", sig := { parameters := [(.object "java/lang/Object")], returnType := some .boolean }, accessFlags := 1, code := some k9c5 }
def k9c6 : Code := { maxStack := 3, maxLocals := 2, code := jdk_42_method_79_code, exceptionTable := #[], attributes := #[] }
def k9m6 : Method := { name := "indexOf", desc := "(I)I", sig := { parameters := [.int], returnType := some .int }, accessFlags := 1, code := some k9c6 }
def k9c7 : Code := { maxStack := 4, maxLocals := 3, code := jdk_42_method_80_code, exceptionTable := #[], attributes := #[] }
def k9m7 : Method := { name := "indexOf", desc := "(II)I", sig := { parameters := [.int, .int], returnType := some .int }, accessFlags := 1, code := some k9c7 }
def k9c8 : Code := { maxStack := 4, maxLocals := 1, code := jdk_42_method_139_code, exceptionTable := #[], attributes := #[] }
def k9m8 : Method := { name := "valueOf", desc := "(C)Ljava/lang/String;", sig := { parameters := [.char], returnType := some (.object "java/lang/String") }, accessFlags := 9, code := some k9c8 }
def k9c9 : Code := { maxStack := 5, maxLocals := 4, code := jdk_42_method_147_code, exceptionTable := #[], attributes := #[] }
def k9m9 : Method := { name := "getBytes", desc := "([BIB)V", sig := { parameters := [(.array .byte), .int, .byte], returnType := none }, accessFlags := 0, code := some k9c9 }
def k9c10 : Code := { maxStack := 4, maxLocals := 6, code := jdk_42_method_149_code, exceptionTable := #[], attributes := #[] }
def k9m10 : Method := { name := "<init>", desc := "([CIILjava/lang/Void;)V", sig := { parameters := [(.array .char), .int, .int, (.object "java/lang/Void")], returnType := none }, accessFlags := 2, code := some k9c10 }
def k9c11 : Code := { maxStack := 5, maxLocals := 5, code := jdk_42_method_150_code, exceptionTable := #[], attributes := #[] }
def k9m11 : Method := { name := "<init>", desc := "(Ljava/lang/AbstractStringBuilder;Ljava/lang/Void;)V", sig := { parameters := [(.object "java/lang/AbstractStringBuilder"), (.object "java/lang/Void")], returnType := none }, accessFlags := 0, code := some k9c11 }
def k9c12 : Code := { maxStack := 2, maxLocals := 3, code := jdk_42_method_151_code, exceptionTable := #[], attributes := #[] }
def k9m12 : Method := { name := "<init>", desc := "([BB)V", sig := { parameters := [(.array .byte), .byte], returnType := none }, accessFlags := 0, code := some k9c12 }
def k9c13 : Code := { maxStack := 1, maxLocals := 1, code := jdk_42_method_152_code, exceptionTable := #[], attributes := #[] }
def k9m13 : Method := { name := "coder", desc := "()B", sig := { parameters := [], returnType := some .byte }, accessFlags := 0, code := some k9c13 }
def k9c14 : Code := { maxStack := 1, maxLocals := 1, code := jdk_42_method_154_code, exceptionTable := #[], attributes := #[] }
def k9m14 : Method := { name := "isLatin1", desc := "()Z", sig := { parameters := [], returnType := some .boolean }, accessFlags := 0, code := some k9c14 }
def k9c15 : Code := { maxStack := 3, maxLocals := 2, code := jdk_42_method_155_code, exceptionTable := #[], attributes := #[] }
def k9m15 : Method := { name := "checkIndex", desc := "(II)V", sig := { parameters := [.int, .int], returnType := none }, accessFlags := 8, code := some k9c15 }
def k9c16 : Code := { maxStack := 4, maxLocals := 3, code := jdk_42_method_157_code, exceptionTable := #[], attributes := #[] }
def k9m16 : Method := { name := "checkBoundsOffCount", desc := "(III)I", sig := { parameters := [.int, .int, .int], returnType := some .int }, accessFlags := 8, code := some k9c16 }
def k9c17 : Code := { maxStack := 4, maxLocals := 3, code := jdk_42_method_158_code, exceptionTable := #[], attributes := #[] }
def k9m17 : Method := { name := "checkBoundsBeginEnd", desc := "(III)V", sig := { parameters := [.int, .int, .int], returnType := none }, accessFlags := 8, code := some k9c17 }
/-- java/lang/String -/
def k9 : Class := { plain "java/lang/String" (some 0) with
  accessFlags := 49
  interfaces := #[4, 5, 6, 7, 8]
  cf := some (fileOf pool9 10 #[.nestMembers #[1103]] #[{ accessFlags := 1, nameIndex := 5, descriptorIndex := 6, attributes := #[] }, { accessFlags := 1, nameIndex := 5, descriptorIndex := 1010, attributes := #[] }, { accessFlags := 1, nameIndex := 5, descriptorIndex := 1233, attributes := #[] }, { accessFlags := 1, nameIndex := 507, descriptorIndex := 334, attributes := #[] }, { accessFlags := 1, nameIndex := 497, descriptorIndex := 427, attributes := #[] }, { accessFlags := 1, nameIndex := 543, descriptorIndex := 573, attributes := #[] }, { accessFlags := 1, nameIndex := 635, descriptorIndex := 765, attributes := #[] }, { accessFlags := 1, nameIndex := 635, descriptorIndex := 636, attributes := #[] }, { accessFlags := 9, nameIndex := 782, descriptorIndex := 783, attributes := #[] }, { accessFlags := 0, nameIndex := 532, descriptorIndex := 821, attributes := #[] }, { accessFlags := 2, nameIndex := 5, descriptorIndex := 29, attributes := #[] }, { accessFlags := 0, nameIndex := 5, descriptorIndex := 491, attributes := #[] }, { accessFlags := 0, nameIndex := 5, descriptorIndex := 211, attributes := #[] }, { accessFlags := 0, nameIndex := 17, descriptorIndex := 337, attributes := #[] }, { accessFlags := 0, nameIndex := 494, descriptorIndex := 142, attributes := #[] }, { accessFlags := 8, nameIndex := 501, descriptorIndex := 391, attributes := #[] }, { accessFlags := 8, nameIndex := 36, descriptorIndex := 37, attributes := #[] }, { accessFlags := 8, nameIndex := 523, descriptorIndex := 524, attributes := #[] }] 49 2 #[1106, 1108, 575, 1110, 1112] #[{ accessFlags := 18, nameIndex := 13, descriptorIndex := 14, attributes := #[] }, { accessFlags := 18, nameIndex := 17, descriptorIndex := 18, attributes := #[] }, { accessFlags := 2, nameIndex := 21, descriptorIndex := 22, attributes := #[] }, { accessFlags := 2, nameIndex := 25, descriptorIndex := 26, attributes := #[] }, { accessFlags := 26, nameIndex := 1116, descriptorIndex := 1117, attributes := #[] }, { accessFlags := 24, nameIndex := 40, descriptorIndex := 26, attributes := #[] }, { accessFlags := 26, nameIndex := 1101, descriptorIndex := 1102, attributes := #[] }, { accessFlags := 26, nameIndex := 1121, descriptorIndex := 1122, attributes := #[] }, { accessFlags := 25, nameIndex := 599, descriptorIndex := 600, attributes := #[] }, { accessFlags := 24, nameIndex := 1125, descriptorIndex := 18, attributes := #[] }, { accessFlags := 24, nameIndex := 1127, descriptorIndex := 18, attributes := #[] }])
  fields := #[{ name := "value", type := (.array .byte), accessFlags := 18, slot := 0, constantValue := 0 }, { name := "coder", type := .byte, accessFlags := 18, slot := 1, constantValue := 0 }, { name := "hash", type := .int, accessFlags := 2, slot := 2, constantValue := 0 }, { name := "hashIsZero", type := .boolean, accessFlags := 2, slot := 3, constantValue := 0 }, { name := "serialVersionUID", type := .long, accessFlags := 26, slot := 0, constantValue := 0 }, { name := "COMPACT_STRINGS", type := .boolean, accessFlags := 24, slot := 1, constantValue := 0 }, { name := "serialPersistentFields", type := (.array (.object "java/io/ObjectStreamField")), accessFlags := 26, slot := 2, constantValue := 0 }, { name := "REPL", type := .char, accessFlags := 26, slot := 3, constantValue := 0 }, { name := "CASE_INSENSITIVE_ORDER", type := (.object "java/util/Comparator"), accessFlags := 25, slot := 4, constantValue := 0 }, { name := "LATIN1", type := .byte, accessFlags := 24, slot := 5, constantValue := 0 }, { name := "UTF16", type := .byte, accessFlags := 24, slot := 6, constantValue := 0 }]
  methods := #[k9m0, k9m1, k9m2, k9m3, k9m4, k9m5, k9m6, k9m7, k9m8, k9m9, k9m10, k9m11, k9m12, k9m13, k9m14, k9m15, k9m16, k9m17]
  instanceTypes := #[(.array .byte), .byte, .int, .boolean]
  staticTypes := #[.long, .boolean, (.array (.object "java/io/ObjectStreamField")), .char, (.object "java/util/Comparator"), .byte, .byte]
  resolved := Array.replicate 1451 none
  statics := some 0 }

def pool10 : Array CpInfo := pool [(3, .class_ 4), (0, u "java/lang/String"), (1, .class_ 8), (1, u "java/lang/Object"), (0, u "<init>"), (0, u "()V"), (0, .methodref 12 13), (0, .class_ 14), (0, .nameAndType 15 16), (0, u "java/lang/StringUTF16"), (0, u "newBytesLength"), (0, u "(I)I"), (3, .integer 1073741823), (23, .fieldref 12 45), (0, .nameAndType 46 47), (0, u "$assertionsDisabled"), (0, u "Z"), (0, .methodref 12 49), (0, .nameAndType 50 51), (0, u "length"), (0, u "([B)I"), (7, .fieldref 12 60), (0, .nameAndType 61 62), (0, u "HI_BYTE_SHIFT"), (0, u "I"), (0, .fieldref 12 64), (0, .nameAndType 65 62), (0, u "LO_BYTE_SHIFT"), (1, .methodref 12 68), (0, .nameAndType 69 70), (0, u "checkIndex"), (0, u "(I[B)V"), (0, .methodref 12 72), (0, .nameAndType 73 74), (0, u "getChar"), (0, u "([BI)C"), (21, .methodref 12 97), (0, .nameAndType 98 99), (0, u "checkBoundsBeginEnd"), (0, u "(II[B)V"), (7, .methodref 12 108), (0, .nameAndType 109 110), (0, u "newBytesFor"), (0, u "(I)[B"), (0, .methodref 12 112), (0, .nameAndType 113 114), (0, u "putChar"), (0, u "([BII)V"), (0, .methodref 12 116), (0, .nameAndType 117 118), (0, u "compress"), (0, u "([CI[BII)I"), (0, .methodref 12 120), (0, .nameAndType 121 122), (0, u "toBytes"), (0, u "([CII)[B"), (17, u "inflate"), (0, u "([BI[BII)V"), (31, .methodref 12 174), (0, .nameAndType 175 99), (0, u "checkBoundsOffCount"), (7, .methodref 184 185), (0, .class_ 186), (0, .nameAndType 187 188), (0, u "java/lang/Math"), (0, u "min"), (0, u "(II)I"), (35, .methodref 184 225), (0, .nameAndType 226 188), (0, u "max"), (0, .integer 65536), (0, .methodref 12 229), (0, .nameAndType 230 231), (0, u "indexOfChar"), (0, u "([BIII)I"), (9, .methodref 3 242), (0, .nameAndType 98 243), (0, u "(III)V"), (0, .methodref 12 245), (0, .nameAndType 246 231), (0, u "indexOfCharUnsafe"), (14, u "coderFromArrayLen"), (0, u "([BI)B"), (5, u "indexOf"), (12, u "(III)I"), (87, .class_ 371), (1, u "java/lang/StringUTF16$LinesSpliterator"), (20, u "charAt"), (21, .methodref 3 415), (0, .nameAndType 69 416), (0, u "(II)V"), (2, .methodref 3 420), (0, .nameAndType 175 281), (9, u "MAX_LENGTH"), (44, u "(C)[B"), (110, u "putCharSB"), (40, .class_ 628), (0, u "java/lang/StringUTF16$CodePointsSpliterator"), (0, .class_ 630), (0, u "java/lang/StringUTF16$CharsSpliterator")] 4

def k10m0 : Method := { name := "<init>", desc := "()V", sig := { parameters := [], returnType := none }, accessFlags := 0, code := none }
def k10c1 : Code := { maxStack := 1, maxLocals := 1, code := jdk_52_method_2_code, exceptionTable := #[], attributes := #[] }
def k10m1 : Method := { name := "newBytesFor", desc := "(I)[B", sig := { parameters := [.int], returnType := some (.array .byte) }, accessFlags := 9, code := some k10c1 }
def k10c2 : Code := { maxStack := 4, maxLocals := 1, code := jdk_52_method_3_code, exceptionTable := #[], attributes := #[] }
def k10m2 : Method := { name := "newBytesLength", desc := "(I)I", sig := { parameters := [.int], returnType := some .int }, accessFlags := 9, code := some k10c2 }
def k10c3 : Code := { maxStack := 4, maxLocals := 3, code := jdk_52_method_4_code, exceptionTable := #[], attributes := #[] }
def k10m3 : Method := { name := "putChar", desc := "([BII)V", sig := { parameters := [(.array .byte), .int, .int], returnType := none }, accessFlags := 8, code := some k10c3 }
def k10c4 : Code := { maxStack := 3, maxLocals := 2, code := jdk_52_method_5_code, exceptionTable := #[], attributes := #[] }
def k10m4 : Method := { name := "getChar", desc := "([BI)C", sig := { parameters := [(.array .byte), .int], returnType := some .char }, accessFlags := 8, code := some k10c4 }
def k10c5 : Code := { maxStack := 2, maxLocals := 1, code := jdk_52_method_6_code, exceptionTable := #[], attributes := #[] }
def k10m5 : Method := { name := "length", desc := "([B)I", sig := { parameters := [(.array .byte)], returnType := some .int }, accessFlags := 9, code := some k10c5 }
def k10c6 : Code := { maxStack := 4, maxLocals := 5, code := jdk_52_method_14_code, exceptionTable := #[], attributes := #[] }
def k10m6 : Method := { name := "toBytes", desc := "([CII)[B", sig := { parameters := [(.array .char), .int, .int], returnType := some (.array .byte) }, accessFlags := 9, code := some k10c6 }
def k10c7 : Code := { maxStack := 2, maxLocals := 2, code := jdk_52_method_15_code, exceptionTable := #[], attributes := #[] }
def k10m7 : Method := { name := "coderFromArrayLen", desc := "([BI)B", sig := { parameters := [(.array .byte), .int], returnType := some .byte }, accessFlags := 8, code := some k10c7 }
def k10c8 : Code := { maxStack := 5, maxLocals := 6, code := jdk_52_method_16_code, exceptionTable := #[], attributes := #[] }
def k10m8 : Method := { name := "compress", desc := "([CII)[B", sig := { parameters := [(.array .char), .int, .int], returnType := some (.array .byte) }, accessFlags := 9, code := some k10c8 }
def k10c9 : Code := { maxStack := 3, maxLocals := 7, code := jdk_52_method_21_code, exceptionTable := #[], attributes := #[] }
def k10m9 : Method := { name := "compress", desc := "([CI[BII)I", sig := { parameters := [(.array .char), .int, (.array .byte), .int, .int], returnType := some .int }, accessFlags := 9, code := some k10c9 }
def k10c10 : Code := { maxStack := 3, maxLocals := 2, code := jdk_52_method_24_code, exceptionTable := #[], attributes := #[] }
def k10m10 : Method := { name := "toBytes", desc := "(C)[B", sig := { parameters := [.char], returnType := some (.array .byte) }, accessFlags := 9, code := some k10c10 }
def k10c11 : Code := { maxStack := 4, maxLocals := 4, code := jdk_52_method_40_code, exceptionTable := #[], attributes := #[] }
def k10m11 : Method := { name := "indexOf", desc := "([BIII)I", sig := { parameters := [(.array .byte), .int, .int, .int], returnType := some .int }, accessFlags := 9, code := some k10c11 }
def k10c12 : Code := { maxStack := 4, maxLocals := 4, code := jdk_52_method_47_code, exceptionTable := #[], attributes := #[] }
def k10m12 : Method := { name := "indexOfChar", desc := "([BIII)I", sig := { parameters := [(.array .byte), .int, .int, .int], returnType := some .int }, accessFlags := 10, code := some k10c12 }
def k10c13 : Code := { maxStack := 2, maxLocals := 5, code := jdk_52_method_48_code, exceptionTable := #[], attributes := #[] }
def k10m13 : Method := { name := "indexOfCharUnsafe", desc := "([BIII)I", sig := { parameters := [(.array .byte), .int, .int, .int], returnType := some .int }, accessFlags := 10, code := some k10c13 }
def k10c14 : Code := { maxStack := 3, maxLocals := 3, code := jdk_52_method_71_code, exceptionTable := #[], attributes := #[] }
def k10m14 : Method := { name := "putCharSB", desc := "([BII)V", sig := { parameters := [(.array .byte), .int, .int], returnType := none }, accessFlags := 9, code := some k10c14 }
def k10c15 : Code := { maxStack := 2, maxLocals := 2, code := jdk_52_method_83_code, exceptionTable := #[], attributes := #[] }
def k10m15 : Method := { name := "charAt", desc := "([BI)C", sig := { parameters := [(.array .byte), .int], returnType := some .char }, accessFlags := 9, code := some k10c15 }
def k10c16 : Code := { maxStack := 4, maxLocals := 6, code := jdk_52_method_86_code, exceptionTable := #[], attributes := #[] }
def k10m16 : Method := { name := "inflate", desc := "([BI[BII)V", sig := { parameters := [(.array .byte), .int, (.array .byte), .int, .int], returnType := none }, accessFlags := 9, code := some k10c16 }
def k10c17 : Code := { maxStack := 2, maxLocals := 2, code := jdk_52_method_91_code, exceptionTable := #[], attributes := #[] }
def k10m17 : Method := { name := "checkIndex", desc := "(I[B)V", sig := { parameters := [.int, (.array .byte)], returnType := none }, accessFlags := 9, code := some k10c17 }
def k10c18 : Code := { maxStack := 3, maxLocals := 3, code := jdk_52_method_93_code, exceptionTable := #[], attributes := #[] }
def k10m18 : Method := { name := "checkBoundsBeginEnd", desc := "(II[B)V", sig := { parameters := [.int, .int, (.array .byte)], returnType := none }, accessFlags := 9, code := some k10c18 }
def k10c19 : Code := { maxStack := 3, maxLocals := 3, code := jdk_52_method_94_code, exceptionTable := #[], attributes := #[] }
def k10m19 : Method := { name := "checkBoundsOffCount", desc := "(II[B)V", sig := { parameters := [.int, .int, (.array .byte)], returnType := none }, accessFlags := 9, code := some k10c19 }
/-- java/lang/StringUTF16 -/
def k10 : Class := { plain "java/lang/StringUTF16" (some 0) with
  accessFlags := 48
  interfaces := #[]
  cf := some (fileOf pool10 12 #[.nestMembers #[627, 629, 369]] #[{ accessFlags := 0, nameIndex := 9, descriptorIndex := 10, attributes := #[] }, { accessFlags := 9, nameIndex := 109, descriptorIndex := 110, attributes := #[] }, { accessFlags := 9, nameIndex := 15, descriptorIndex := 16, attributes := #[] }, { accessFlags := 8, nameIndex := 113, descriptorIndex := 114, attributes := #[] }, { accessFlags := 8, nameIndex := 73, descriptorIndex := 74, attributes := #[] }, { accessFlags := 9, nameIndex := 50, descriptorIndex := 51, attributes := #[] }, { accessFlags := 9, nameIndex := 121, descriptorIndex := 122, attributes := #[] }, { accessFlags := 8, nameIndex := 261, descriptorIndex := 262, attributes := #[] }, { accessFlags := 9, nameIndex := 117, descriptorIndex := 122, attributes := #[] }, { accessFlags := 9, nameIndex := 117, descriptorIndex := 118, attributes := #[] }, { accessFlags := 9, nameIndex := 121, descriptorIndex := 475, attributes := #[] }, { accessFlags := 9, nameIndex := 268, descriptorIndex := 231, attributes := #[] }, { accessFlags := 10, nameIndex := 230, descriptorIndex := 231, attributes := #[] }, { accessFlags := 10, nameIndex := 246, descriptorIndex := 231, attributes := #[] }, { accessFlags := 9, nameIndex := 586, descriptorIndex := 114, attributes := #[] }, { accessFlags := 9, nameIndex := 392, descriptorIndex := 74, attributes := #[] }, { accessFlags := 9, nameIndex := 140, descriptorIndex := 141, attributes := #[] }, { accessFlags := 9, nameIndex := 69, descriptorIndex := 70, attributes := #[] }, { accessFlags := 9, nameIndex := 98, descriptorIndex := 99, attributes := #[] }, { accessFlags := 9, nameIndex := 175, descriptorIndex := 99, attributes := #[] }] 48 6 #[] #[{ accessFlags := 26, nameIndex := 61, descriptorIndex := 62, attributes := #[] }, { accessFlags := 26, nameIndex := 65, descriptorIndex := 62, attributes := #[] }, { accessFlags := 24, nameIndex := 430, descriptorIndex := 62, attributes := #[] }, { accessFlags := 4120, nameIndex := 46, descriptorIndex := 47, attributes := #[] }])
  fields := #[{ name := "HI_BYTE_SHIFT", type := .int, accessFlags := 26, slot := 0, constantValue := 0 }, { name := "LO_BYTE_SHIFT", type := .int, accessFlags := 26, slot := 1, constantValue := 0 }, { name := "MAX_LENGTH", type := .int, accessFlags := 24, slot := 2, constantValue := 0 }, { name := "$assertionsDisabled", type := .boolean, accessFlags := 4120, slot := 3, constantValue := 0 }]
  methods := #[k10m0, k10m1, k10m2, k10m3, k10m4, k10m5, k10m6, k10m7, k10m8, k10m9, k10m10, k10m11, k10m12, k10m13, k10m14, k10m15, k10m16, k10m17, k10m18, k10m19]
  instanceTypes := #[]
  staticTypes := #[.int, .int, .int, .boolean]
  resolved := Array.replicate 635 none
  statics := some 1 }

def pool11 : Array CpInfo := pool [(1, .class_ 2), (0, u "java/lang/String"), (1, .class_ 6), (1, u "java/lang/Object"), (0, u "<init>"), (0, u "()V"), (0, .methodref 1 10), (0, .nameAndType 11 12), (0, u "checkIndex"), (0, u "(II)V"), (1, .class_ 16), (1, u "java/lang/StringLatin1"), (0, u "inflate"), (2, .class_ 22), (1, u "java/lang/StringUTF16"), (3, .nameAndType 17 27), (0, u "([BI[BII)V"), (10, .methodref 39 40), (0, .class_ 41), (0, .nameAndType 42 43), (0, u "java/lang/Math"), (0, u "min"), (0, u "(II)I"), (9, u "([BI)C"), (34, .methodref 14 89), (0, .nameAndType 90 91), (0, u "canEncode"), (0, u "(I)Z"), (0, .methodref 39 93), (0, .nameAndType 94 43), (0, u "max"), (0, .methodref 14 96), (0, .nameAndType 97 98), (0, u "indexOfChar"), (0, u "([BIII)I"), (2, u "indexOf"), (3, u "(C)Z"), (15, u "$assertionsDisabled"), (0, u "Z"), (98, .class_ 223), (1, u "java/lang/StringLatin1$LinesSpliterator"), (16, .methodref 20 26), (11, u "charAt"), (28, u "equals"), (0, u "([B[B)Z"), (97, u "toBytes"), (1, u "(C)[B"), (7, .class_ 391), (0, u "java/lang/StringLatin1$CharsSpliterator")] 3

def k11m0 : Method := { name := "<init>", desc := "()V", sig := { parameters := [], returnType := none }, accessFlags := 0, code := none }
def k11c1 : Code := { maxStack := 2, maxLocals := 2, code := jdk_43_method_2_code, exceptionTable := #[], attributes := #[] }
def k11m1 : Method := { name := "charAt", desc := "([BI)C", sig := { parameters := [(.array .byte), .int], returnType := some .char }, accessFlags := 9, code := some k11c1 }
def k11c2 : Code := { maxStack := 2, maxLocals := 1, code := jdk_43_method_3_code, exceptionTable := #[], attributes := #[] }
def k11m2 : Method := { name := "canEncode", desc := "(C)Z", sig := { parameters := [.char], returnType := some .boolean }, accessFlags := 9, code := some k11c2 }
def k11c3 : Code := { maxStack := 2, maxLocals := 1, code := jdk_43_method_4_code, exceptionTable := #[], attributes := #[] }
def k11m3 : Method := { name := "canEncode", desc := "(I)Z", sig := { parameters := [.int], returnType := some .boolean }, accessFlags := 9, code := some k11c3 }
def k11c4 : Code := { maxStack := 3, maxLocals := 3, code := jdk_43_method_13_code, exceptionTable := #[], attributes := #[] }
def k11m4 : Method := { name := "equals", desc := "([B[B)Z", sig := { parameters := [(.array .byte), (.array .byte)], returnType := some .boolean }, accessFlags := 9, code := some k11c4 }
def k11c5 : Code := { maxStack := 4, maxLocals := 4, code := jdk_43_method_22_code, exceptionTable := #[], attributes := #[] }
def k11m5 : Method := { name := "indexOf", desc := "([BIII)I", sig := { parameters := [(.array .byte), .int, .int, .int], returnType := some .int }, accessFlags := 9, code := some k11c5 }
def k11c6 : Code := { maxStack := 2, maxLocals := 6, code := jdk_43_method_23_code, exceptionTable := #[], attributes := #[] }
def k11m6 : Method := { name := "indexOfChar", desc := "([BIII)I", sig := { parameters := [(.array .byte), .int, .int, .int], returnType := some .int }, accessFlags := 10, code := some k11c6 }
def k11c7 : Code := { maxStack := 4, maxLocals := 1, code := jdk_43_method_46_code, exceptionTable := #[], attributes := #[] }
def k11m7 : Method := { name := "toBytes", desc := "(C)[B", sig := { parameters := [.char], returnType := some (.array .byte) }, accessFlags := 9, code := some k11c7 }
def k11c8 : Code := { maxStack := 5, maxLocals := 5, code := jdk_43_method_50_code, exceptionTable := #[], attributes := #[] }
def k11m8 : Method := { name := "inflate", desc := "([BI[BII)V", sig := { parameters := [(.array .byte), .int, (.array .byte), .int, .int], returnType := none }, accessFlags := 9, code := some k11c8 }
/-- java/lang/StringLatin1 -/
def k11 : Class := { plain "java/lang/StringLatin1" (some 0) with
  accessFlags := 48
  interfaces := #[]
  cf := some (fileOf pool11 14 #[.nestMembers #[390, 221]] #[{ accessFlags := 0, nameIndex := 7, descriptorIndex := 8, attributes := #[] }, { accessFlags := 9, nameIndex := 252, descriptorIndex := 53, attributes := #[] }, { accessFlags := 9, nameIndex := 90, descriptorIndex := 105, attributes := #[] }, { accessFlags := 9, nameIndex := 90, descriptorIndex := 91, attributes := #[] }, { accessFlags := 9, nameIndex := 281, descriptorIndex := 282, attributes := #[] }, { accessFlags := 9, nameIndex := 101, descriptorIndex := 98, attributes := #[] }, { accessFlags := 10, nameIndex := 97, descriptorIndex := 98, attributes := #[] }, { accessFlags := 9, nameIndex := 380, descriptorIndex := 382, attributes := #[] }, { accessFlags := 9, nameIndex := 17, descriptorIndex := 27, attributes := #[] }] 48 4 #[] #[{ accessFlags := 4120, nameIndex := 121, descriptorIndex := 122, attributes := #[] }])
  fields := #[{ name := "$assertionsDisabled", type := .boolean, accessFlags := 4120, slot := 0, constantValue := 0 }]
  methods := #[k11m0, k11m1, k11m2, k11m3, k11m4, k11m5, k11m6, k11m7, k11m8]
  instanceTypes := #[]
  staticTypes := #[.boolean]
  resolved := Array.replicate 395 none
  statics := none }

def pool12 : Array CpInfo := pool [(2, .class_ 4), (1, u "java/lang/Object"), (0, u "<init>"), (0, u "()V"), (17, .class_ 26), (1, u "jdk/internal/util/Preconditions"), (6, u "checkIndex"), (13, u "checkFromToIndex"), (1, u "checkFromIndexSize"), (5, .class_ 56), (0, u "jdk/internal/util/Preconditions$4"), (57, .class_ 115), (0, u "jdk/internal/util/Preconditions$1"), (7, u "SIOOBE_FORMATTER"), (0, u "Ljava/util/function/BiFunction;"), (0, .class_ 126), (0, u "jdk/internal/util/Preconditions$2"), (3, u "AIOOBE_FORMATTER"), (0, .class_ 132), (0, u "jdk/internal/util/Preconditions$3"), (3, u "IOOBE_FORMATTER"), (41, u "(IILjava/util/function/BiFunction;)I"), (4, u "(IIILjava/util/function/BiFunction;)I")] 10

def k12m0 : Method := { name := "<init>", desc := "()V", sig := { parameters := [], returnType := none }, accessFlags := 1, code := none }
def k12c1 : Code := { maxStack := 3, maxLocals := 3, code := jdk_41_method_11_code, exceptionTable := #[], attributes := #[] }
def k12m1 : Method := { name := "checkIndex", desc := "(IILjava/util/function/BiFunction;)I", sig := { parameters := [.int, .int, (.object "java/util/function/BiFunction")], returnType := some .int }, accessFlags := 9, code := some k12c1 }
def k12c2 : Code := { maxStack := 4, maxLocals := 4, code := jdk_41_method_12_code, exceptionTable := #[], attributes := #[] }
def k12m2 : Method := { name := "checkFromToIndex", desc := "(IIILjava/util/function/BiFunction;)I", sig := { parameters := [.int, .int, .int, (.object "java/util/function/BiFunction")], returnType := some .int }, accessFlags := 9, code := some k12c2 }
def k12c3 : Code := { maxStack := 4, maxLocals := 4, code := jdk_41_method_13_code, exceptionTable := #[], attributes := #[] }
def k12m3 : Method := { name := "checkFromIndexSize", desc := "(IIILjava/util/function/BiFunction;)I", sig := { parameters := [.int, .int, .int, (.object "java/util/function/BiFunction")], returnType := some .int }, accessFlags := 9, code := some k12c3 }
/-- jdk/internal/util/Preconditions -/
def k12 : Class := { plain "jdk/internal/util/Preconditions" (some 0) with
  accessFlags := 33
  interfaces := #[]
  cf := some (fileOf pool12 24 #[.nestMembers #[55, 131, 125, 114]] #[{ accessFlags := 1, nameIndex := 5, descriptorIndex := 6, attributes := #[] }, { accessFlags := 9, nameIndex := 33, descriptorIndex := 178, attributes := #[] }, { accessFlags := 9, nameIndex := 47, descriptorIndex := 183, attributes := #[] }, { accessFlags := 9, nameIndex := 49, descriptorIndex := 183, attributes := #[] }] 33 2 #[] #[{ accessFlags := 25, nameIndex := 123, descriptorIndex := 124, attributes := #[] }, { accessFlags := 25, nameIndex := 130, descriptorIndex := 124, attributes := #[] }, { accessFlags := 25, nameIndex := 136, descriptorIndex := 124, attributes := #[] }])
  fields := #[{ name := "SIOOBE_FORMATTER", type := (.object "java/util/function/BiFunction"), accessFlags := 25, slot := 0, constantValue := 0 }, { name := "AIOOBE_FORMATTER", type := (.object "java/util/function/BiFunction"), accessFlags := 25, slot := 1, constantValue := 0 }, { name := "IOOBE_FORMATTER", type := (.object "java/util/function/BiFunction"), accessFlags := 25, slot := 2, constantValue := 0 }]
  methods := #[k12m0, k12m1, k12m2, k12m3]
  instanceTypes := #[]
  staticTypes := #[(.object "java/util/function/BiFunction"), (.object "java/util/function/BiFunction"), (.object "java/util/function/BiFunction")]
  resolved := Array.replicate 194 none
  statics := some 2 }

def pool13 : Array CpInfo := pool [(1, .class_ 2), (0, u "java/lang/Character"), (18, u "value"), (0, u "C"), (19, .class_ 44), (1, u "java/lang/Object"), (3, .class_ 50), (1, u "java/lang/Character$CharacterCache"), (24, .integer 55296), (0, .integer 56320), (0, .integer 57344), (2, u "isHighSurrogate"), (0, u "(C)Z"), (2, u "isLowSurrogate"), (199, u "$assertionsDisabled"), (0, u "Z"), (21, .class_ 309), (1, u "java/lang/Character$UnicodeBlock"), (73, u "TYPE"), (0, u "Ljava/lang/Class;"), (0, .class_ 386), (0, u "java/io/Serializable"), (0, .class_ 388), (0, u "java/lang/Comparable"), (0, .class_ 390), (0, u "java/lang/constant/Constable"), (0, u "MIN_RADIX"), (0, u "I"), (2, u "MAX_RADIX"), (1, u "MIN_VALUE"), (1, u "MAX_VALUE"), (3, u "UNASSIGNED"), (0, u "B"), (0, u "UPPERCASE_LETTER"), (1, u "LOWERCASE_LETTER"), (0, u "TITLECASE_LETTER"), (1, u "MODIFIER_LETTER"), (1, u "OTHER_LETTER"), (1, u "NON_SPACING_MARK"), (1, u "ENCLOSING_MARK"), (1, u "COMBINING_SPACING_MARK"), (1, u "DECIMAL_DIGIT_NUMBER"), (1, u "LETTER_NUMBER"), (1, u "OTHER_NUMBER"), (1, u "SPACE_SEPARATOR"), (1, u "LINE_SEPARATOR"), (1, u "PARAGRAPH_SEPARATOR"), (1, u "CONTROL"), (1, u "FORMAT"), (1, u "PRIVATE_USE"), (1, u "SURROGATE"), (1, u "DASH_PUNCTUATION"), (1, u "START_PUNCTUATION"), (1, u "END_PUNCTUATION"), (1, u "CONNECTOR_PUNCTUATION"), (1, u "OTHER_PUNCTUATION"), (1, u "MATH_SYMBOL"), (1, u "CURRENCY_SYMBOL"), (1, u "MODIFIER_SYMBOL"), (1, u "OTHER_SYMBOL"), (1, u "INITIAL_QUOTE_PUNCTUATION"), (1, u "FINAL_QUOTE_PUNCTUATION"), (1, u "ERROR"), (1, u "DIRECTIONALITY_UNDEFINED"), (0, u "DIRECTIONALITY_LEFT_TO_RIGHT"), (0, u "DIRECTIONALITY_RIGHT_TO_LEFT"), (0, u "DIRECTIONALITY_RIGHT_TO_LEFT_ARABIC"), (0, u "DIRECTIONALITY_EUROPEAN_NUMBER"), (0, u "DIRECTIONALITY_EUROPEAN_NUMBER_SEPARATOR"), (0, u "DIRECTIONALITY_EUROPEAN_NUMBER_TERMINATOR"), (0, u "DIRECTIONALITY_ARABIC_NUMBER"), (0, u "DIRECTIONALITY_COMMON_NUMBER_SEPARATOR"), (0, u "DIRECTIONALITY_NONSPACING_MARK"), (0, u "DIRECTIONALITY_BOUNDARY_NEUTRAL"), (0, u "DIRECTIONALITY_PARAGRAPH_SEPARATOR"), (0, u "DIRECTIONALITY_SEGMENT_SEPARATOR"), (0, u "DIRECTIONALITY_WHITESPACE"), (0, u "DIRECTIONALITY_OTHER_NEUTRALS"), (0, u "DIRECTIONALITY_LEFT_TO_RIGHT_EMBEDDING"), (0, u "DIRECTIONALITY_LEFT_TO_RIGHT_OVERRIDE"), (0, u "DIRECTIONALITY_RIGHT_TO_LEFT_EMBEDDING"), (0, u "DIRECTIONALITY_RIGHT_TO_LEFT_OVERRIDE"), (1, u "DIRECTIONALITY_POP_DIRECTIONAL_FORMAT"), (0, u "DIRECTIONALITY_LEFT_TO_RIGHT_ISOLATE"), (0, u "DIRECTIONALITY_RIGHT_TO_LEFT_ISOLATE"), (0, u "DIRECTIONALITY_FIRST_STRONG_ISOLATE"), (0, u "DIRECTIONALITY_POP_DIRECTIONAL_ISOLATE"), (0, u "MIN_HIGH_SURROGATE"), (0, u "MAX_HIGH_SURROGATE"), (1, u "MIN_LOW_SURROGATE"), (0, u "MAX_LOW_SURROGATE"), (1, u "MIN_SURROGATE"), (0, u "MAX_SURROGATE"), (0, u "MIN_SUPPLEMENTARY_CODE_POINT"), (0, u "MIN_CODE_POINT"), (0, u "MAX_CODE_POINT"), (1, u "serialVersionUID"), (0, u "J"), (2, u "SIZE"), (0, u "BYTES"), (24, u "isSurrogate"), (63, .class_ 596), (0, u "java/lang/Character$UnicodeScript"), (0, .class_ 598), (0, u "java/lang/Character$Subset")] 5

def k13c0 : Code := { maxStack := 2, maxLocals := 1, code := jdk_89_method_14_code, exceptionTable := #[], attributes := #[] }
def k13m0 : Method := { name := "isHighSurrogate", desc := "(C)Z", sig := { parameters := [.char], returnType := some .boolean }, accessFlags := 9, code := some k13c0 }
def k13c1 : Code := { maxStack := 2, maxLocals := 1, code := jdk_89_method_15_code, exceptionTable := #[], attributes := #[] }
def k13m1 : Method := { name := "isLowSurrogate", desc := "(C)Z", sig := { parameters := [.char], returnType := some .boolean }, accessFlags := 9, code := some k13c1 }
def k13c2 : Code := { maxStack := 2, maxLocals := 1, code := jdk_89_method_16_code, exceptionTable := #[], attributes := #[] }
def k13m2 : Method := { name := "isSurrogate", desc := "(C)Z", sig := { parameters := [.char], returnType := some .boolean }, accessFlags := 9, code := some k13c2 }
/-- java/lang/Character -/
def k13 : Class := { plain "java/lang/Character" (some 0) with
  accessFlags := 49
  interfaces := #[4, 5, 7]
  cf := some (fileOf pool13 1 #[.nestMembers #[48, 595, 307, 597]] #[{ accessFlags := 9, nameIndex := 80, descriptorIndex := 81, attributes := #[] }, { accessFlags := 9, nameIndex := 84, descriptorIndex := 81, attributes := #[] }, { accessFlags := 9, nameIndex := 531, descriptorIndex := 81, attributes := #[] }] 49 42 #[385, 387, 389] #[{ accessFlags := 25, nameIndex := 391, descriptorIndex := 392, attributes := #[] }, { accessFlags := 25, nameIndex := 395, descriptorIndex := 392, attributes := #[] }, { accessFlags := 25, nameIndex := 397, descriptorIndex := 22, attributes := #[] }, { accessFlags := 25, nameIndex := 399, descriptorIndex := 22, attributes := #[] }, { accessFlags := 25, nameIndex := 383, descriptorIndex := 384, attributes := #[] }, { accessFlags := 25, nameIndex := 403, descriptorIndex := 404, attributes := #[] }, { accessFlags := 25, nameIndex := 405, descriptorIndex := 404, attributes := #[] }, { accessFlags := 25, nameIndex := 407, descriptorIndex := 404, attributes := #[] }, { accessFlags := 25, nameIndex := 408, descriptorIndex := 404, attributes := #[] }, { accessFlags := 25, nameIndex := 410, descriptorIndex := 404, attributes := #[] }, { accessFlags := 25, nameIndex := 412, descriptorIndex := 404, attributes := #[] }, { accessFlags := 25, nameIndex := 414, descriptorIndex := 404, attributes := #[] }, { accessFlags := 25, nameIndex := 416, descriptorIndex := 404, attributes := #[] }, { accessFlags := 25, nameIndex := 418, descriptorIndex := 404, attributes := #[] }, { accessFlags := 25, nameIndex := 420, descriptorIndex := 404, attributes := #[] }, { accessFlags := 25, nameIndex := 422, descriptorIndex := 404, attributes := #[] }, { accessFlags := 25, nameIndex := 424, descriptorIndex := 404, attributes := #[] }, { accessFlags := 25, nameIndex := 426, descriptorIndex := 404, attributes := #[] }, { accessFlags := 25, nameIndex := 428, descriptorIndex := 404, attributes := #[] }, { accessFlags := 25, nameIndex := 430, descriptorIndex := 404, attributes := #[] }, { accessFlags := 25, nameIndex := 432, descriptorIndex := 404, attributes := #[] }, { accessFlags := 25, nameIndex := 434, descriptorIndex := 404, attributes := #[] }, { accessFlags := 25, nameIndex := 436, descriptorIndex := 404, attributes := #[] }, { accessFlags := 25, nameIndex := 438, descriptorIndex := 404, attributes := #[] }, { accessFlags := 25, nameIndex := 440, descriptorIndex := 404, attributes := #[] }, { accessFlags := 25, nameIndex := 442, descriptorIndex := 404, attributes := #[] }, { accessFlags := 25, nameIndex := 444, descriptorIndex := 404, attributes := #[] }, { accessFlags := 25, nameIndex := 446, descriptorIndex := 404, attributes := #[] }, { accessFlags := 25, nameIndex := 448, descriptorIndex := 404, attributes := #[] }, { accessFlags := 25, nameIndex := 450, descriptorIndex := 404, attributes := #[] }, { accessFlags := 25, nameIndex := 452, descriptorIndex := 404, attributes := #[] }, { accessFlags := 25, nameIndex := 454, descriptorIndex := 404, attributes := #[] }, { accessFlags := 25, nameIndex := 456, descriptorIndex := 404, attributes := #[] }, { accessFlags := 25, nameIndex := 458, descriptorIndex := 404, attributes := #[] }, { accessFlags := 25, nameIndex := 460, descriptorIndex := 404, attributes := #[] }, { accessFlags := 24, nameIndex := 462, descriptorIndex := 392, attributes := #[] }, { accessFlags := 25, nameIndex := 464, descriptorIndex := 404, attributes := #[] }, { accessFlags := 25, nameIndex := 465, descriptorIndex := 404, attributes := #[] }, { accessFlags := 25, nameIndex := 466, descriptorIndex := 404, attributes := #[] }, { accessFlags := 25, nameIndex := 467, descriptorIndex := 404, attributes := #[] }, { accessFlags := 25, nameIndex := 468, descriptorIndex := 404, attributes := #[] }, { accessFlags := 25, nameIndex := 469, descriptorIndex := 404, attributes := #[] }, { accessFlags := 25, nameIndex := 470, descriptorIndex := 404, attributes := #[] }, { accessFlags := 25, nameIndex := 471, descriptorIndex := 404, attributes := #[] }, { accessFlags := 25, nameIndex := 472, descriptorIndex := 404, attributes := #[] }, { accessFlags := 25, nameIndex := 473, descriptorIndex := 404, attributes := #[] }, { accessFlags := 25, nameIndex := 474, descriptorIndex := 404, attributes := #[] }, { accessFlags := 25, nameIndex := 475, descriptorIndex := 404, attributes := #[] }, { accessFlags := 25, nameIndex := 476, descriptorIndex := 404, attributes := #[] }, { accessFlags := 25, nameIndex := 477, descriptorIndex := 404, attributes := #[] }, { accessFlags := 25, nameIndex := 478, descriptorIndex := 404, attributes := #[] }, { accessFlags := 25, nameIndex := 479, descriptorIndex := 404, attributes := #[] }, { accessFlags := 25, nameIndex := 480, descriptorIndex := 404, attributes := #[] }, { accessFlags := 25, nameIndex := 481, descriptorIndex := 404, attributes := #[] }, { accessFlags := 25, nameIndex := 482, descriptorIndex := 404, attributes := #[] }, { accessFlags := 25, nameIndex := 484, descriptorIndex := 404, attributes := #[] }, { accessFlags := 25, nameIndex := 485, descriptorIndex := 404, attributes := #[] }, { accessFlags := 25, nameIndex := 486, descriptorIndex := 404, attributes := #[] }, { accessFlags := 25, nameIndex := 487, descriptorIndex := 404, attributes := #[] }, { accessFlags := 25, nameIndex := 488, descriptorIndex := 404, attributes := #[] }, { accessFlags := 25, nameIndex := 489, descriptorIndex := 22, attributes := #[] }, { accessFlags := 25, nameIndex := 490, descriptorIndex := 22, attributes := #[] }, { accessFlags := 25, nameIndex := 492, descriptorIndex := 22, attributes := #[] }, { accessFlags := 25, nameIndex := 493, descriptorIndex := 22, attributes := #[] }, { accessFlags := 25, nameIndex := 495, descriptorIndex := 22, attributes := #[] }, { accessFlags := 25, nameIndex := 496, descriptorIndex := 22, attributes := #[] }, { accessFlags := 25, nameIndex := 497, descriptorIndex := 392, attributes := #[] }, { accessFlags := 25, nameIndex := 498, descriptorIndex := 392, attributes := #[] }, { accessFlags := 25, nameIndex := 499, descriptorIndex := 392, attributes := #[] }, { accessFlags := 18, nameIndex := 21, descriptorIndex := 22, attributes := #[] }, { accessFlags := 26, nameIndex := 501, descriptorIndex := 502, attributes := #[] }, { accessFlags := 25, nameIndex := 505, descriptorIndex := 392, attributes := #[] }, { accessFlags := 25, nameIndex := 506, descriptorIndex := 392, attributes := #[] }, { accessFlags := 4120, nameIndex := 284, descriptorIndex := 285, attributes := #[] }])
  fields := #[{ name := "MIN_RADIX", type := .int, accessFlags := 25, slot := 0, constantValue := 0 }, { name := "MAX_RADIX", type := .int, accessFlags := 25, slot := 1, constantValue := 0 }, { name := "MIN_VALUE", type := .char, accessFlags := 25, slot := 2, constantValue := 0 }, { name := "MAX_VALUE", type := .char, accessFlags := 25, slot := 3, constantValue := 0 }, { name := "TYPE", type := (.object "java/lang/Class"), accessFlags := 25, slot := 4, constantValue := 0 }, { name := "UNASSIGNED", type := .byte, accessFlags := 25, slot := 5, constantValue := 0 }, { name := "UPPERCASE_LETTER", type := .byte, accessFlags := 25, slot := 6, constantValue := 0 }, { name := "LOWERCASE_LETTER", type := .byte, accessFlags := 25, slot := 7, constantValue := 0 }, { name := "TITLECASE_LETTER", type := .byte, accessFlags := 25, slot := 8, constantValue := 0 }, { name := "MODIFIER_LETTER", type := .byte, accessFlags := 25, slot := 9, constantValue := 0 }, { name := "OTHER_LETTER", type := .byte, accessFlags := 25, slot := 10, constantValue := 0 }, { name := "NON_SPACING_MARK", type := .byte, accessFlags := 25, slot := 11, constantValue := 0 }, { name := "ENCLOSING_MARK", type := .byte, accessFlags := 25, slot := 12, constantValue := 0 }, { name := "COMBINING_SPACING_MARK", type := .byte, accessFlags := 25, slot := 13, constantValue := 0 }, { name := "DECIMAL_DIGIT_NUMBER", type := .byte, accessFlags := 25, slot := 14, constantValue := 0 }, { name := "LETTER_NUMBER", type := .byte, accessFlags := 25, slot := 15, constantValue := 0 }, { name := "OTHER_NUMBER", type := .byte, accessFlags := 25, slot := 16, constantValue := 0 }, { name := "SPACE_SEPARATOR", type := .byte, accessFlags := 25, slot := 17, constantValue := 0 }, { name := "LINE_SEPARATOR", type := .byte, accessFlags := 25, slot := 18, constantValue := 0 }, { name := "PARAGRAPH_SEPARATOR", type := .byte, accessFlags := 25, slot := 19, constantValue := 0 }, { name := "CONTROL", type := .byte, accessFlags := 25, slot := 20, constantValue := 0 }, { name := "FORMAT", type := .byte, accessFlags := 25, slot := 21, constantValue := 0 }, { name := "PRIVATE_USE", type := .byte, accessFlags := 25, slot := 22, constantValue := 0 }, { name := "SURROGATE", type := .byte, accessFlags := 25, slot := 23, constantValue := 0 }, { name := "DASH_PUNCTUATION", type := .byte, accessFlags := 25, slot := 24, constantValue := 0 }, { name := "START_PUNCTUATION", type := .byte, accessFlags := 25, slot := 25, constantValue := 0 }, { name := "END_PUNCTUATION", type := .byte, accessFlags := 25, slot := 26, constantValue := 0 }, { name := "CONNECTOR_PUNCTUATION", type := .byte, accessFlags := 25, slot := 27, constantValue := 0 }, { name := "OTHER_PUNCTUATION", type := .byte, accessFlags := 25, slot := 28, constantValue := 0 }, { name := "MATH_SYMBOL", type := .byte, accessFlags := 25, slot := 29, constantValue := 0 }, { name := "CURRENCY_SYMBOL", type := .byte, accessFlags := 25, slot := 30, constantValue := 0 }, { name := "MODIFIER_SYMBOL", type := .byte, accessFlags := 25, slot := 31, constantValue := 0 }, { name := "OTHER_SYMBOL", type := .byte, accessFlags := 25, slot := 32, constantValue := 0 }, { name := "INITIAL_QUOTE_PUNCTUATION", type := .byte, accessFlags := 25, slot := 33, constantValue := 0 }, { name := "FINAL_QUOTE_PUNCTUATION", type := .byte, accessFlags := 25, slot := 34, constantValue := 0 }, { name := "ERROR", type := .int, accessFlags := 24, slot := 35, constantValue := 0 }, { name := "DIRECTIONALITY_UNDEFINED", type := .byte, accessFlags := 25, slot := 36, constantValue := 0 }, { name := "DIRECTIONALITY_LEFT_TO_RIGHT", type := .byte, accessFlags := 25, slot := 37, constantValue := 0 }, { name := "DIRECTIONALITY_RIGHT_TO_LEFT", type := .byte, accessFlags := 25, slot := 38, constantValue := 0 }, { name := "DIRECTIONALITY_RIGHT_TO_LEFT_ARABIC", type := .byte, accessFlags := 25, slot := 39, constantValue := 0 }, { name := "DIRECTIONALITY_EUROPEAN_NUMBER", type := .byte, accessFlags := 25, slot := 40, constantValue := 0 }, { name := "DIRECTIONALITY_EUROPEAN_NUMBER_SEPARATOR", type := .byte, accessFlags := 25, slot := 41, constantValue := 0 }, { name := "DIRECTIONALITY_EUROPEAN_NUMBER_TERMINATOR", type := .byte, accessFlags := 25, slot := 42, constantValue := 0 }, { name := "DIRECTIONALITY_ARABIC_NUMBER", type := .byte, accessFlags := 25, slot := 43, constantValue := 0 }, { name := "DIRECTIONALITY_COMMON_NUMBER_SEPARATOR", type := .byte, accessFlags := 25, slot := 44, constantValue := 0 }, { name := "DIRECTIONALITY_NONSPACING_MARK", type := .byte, accessFlags := 25, slot := 45, constantValue := 0 }, { name := "DIRECTIONALITY_BOUNDARY_NEUTRAL", type := .byte, accessFlags := 25, slot := 46, constantValue := 0 }, { name := "DIRECTIONALITY_PARAGRAPH_SEPARATOR", type := .byte, accessFlags := 25, slot := 47, constantValue := 0 }, { name := "DIRECTIONALITY_SEGMENT_SEPARATOR", type := .byte, accessFlags := 25, slot := 48, constantValue := 0 }, { name := "DIRECTIONALITY_WHITESPACE", type := .byte, accessFlags := 25, slot := 49, constantValue := 0 }, { name := "DIRECTIONALITY_OTHER_NEUTRALS", type := .byte, accessFlags := 25, slot := 50, constantValue := 0 }, { name := "DIRECTIONALITY_LEFT_TO_RIGHT_EMBEDDING", type := .byte, accessFlags := 25, slot := 51, constantValue := 0 }, { name := "DIRECTIONALITY_LEFT_TO_RIGHT_OVERRIDE", type := .byte, accessFlags := 25, slot := 52, constantValue := 0 }, { name := "DIRECTIONALITY_RIGHT_TO_LEFT_EMBEDDING", type := .byte, accessFlags := 25, slot := 53, constantValue := 0 }, { name := "DIRECTIONALITY_RIGHT_TO_LEFT_OVERRIDE", type := .byte, accessFlags := 25, slot := 54, constantValue := 0 }, { name := "DIRECTIONALITY_POP_DIRECTIONAL_FORMAT", type := .byte, accessFlags := 25, slot := 55, constantValue := 0 }, { name := "DIRECTIONALITY_LEFT_TO_RIGHT_ISOLATE", type := .byte, accessFlags := 25, slot := 56, constantValue := 0 }, { name := "DIRECTIONALITY_RIGHT_TO_LEFT_ISOLATE", type := .byte, accessFlags := 25, slot := 57, constantValue := 0 }, { name := "DIRECTIONALITY_FIRST_STRONG_ISOLATE", type := .byte, accessFlags := 25, slot := 58, constantValue := 0 }, { name := "DIRECTIONALITY_POP_DIRECTIONAL_ISOLATE", type := .byte, accessFlags := 25, slot := 59, constantValue := 0 }, { name := "MIN_HIGH_SURROGATE", type := .char, accessFlags := 25, slot := 60, constantValue := 0 }, { name := "MAX_HIGH_SURROGATE", type := .char, accessFlags := 25, slot := 61, constantValue := 0 }, { name := "MIN_LOW_SURROGATE", type := .char, accessFlags := 25, slot := 62, constantValue := 0 }, { name := "MAX_LOW_SURROGATE", type := .char, accessFlags := 25, slot := 63, constantValue := 0 }, { name := "MIN_SURROGATE", type := .char, accessFlags := 25, slot := 64, constantValue := 0 }, { name := "MAX_SURROGATE", type := .char, accessFlags := 25, slot := 65, constantValue := 0 }, { name := "MIN_SUPPLEMENTARY_CODE_POINT", type := .int, accessFlags := 25, slot := 66, constantValue := 0 }, { name := "MIN_CODE_POINT", type := .int, accessFlags := 25, slot := 67, constantValue := 0 }, { name := "MAX_CODE_POINT", type := .int, accessFlags := 25, slot := 68, constantValue := 0 }, { name := "value", type := .char, accessFlags := 18, slot := 0, constantValue := 0 }, { name := "serialVersionUID", type := .long, accessFlags := 26, slot := 69, constantValue := 0 }, { name := "SIZE", type := .int, accessFlags := 25, slot := 70, constantValue := 0 }, { name := "BYTES", type := .int, accessFlags := 25, slot := 71, constantValue := 0 }, { name := "$assertionsDisabled", type := .boolean, accessFlags := 4120, slot := 72, constantValue := 0 }]
  methods := #[k13m0, k13m1, k13m2]
  instanceTypes := #[.char]
  staticTypes := #[.int, .int, .char, .char, (.object "java/lang/Class"), .byte, .byte, .byte, .byte, .byte, .byte, .byte, .byte, .byte, .byte, .byte, .byte, .byte, .byte, .byte, .byte, .byte, .byte, .byte, .byte, .byte, .byte, .byte, .byte, .byte, .byte, .byte, .byte, .byte, .byte, .int, .byte, .byte, .byte, .byte, .byte, .byte, .byte, .byte, .byte, .byte, .byte, .byte, .byte, .byte, .byte, .byte, .byte, .byte, .byte, .byte, .byte, .byte, .byte, .byte, .char, .char, .char, .char, .char, .char, .int, .int, .int, .long, .int, .int, .boolean]
  resolved := Array.replicate 604 none
  statics := none }

def pool14 : Array CpInfo := pool [(1, .class_ 2), (0, u "java/lang/Math"), (1, .class_ 6), (1, u "java/lang/Object"), (0, u "<init>"), (0, u "()V"), (89, .class_ 100), (1, u "java/lang/Math$RandomNumberGeneratorHolder"), (71, u "negativeZeroFloatBits"), (0, u "J"), (2, u "negativeZeroDoubleBits"), (21, u "max"), (2, u "min"), (43, u "$assertionsDisabled"), (0, u "Z"), (88, u "(II)I"), (2, u "twoToTheDoubleScaleDown"), (0, u "D"), (4, u "twoToTheDoubleScaleUp"), (9, u "E"), (3, u "PI"), (2, u "TAU"), (2, u "DEGREES_TO_RADIANS"), (0, u "RADIANS_TO_DEGREES")] 94

def k14m0 : Method := { name := "<init>", desc := "()V", sig := { parameters := [], returnType := none }, accessFlags := 2, code := none }
def k14c1 : Code := { maxStack := 2, maxLocals := 2, code := jdk_29_method_65_code, exceptionTable := #[], attributes := #[] }
def k14m1 : Method := { name := "max", desc := "(II)I", sig := { parameters := [.int, .int], returnType := some .int }, accessFlags := 9, code := some k14c1 }
def k14c2 : Code := { maxStack := 2, maxLocals := 2, code := jdk_29_method_69_code, exceptionTable := #[], attributes := #[] }
def k14m2 : Method := { name := "min", desc := "(II)I", sig := { parameters := [.int, .int], returnType := some .int }, accessFlags := 9, code := some k14c2 }
/-- java/lang/Math -/
def k14 : Class := { plain "java/lang/Math" (some 0) with
  accessFlags := 49
  interfaces := #[]
  cf := some (fileOf pool14 1 #[.nestMembers #[98]] #[{ accessFlags := 2, nameIndex := 7, descriptorIndex := 8, attributes := #[] }, { accessFlags := 9, nameIndex := 198, descriptorIndex := 335, attributes := #[] }, { accessFlags := 9, nameIndex := 201, descriptorIndex := 335, attributes := #[] }] 49 4 #[] #[{ accessFlags := 25, nameIndex := 354, descriptorIndex := 339, attributes := #[] }, { accessFlags := 25, nameIndex := 358, descriptorIndex := 339, attributes := #[] }, { accessFlags := 25, nameIndex := 361, descriptorIndex := 339, attributes := #[] }, { accessFlags := 26, nameIndex := 364, descriptorIndex := 339, attributes := #[] }, { accessFlags := 26, nameIndex := 365, descriptorIndex := 339, attributes := #[] }, { accessFlags := 26, nameIndex := 172, descriptorIndex := 173, attributes := #[] }, { accessFlags := 26, nameIndex := 176, descriptorIndex := 173, attributes := #[] }, { accessFlags := 8, nameIndex := 344, descriptorIndex := 339, attributes := #[] }, { accessFlags := 8, nameIndex := 338, descriptorIndex := 339, attributes := #[] }, { accessFlags := 4120, nameIndex := 245, descriptorIndex := 246, attributes := #[] }])
  fields := #[{ name := "E", type := .double, accessFlags := 25, slot := 0, constantValue := 0 }, { name := "PI", type := .double, accessFlags := 25, slot := 1, constantValue := 0 }, { name := "TAU", type := .double, accessFlags := 25, slot := 2, constantValue := 0 }, { name := "DEGREES_TO_RADIANS", type := .double, accessFlags := 26, slot := 3, constantValue := 0 }, { name := "RADIANS_TO_DEGREES", type := .double, accessFlags := 26, slot := 4, constantValue := 0 }, { name := "negativeZeroFloatBits", type := .long, accessFlags := 26, slot := 5, constantValue := 0 }, { name := "negativeZeroDoubleBits", type := .long, accessFlags := 26, slot := 6, constantValue := 0 }, { name := "twoToTheDoubleScaleUp", type := .double, accessFlags := 8, slot := 7, constantValue := 0 }, { name := "twoToTheDoubleScaleDown", type := .double, accessFlags := 8, slot := 8, constantValue := 0 }, { name := "$assertionsDisabled", type := .boolean, accessFlags := 4120, slot := 9, constantValue := 0 }]
  methods := #[k14m0, k14m1, k14m2]
  instanceTypes := #[]
  staticTypes := #[.double, .double, .double, .double, .double, .long, .long, .double, .double, .boolean]
  resolved := Array.replicate 460 none
  statics := none }

def pool15 : Array CpInfo := pool [(1, .class_ 2), (0, u "java/lang/Appendable"), (0, .class_ 4), (0, u "java/lang/Object")] 9

/-- java/lang/Appendable -/
def k15 : Class := { plain "java/lang/Appendable" (some 0) with
  accessFlags := 1537
  interfaces := #[]
  cf := some (fileOf pool15 1 #[] #[] 1537 3 #[] #[])
  fields := #[]
  methods := #[]
  instanceTypes := #[]
  staticTypes := #[]
  resolved := Array.replicate 14 none
  statics := none }

def pool16 : Array CpInfo := pool [(1, .class_ 2), (0, u "java/lang/String"), (0, .methodref 4 5), (0, .class_ 6), (0, .nameAndType 7 8), (0, u "java/lang/Object"), (0, u "<init>"), (0, u "()V"), (1, .class_ 12), (1, u "java/lang/AbstractStringBuilder"), (0, u "EMPTYVALUE"), (0, u "[B"), (0, .fieldref 10 16), (0, .nameAndType 17 14), (0, u "value"), (0, .fieldref 1 19), (0, .nameAndType 20 21), (0, u "COMPACT_STRINGS"), (0, u "Z"), (0, .fieldref 10 23), (0, .nameAndType 24 25), (0, u "coder"), (0, u "B"), (0, .methodref 27 28), (0, .class_ 29), (0, .nameAndType 30 31), (0, u "java/lang/StringUTF16"), (0, u "newBytesFor"), (0, u "(I)[B"), (0, .methodref 1 33), (0, .nameAndType 34 35), (0, u "length"), (0, u "()I"), (3, .integer 2147483647), (0, .methodref 1 41), (0, .nameAndType 24 42), (0, u "()B"), (2, u "append"), (0, u "(Ljava/lang/String;)Ljava/lang/AbstractStringBuilder;"), (1, .class_ 49), (0, u "java/lang/CharSequence"), (19, u "(Ljava/lang/String;)V"), (5, u "maybeLatin1"), (3, .fieldref 10 80), (0, .nameAndType 81 82), (0, u "count"), (0, u "I"), (0, .methodref 10 84), (0, .nameAndType 85 86), (0, u "isLatin1"), (0, u "()Z"), (1, .class_ 90), (1, u "java/lang/StringLatin1"), (9, .methodref 10 101), (0, .nameAndType 102 103), (0, u "ensureCapacityInternal"), (0, u "(I)V"), (0, .methodref 10 105), (0, .nameAndType 106 107), (0, u "newCapacity"), (0, u "(I)I"), (0, .methodref 109 110), (0, .class_ 111), (0, .nameAndType 112 113), (0, u "java/util/Arrays"), (0, u "copyOf"), (0, u "([BI)[B"), (0, .methodref 115 116), (0, .class_ 117), (0, .nameAndType 118 119), (0, u "jdk/internal/util/ArraysSupport"), (0, u "newLength"), (0, u "(III)I"), (5, .methodref 88 126), (0, .nameAndType 127 128), (0, u "inflate"), (0, u "([BI[BII)V"), (7, u "([BII)V"), (54, .methodref 88 192), (0, .nameAndType 193 194), (0, u "canEncode"), (0, u "(C)Z"), (0, .methodref 10 196), (0, .nameAndType 127 8), (0, .methodref 27 198), (0, .nameAndType 199 136), (0, u "putCharSB"), (8, .methodref 10 209), (0, .nameAndType 210 211), (0, u "putStringAt"), (0, u "(ILjava/lang/String;)V"), (5, u "inflateIfNeededFor"), (2, .nameAndType 221 222), (0, u "getBytes"), (0, u "([BIB)V"), (69, u "(C)Ljava/lang/AbstractStringBuilder;"), (104, .methodref 10 398), (0, .nameAndType 217 69), (0, .methodref 1 220), (3, u "()[B"), (40, .class_ 445), (0, u "java/lang/Appendable"), (106, u "getValue")] 56

def k16m0 : Method := { name := "<init>", desc := "()V", sig := { parameters := [], returnType := none }, accessFlags := 0, code := none }
def k16c1 : Code := { maxStack := 2, maxLocals := 2, code := jdk_68_method_2_code, exceptionTable := #[], attributes := #[] }
def k16m1 : Method := { name := "<init>", desc := "(I)V", sig := { parameters := [.int], returnType := none }, accessFlags := 0, code := some k16c1 }
def k16c2 : Code := { maxStack := 1, maxLocals := 1, code := jdk_68_method_6_code, exceptionTable := #[], attributes := #[] }
def k16m2 : Method := { name := "length", desc := "()I", sig := { parameters := [], returnType := some .int }, accessFlags := 1, code := some k16c2 }
def k16c3 : Code := { maxStack := 4, maxLocals := 3, code := jdk_68_method_9_code, exceptionTable := #[], attributes := #[] }
def k16m3 : Method := { name := "ensureCapacityInternal", desc := "(I)V", sig := { parameters := [.int], returnType := none }, accessFlags := 2, code := some k16c3 }
def k16c4 : Code := { maxStack := 5, maxLocals := 6, code := jdk_68_method_10_code, exceptionTable := #[], attributes := #[] }
def k16m4 : Method := { name := "newCapacity", desc := "(I)I", sig := { parameters := [.int], returnType := some .int }, accessFlags := 2, code := some k16c4 }
def k16c5 : Code := { maxStack := 5, maxLocals := 2, code := jdk_68_method_11_code, exceptionTable := #[], attributes := #[] }
def k16m5 : Method := { name := "inflate", desc := "()V", sig := { parameters := [], returnType := none }, accessFlags := 2, code := some k16c5 }
def k16c6 : Code := { maxStack := 3, maxLocals := 3, code := jdk_68_method_22_code, exceptionTable := #[], attributes := #[] }
def k16m6 : Method := { name := "append", desc := "(Ljava/lang/String;)Ljava/lang/AbstractStringBuilder;", sig := { parameters := [(.object "java/lang/String")], returnType := some (.object "java/lang/AbstractStringBuilder") }, accessFlags := 1, code := some k16c6 }
def k16c7 : Code := { maxStack := 5, maxLocals := 2, code := jdk_68_method_31_code, exceptionTable := #[], attributes := #[] }
def k16m7 : Method := { name := "append", desc := "(C)Ljava/lang/AbstractStringBuilder;", sig := { parameters := [.char], returnType := some (.object "java/lang/AbstractStringBuilder") }, accessFlags := 1, code := some k16c7 }
def k16c8 : Code := { maxStack := 1, maxLocals := 1, code := jdk_68_method_64_code, exceptionTable := #[], attributes := #[] }
def k16m8 : Method := { name := "getValue", desc := "()[B", sig := { parameters := [], returnType := some (.array .byte) }, accessFlags := 16, code := some k16c8 }
def k16c9 : Code := { maxStack := 1, maxLocals := 1, code := jdk_68_method_68_code, exceptionTable := #[], attributes := #[] }
def k16m9 : Method := { name := "isLatin1", desc := "()Z", sig := { parameters := [], returnType := some .boolean }, accessFlags := 16, code := some k16c9 }
def k16c10 : Code := { maxStack := 2, maxLocals := 2, code := jdk_68_method_71_code, exceptionTable := #[], attributes := #[] }
def k16m10 : Method := { name := "inflateIfNeededFor", desc := "(Ljava/lang/String;)V", sig := { parameters := [(.object "java/lang/String")], returnType := none }, accessFlags := 2, code := some k16c10 }
def k16c11 : Code := { maxStack := 4, maxLocals := 3, code := jdk_68_method_73_code, exceptionTable := #[], attributes := #[] }
def k16m11 : Method := { name := "putStringAt", desc := "(ILjava/lang/String;)V", sig := { parameters := [.int, (.object "java/lang/String")], returnType := none }, accessFlags := 2, code := some k16c11 }
/-- java/lang/AbstractStringBuilder -/
def k16 : Class := { plain "java/lang/AbstractStringBuilder" (some 0) with
  accessFlags := 1056
  interfaces := #[15, 6]
  cf := some (fileOf pool16 10 #[] #[{ accessFlags := 0, nameIndex := 7, descriptorIndex := 8, attributes := #[] }, { accessFlags := 0, nameIndex := 7, descriptorIndex := 103, attributes := #[] }, { accessFlags := 1, nameIndex := 34, descriptorIndex := 35, attributes := #[] }, { accessFlags := 2, nameIndex := 102, descriptorIndex := 103, attributes := #[] }, { accessFlags := 2, nameIndex := 106, descriptorIndex := 107, attributes := #[] }, { accessFlags := 2, nameIndex := 127, descriptorIndex := 8, attributes := #[] }, { accessFlags := 1, nameIndex := 45, descriptorIndex := 46, attributes := #[] }, { accessFlags := 1, nameIndex := 45, descriptorIndex := 292, attributes := #[] }, { accessFlags := 16, nameIndex := 552, descriptorIndex := 403, attributes := #[] }, { accessFlags := 16, nameIndex := 85, descriptorIndex := 86, attributes := #[] }, { accessFlags := 2, nameIndex := 217, descriptorIndex := 69, attributes := #[] }, { accessFlags := 2, nameIndex := 210, descriptorIndex := 211, attributes := #[] }] 1056 4 #[444, 48] #[{ accessFlags := 0, nameIndex := 17, descriptorIndex := 14, attributes := #[] }, { accessFlags := 0, nameIndex := 24, descriptorIndex := 25, attributes := #[] }, { accessFlags := 0, nameIndex := 75, descriptorIndex := 21, attributes := #[] }, { accessFlags := 0, nameIndex := 81, descriptorIndex := 82, attributes := #[] }, { accessFlags := 26, nameIndex := 13, descriptorIndex := 14, attributes := #[] }])
  fields := #[{ name := "value", type := (.array .byte), accessFlags := 0, slot := 0, constantValue := 0 }, { name := "coder", type := .byte, accessFlags := 0, slot := 1, constantValue := 0 }, { name := "maybeLatin1", type := .boolean, accessFlags := 0, slot := 2, constantValue := 0 }, { name := "count", type := .int, accessFlags := 0, slot := 3, constantValue := 0 }, { name := "EMPTYVALUE", type := (.array .byte), accessFlags := 26, slot := 0, constantValue := 0 }]
  methods := #[k16m0, k16m1, k16m2, k16m3, k16m4, k16m5, k16m6, k16m7, k16m8, k16m9, k16m10, k16m11]
  instanceTypes := #[(.array .byte), .byte, .boolean, .int]
  staticTypes := #[(.array .byte)]
  resolved := Array.replicate 609 none
  statics := none }

def pool17 : Array CpInfo := pool [(1, .methodref 2 3), (0, .class_ 4), (0, .nameAndType 5 6), (0, u "java/lang/AbstractStringBuilder"), (0, u "<init>"), (0, u "(I)V"), (11, .class_ 20), (1, u "java/lang/String"), (3, .class_ 26), (1, u "java/lang/StringBuilder"), (0, u "append"), (0, u "(Ljava/lang/String;)Ljava/lang/StringBuilder;"), (0, .methodref 2 30), (0, .nameAndType 27 31), (0, u "(Ljava/lang/String;)Ljava/lang/AbstractStringBuilder;"), (18, .methodref 2 51), (0, .nameAndType 27 52), (0, u "(C)Ljava/lang/AbstractStringBuilder;"), (84, .methodref 18 138), (0, .nameAndType 5 139), (0, u "(Ljava/lang/StringBuilder;)V"), (5, u "()V"), (10, u "()I"), (129, u "(C)Ljava/lang/StringBuilder;"), (56, .methodref 2 344), (0, .nameAndType 345 156), (0, u "length"), (3, .class_ 350), (0, u "java/lang/Appendable"), (0, .class_ 352), (0, u "java/io/Serializable"), (0, .class_ 354), (0, u "java/lang/Comparable"), (0, .class_ 356), (0, u "java/lang/CharSequence"), (0, u "serialVersionUID"), (0, u "J"), (40, u "toString"), (0, u "()Ljava/lang/String;")] 21

def k17c0 : Code := { maxStack := 2, maxLocals := 1, code := jdk_67_method_1_code, exceptionTable := #[], attributes := #[] }
def k17m0 : Method := { name := "<init>", desc := "()V", sig := { parameters := [], returnType := none }, accessFlags := 1, code := some k17c0 }
def k17c1 : Code := { maxStack := 2, maxLocals := 2, code := jdk_67_method_7_code, exceptionTable := #[], attributes := #[] }
def k17m1 : Method := { name := "append", desc := "(Ljava/lang/String;)Ljava/lang/StringBuilder;", sig := { parameters := [(.object "java/lang/String")], returnType := some (.object "java/lang/StringBuilder") }, accessFlags := 1, code := some k17c1 }
def k17c2 : Code := { maxStack := 2, maxLocals := 2, code := jdk_67_method_14_code, exceptionTable := #[], attributes := #[] }
def k17m2 : Method := { name := "append", desc := "(C)Ljava/lang/StringBuilder;", sig := { parameters := [.char], returnType := some (.object "java/lang/StringBuilder") }, accessFlags := 1, code := some k17c2 }
def k17c3 : Code := { maxStack := 3, maxLocals := 1, code := jdk_67_method_42_code, exceptionTable := #[], attributes := #[] }
def k17m3 : Method := { name := "toString", desc := "()Ljava/lang/String;", sig := { parameters := [], returnType := some (.object "java/lang/String") }, accessFlags := 1, code := some k17c3 }
def k17c4 : Code := { maxStack := 1, maxLocals := 1, code := jdk_67_method_93_code, exceptionTable := #[], attributes := #[] }
def k17m4 : Method := { name := "length", desc := "()I", sig := { parameters := [], returnType := some .int }, accessFlags := 4161, code := some k17c4 }
/-- java/lang/StringBuilder -/
def k17 : Class := { plain "java/lang/StringBuilder" (some 16) with
  accessFlags := 49
  interfaces := #[15, 4, 5, 6]
  cf := some (fileOf pool17 24 #[] #[{ accessFlags := 1, nameIndex := 5, descriptorIndex := 145, attributes := #[] }, { accessFlags := 1, nameIndex := 27, descriptorIndex := 28, attributes := #[] }, { accessFlags := 1, nameIndex := 27, descriptorIndex := 286, attributes := #[] }, { accessFlags := 1, nameIndex := 399, descriptorIndex := 400, attributes := #[] }, { accessFlags := 4161, nameIndex := 345, descriptorIndex := 156, attributes := #[] }] 49 2 #[349, 351, 353, 355] #[{ accessFlags := 24, nameIndex := 357, descriptorIndex := 358, attributes := #[] }])
  fields := #[{ name := "serialVersionUID", type := .long, accessFlags := 24, slot := 0, constantValue := 0 }]
  methods := #[k17m0, k17m1, k17m2, k17m3, k17m4]
  instanceTypes := #[(.array .byte), .byte, .boolean, .int]
  staticTypes := #[.long]
  resolved := Array.replicate 422 none
  statics := none }

def pool18 : Array CpInfo := pool [(2, .class_ 4), (1, u "java/lang/Object"), (0, u "<init>"), (0, u "()V"), (1, .class_ 10), (1, u "java/lang/System"), (0, u "allowSecurityManager"), (0, u "I"), (16, u "cons"), (0, u "Ljava/io/Console;"), (77, .class_ 110), (1, u "java/lang/System$CallersHolder"), (43, u "initialErrStream"), (0, u "Ljava/io/PrintStream;"), (19, u "security"), (0, u "Ljava/lang/SecurityManager;"), (31, .class_ 209), (0, u "java/lang/System$1"), (7, u "props"), (0, u "Ljava/util/Properties;"), (2, u "lineSeparator"), (0, u "Ljava/lang/String;"), (96, .class_ 321), (1, u "java/lang/System$LoggerFinder"), (5, .class_ 328), (0, u "java/lang/System$Logger"), (67, u "err"), (2, u "out"), (91, u "notSupportedJnuEncoding"), (15, u "in"), (17, u "initialIn"), (0, u "Ljava/io/InputStream;"), (35, u "bootLayer"), (0, u "Ljava/lang/ModuleLayer;"), (99, .class_ 664), (0, u "java/lang/System$2"), (9, u "NEVER"), (2, u "MAYBE"), (49, u "arraycopy"), (0, u "(Ljava/lang/Object;ILjava/lang/Object;II)V"), (72, .class_ 802), (0, u "java/lang/System$Logger$Level")] 31

def k18m0 : Method := { name := "<init>", desc := "()V", sig := { parameters := [], returnType := none }, accessFlags := 2, code := none }
def k18m1 : Method := { name := "arraycopy", desc := "(Ljava/lang/Object;ILjava/lang/Object;II)V", sig := { parameters := [(.object "java/lang/Object"), .int, (.object "java/lang/Object"), .int, .int], returnType := none }, accessFlags := 265, code := none }
/-- java/lang/System -/
def k18 : Class := { plain "java/lang/System" (some 0) with
  accessFlags := 49
  interfaces := #[]
  cf := some (fileOf pool18 8 #[.nestMembers #[319, 327, 801, 108, 663, 208]] #[{ accessFlags := 2, nameIndex := 5, descriptorIndex := 6, attributes := #[] }, { accessFlags := 265, nameIndex := 727, descriptorIndex := 728, attributes := #[] }] 49 2 #[] #[{ accessFlags := 25, nameIndex := 507, descriptorIndex := 526, attributes := #[] }, { accessFlags := 25, nameIndex := 399, descriptorIndex := 155, attributes := #[] }, { accessFlags := 25, nameIndex := 396, descriptorIndex := 155, attributes := #[] }, { accessFlags := 10, nameIndex := 525, descriptorIndex := 526, attributes := #[] }, { accessFlags := 26, nameIndex := 674, descriptorIndex := 12, attributes := #[] }, { accessFlags := 26, nameIndex := 677, descriptorIndex := 12, attributes := #[] }, { accessFlags := 10, nameIndex := 11, descriptorIndex := 12, attributes := #[] }, { accessFlags := 74, nameIndex := 175, descriptorIndex := 176, attributes := #[] }, { accessFlags := 10, nameIndex := 491, descriptorIndex := 222, attributes := #[] }, { accessFlags := 74, nameIndex := 29, descriptorIndex := 30, attributes := #[] }, { accessFlags := 74, nameIndex := 154, descriptorIndex := 155, attributes := #[] }, { accessFlags := 10, nameIndex := 217, descriptorIndex := 218, attributes := #[] }, { accessFlags := 10, nameIndex := 221, descriptorIndex := 222, attributes := #[] }, { accessFlags := 8, nameIndex := 562, descriptorIndex := 563, attributes := #[] }])
  fields := #[{ name := "in", type := (.object "java/io/InputStream"), accessFlags := 25, slot := 0, constantValue := 0 }, { name := "out", type := (.object "java/io/PrintStream"), accessFlags := 25, slot := 1, constantValue := 0 }, { name := "err", type := (.object "java/io/PrintStream"), accessFlags := 25, slot := 2, constantValue := 0 }, { name := "initialIn", type := (.object "java/io/InputStream"), accessFlags := 10, slot := 3, constantValue := 0 }, { name := "NEVER", type := .int, accessFlags := 26, slot := 4, constantValue := 0 }, { name := "MAYBE", type := .int, accessFlags := 26, slot := 5, constantValue := 0 }, { name := "allowSecurityManager", type := .int, accessFlags := 10, slot := 6, constantValue := 0 }, { name := "security", type := (.object "java/lang/SecurityManager"), accessFlags := 74, slot := 7, constantValue := 0 }, { name := "notSupportedJnuEncoding", type := (.object "java/lang/String"), accessFlags := 10, slot := 8, constantValue := 0 }, { name := "cons", type := (.object "java/io/Console"), accessFlags := 74, slot := 9, constantValue := 0 }, { name := "initialErrStream", type := (.object "java/io/PrintStream"), accessFlags := 74, slot := 10, constantValue := 0 }, { name := "props", type := (.object "java/util/Properties"), accessFlags := 10, slot := 11, constantValue := 0 }, { name := "lineSeparator", type := (.object "java/lang/String"), accessFlags := 10, slot := 12, constantValue := 0 }, { name := "bootLayer", type := (.object "java/lang/ModuleLayer"), accessFlags := 8, slot := 13, constantValue := 0 }]
  methods := #[k18m0, k18m1]
  instanceTypes := #[]
  staticTypes := #[(.object "java/io/InputStream"), (.object "java/io/PrintStream"), (.object "java/io/PrintStream"), (.object "java/io/InputStream"), .int, .int, .int, (.object "java/lang/SecurityManager"), (.object "java/lang/String"), (.object "java/io/Console"), (.object "java/io/PrintStream"), (.object "java/util/Properties"), (.object "java/lang/String"), (.object "java/lang/ModuleLayer")]
  resolved := Array.replicate 834 none
  statics := none }

def pool19 : Array CpInfo := pool [(2, .class_ 4), (1, u "java/lang/Object"), (0, u "<init>"), (0, u "()V"), (7, .class_ 16), (1, u "java/util/Arrays"), (57, .class_ 76), (1, u "java/util/Arrays$NaturalOrder"), (36, .class_ 115), (1, u "java/util/Arrays$LegacyMergeSort"), (1, u "Z"), (21, u "copyOfRange"), (10, .methodref 151 152), (0, .class_ 153), (0, .nameAndType 154 155), (0, u "java/lang/System"), (0, u "arraycopy"), (0, u "(Ljava/lang/Object;ILjava/lang/Object;II)V"), (146, u "copyOf"), (1, .methodref 305 306), (0, .class_ 307), (0, .nameAndType 308 309), (0, u "java/lang/Math"), (0, u "min"), (0, u "(II)I"), (29, .methodref 14 340), (0, .nameAndType 341 342), (0, u "copyOfRangeByte"), (0, u "([BII)[B"), (0, .methodref 14 344), (0, .nameAndType 345 346), (0, u "checkLength"), (0, u "(II)V"), (28, .class_ 376), (0, u "java/util/Arrays$ArrayList"), (68, u "$assertionsDisabled"), (269, u "MIN_ARRAY_SORT_GRAN"), (0, u "I"), (2, u "INSERTIONSORT_THRESHOLD"), (149, u "([BI)[B"), (105, .class_ 976), (0, u "java/util/Arrays$ArrayItr")] 52

def k19m0 : Method := { name := "<init>", desc := "()V", sig := { parameters := [], returnType := none }, accessFlags := 2, code := none }
def k19c1 : Code := { maxStack := 6, maxLocals := 3, code := jdk_65_method_121_code, exceptionTable := #[], attributes := #[] }
def k19m1 : Method := { name := "copyOf", desc := "([BI)[B", sig := { parameters := [(.array .byte), .int], returnType := some (.array .byte) }, accessFlags := 9, code := some k19c1 }
def k19c2 : Code := { maxStack := 4, maxLocals := 2, code := jdk_65_method_131_code, exceptionTable := #[], attributes := #[] }
def k19m2 : Method := { name := "checkLength", desc := "(II)V", sig := { parameters := [.int, .int], returnType := none }, accessFlags := 10, code := some k19c2 }
def k19c3 : Code := { maxStack := 3, maxLocals := 3, code := jdk_65_method_132_code, exceptionTable := #[], attributes := #[] }
def k19m3 : Method := { name := "copyOfRange", desc := "([BII)[B", sig := { parameters := [(.array .byte), .int, .int], returnType := some (.array .byte) }, accessFlags := 9, code := some k19c3 }
def k19c4 : Code := { maxStack := 6, maxLocals := 5, code := jdk_65_method_133_code, exceptionTable := #[], attributes := #[] }
def k19m4 : Method := { name := "copyOfRangeByte", desc := "([BII)[B", sig := { parameters := [(.array .byte), .int, .int], returnType := some (.array .byte) }, accessFlags := 10, code := some k19c4 }
/-- java/util/Arrays -/
def k19 : Class := { plain "java/util/Arrays" (some 0) with
  accessFlags := 49
  interfaces := #[]
  cf := some (fileOf pool19 14 #[.nestMembers #[975, 375, 113, 74]] #[{ accessFlags := 2, nameIndex := 5, descriptorIndex := 6, attributes := #[] }, { accessFlags := 9, nameIndex := 302, descriptorIndex := 869, attributes := #[] }, { accessFlags := 10, nameIndex := 345, descriptorIndex := 346, attributes := #[] }, { accessFlags := 9, nameIndex := 139, descriptorIndex := 342, attributes := #[] }, { accessFlags := 10, nameIndex := 341, descriptorIndex := 342, attributes := #[] }] 49 2 #[] #[{ accessFlags := 26, nameIndex := 715, descriptorIndex := 716, attributes := #[] }, { accessFlags := 26, nameIndex := 719, descriptorIndex := 716, attributes := #[] }, { accessFlags := 4120, nameIndex := 445, descriptorIndex := 117, attributes := #[] }])
  fields := #[{ name := "MIN_ARRAY_SORT_GRAN", type := .int, accessFlags := 26, slot := 0, constantValue := 0 }, { name := "INSERTIONSORT_THRESHOLD", type := .int, accessFlags := 26, slot := 1, constantValue := 0 }, { name := "$assertionsDisabled", type := .boolean, accessFlags := 4120, slot := 2, constantValue := 0 }]
  methods := #[k19m0, k19m1, k19m2, k19m3, k19m4]
  instanceTypes := #[]
  staticTypes := #[.int, .int, .boolean]
  resolved := Array.replicate 1029 none
  statics := none }

def pool20 : Array CpInfo := pool [(9, u "<init>"), (6, .class_ 18), (1, u "java/lang/Object"), (0, u "()V"), (1, .class_ 23), (1, u "jdk/internal/util/ArraysSupport"), (0, u "LOG2_ARRAY_LONG_INDEX_SCALE"), (0, u "I"), (2, u "U"), (0, u "Ljdk/internal/misc/Unsafe;"), (8, u "BIG_ENDIAN"), (0, u "Z"), (8, u "LOG2_BYTE_BIT_SIZE"), (4, u "LOG2_ARRAY_INT_INDEX_SCALE"), (54, u "JLA"), (0, u "Ljdk/internal/access/JavaLangAccess;"), (11, u "LOG2_ARRAY_BOOLEAN_INDEX_SCALE"), (9, u "LOG2_ARRAY_BYTE_INDEX_SCALE"), (5, u "LOG2_ARRAY_CHAR_INDEX_SCALE"), (5, u "LOG2_ARRAY_SHORT_INDEX_SCALE"), (18, u "LOG2_ARRAY_FLOAT_INDEX_SCALE"), (24, u "LOG2_ARRAY_DOUBLE_INDEX_SCALE"), (6, .methodref 195 196), (0, .class_ 197), (0, .nameAndType 198 199), (0, u "java/lang/Math"), (0, u "max"), (0, u "(II)I"), (0, .integer 2147483639), (76, u "T_BOOLEAN"), (2, u "T_CHAR"), (1, u "T_FLOAT"), (1, u "T_DOUBLE"), (1, u "T_BYTE"), (1, u "T_SHORT"), (1, u "T_INT"), (1, u "T_LONG"), (1, u "SOFT_MAX_ARRAY_LENGTH"), (56, u "newLength"), (0, u "(III)I")] 25

def k20m0 : Method := { name := "<init>", desc := "()V", sig := { parameters := [], returnType := none }, accessFlags := 2, code := none }
def k20c1 : Code := { maxStack := 3, maxLocals := 4, code := jdk_48_method_27_code, exceptionTable := #[], attributes := #[] }
def k20m1 : Method := { name := "newLength", desc := "(III)I", sig := { parameters := [.int, .int, .int], returnType := some .int }, accessFlags := 9, code := some k20c1 }
/-- jdk/internal/util/ArraysSupport -/
def k20 : Class := { plain "jdk/internal/util/ArraysSupport" (some 0) with
  accessFlags := 33
  interfaces := #[]
  cf := some (fileOf pool20 21 #[] #[{ accessFlags := 2, nameIndex := 9, descriptorIndex := 19, attributes := #[] }, { accessFlags := 9, nameIndex := 351, descriptorIndex := 352, attributes := #[] }] 33 16 #[] #[{ accessFlags := 24, nameIndex := 28, descriptorIndex := 29, attributes := #[] }, { accessFlags := 26, nameIndex := 38, descriptorIndex := 39, attributes := #[] }, { accessFlags := 25, nameIndex := 121, descriptorIndex := 25, attributes := #[] }, { accessFlags := 25, nameIndex := 131, descriptorIndex := 25, attributes := #[] }, { accessFlags := 25, nameIndex := 137, descriptorIndex := 25, attributes := #[] }, { accessFlags := 25, nameIndex := 143, descriptorIndex := 25, attributes := #[] }, { accessFlags := 25, nameIndex := 53, descriptorIndex := 25, attributes := #[] }, { accessFlags := 25, nameIndex := 24, descriptorIndex := 25, attributes := #[] }, { accessFlags := 25, nameIndex := 162, descriptorIndex := 25, attributes := #[] }, { accessFlags := 25, nameIndex := 187, descriptorIndex := 25, attributes := #[] }, { accessFlags := 26, nameIndex := 48, descriptorIndex := 25, attributes := #[] }, { accessFlags := 25, nameIndex := 277, descriptorIndex := 25, attributes := #[] }, { accessFlags := 25, nameIndex := 280, descriptorIndex := 25, attributes := #[] }, { accessFlags := 25, nameIndex := 282, descriptorIndex := 25, attributes := #[] }, { accessFlags := 25, nameIndex := 284, descriptorIndex := 25, attributes := #[] }, { accessFlags := 25, nameIndex := 286, descriptorIndex := 25, attributes := #[] }, { accessFlags := 25, nameIndex := 288, descriptorIndex := 25, attributes := #[] }, { accessFlags := 25, nameIndex := 290, descriptorIndex := 25, attributes := #[] }, { accessFlags := 25, nameIndex := 292, descriptorIndex := 25, attributes := #[] }, { accessFlags := 26, nameIndex := 108, descriptorIndex := 109, attributes := #[] }, { accessFlags := 25, nameIndex := 294, descriptorIndex := 25, attributes := #[] }])
  fields := #[{ name := "U", type := (.object "jdk/internal/misc/Unsafe"), accessFlags := 24, slot := 0, constantValue := 0 }, { name := "BIG_ENDIAN", type := .boolean, accessFlags := 26, slot := 1, constantValue := 0 }, { name := "LOG2_ARRAY_BOOLEAN_INDEX_SCALE", type := .int, accessFlags := 25, slot := 2, constantValue := 0 }, { name := "LOG2_ARRAY_BYTE_INDEX_SCALE", type := .int, accessFlags := 25, slot := 3, constantValue := 0 }, { name := "LOG2_ARRAY_CHAR_INDEX_SCALE", type := .int, accessFlags := 25, slot := 4, constantValue := 0 }, { name := "LOG2_ARRAY_SHORT_INDEX_SCALE", type := .int, accessFlags := 25, slot := 5, constantValue := 0 }, { name := "LOG2_ARRAY_INT_INDEX_SCALE", type := .int, accessFlags := 25, slot := 6, constantValue := 0 }, { name := "LOG2_ARRAY_LONG_INDEX_SCALE", type := .int, accessFlags := 25, slot := 7, constantValue := 0 }, { name := "LOG2_ARRAY_FLOAT_INDEX_SCALE", type := .int, accessFlags := 25, slot := 8, constantValue := 0 }, { name := "LOG2_ARRAY_DOUBLE_INDEX_SCALE", type := .int, accessFlags := 25, slot := 9, constantValue := 0 }, { name := "LOG2_BYTE_BIT_SIZE", type := .int, accessFlags := 26, slot := 10, constantValue := 0 }, { name := "T_BOOLEAN", type := .int, accessFlags := 25, slot := 11, constantValue := 0 }, { name := "T_CHAR", type := .int, accessFlags := 25, slot := 12, constantValue := 0 }, { name := "T_FLOAT", type := .int, accessFlags := 25, slot := 13, constantValue := 0 }, { name := "T_DOUBLE", type := .int, accessFlags := 25, slot := 14, constantValue := 0 }, { name := "T_BYTE", type := .int, accessFlags := 25, slot := 15, constantValue := 0 }, { name := "T_SHORT", type := .int, accessFlags := 25, slot := 16, constantValue := 0 }, { name := "T_INT", type := .int, accessFlags := 25, slot := 17, constantValue := 0 }, { name := "T_LONG", type := .int, accessFlags := 25, slot := 18, constantValue := 0 }, { name := "JLA", type := (.object "jdk/internal/access/JavaLangAccess"), accessFlags := 26, slot := 19, constantValue := 0 }, { name := "SOFT_MAX_ARRAY_LENGTH", type := .int, accessFlags := 25, slot := 20, constantValue := 0 }]
  methods := #[k20m0, k20m1]
  instanceTypes := #[]
  staticTypes := #[(.object "jdk/internal/misc/Unsafe"), .boolean, .int, .int, .int, .int, .int, .int, .int, .int, .int, .int, .int, .int, .int, .int, .int, .int, .int, (.object "jdk/internal/access/JavaLangAccess"), .int]
  resolved := Array.replicate 378 none
  statics := none }

def pool21 : Array CpInfo := pool [(1, u "java/lang/Cloneable"), (0, .class_ 1), (0, u "java/lang/Object"), (0, .class_ 3)] 3

/-- java/lang/Cloneable -/
def k21 : Class := { plain "java/lang/Cloneable" (some 0) with
  accessFlags := 1537
  interfaces := #[]
  cf := some (fileOf pool21 2 #[] #[] 1537 4 #[] #[])
  fields := #[]
  methods := #[]
  instanceTypes := #[]
  staticTypes := #[]
  resolved := Array.replicate 8 none
  statics := none }

/-- the primitive byte -/
def k22 : Class := { plain "byte" none with kind := .primitive 'B', accessFlags := 0x411 }
/-- [B -/
def k23 : Class := { plain "[B" (some 0) with kind := .array 22 .byte, interfaces := #[21, 4], accessFlags := 1041 }

/-- the primitive char -/
def k24 : Class := { plain "char" none with kind := .primitive 'C', accessFlags := 0x411 }
/-- [C -/
def k25 : Class := { plain "[C" (some 0) with kind := .array 24 .char, interfaces := #[21, 4], accessFlags := 1041 }

/-- the primitive int -/
def k26 : Class := { plain "int" none with kind := .primitive 'I', accessFlags := 0x411 }
/-- [I -/
def k27 : Class := { plain "[I" (some 0) with kind := .array 26 .int, interfaces := #[21, 4], accessFlags := 1041 }

def heap : Heap := #[{ cls := 9, slots := #[.long 0, .int 1, .null, .int 0, .null, .int 0, .int 0], vm := .statics 9 },
  { cls := 10, slots := #[.int 0, .int 8, .int 0, .int 1], vm := .statics 10 },
  { cls := 12, slots := #[.null, .null, .null], vm := .statics 12 }]
def classes : Array Class := #[k0, k1, k2, k3, k4, k5, k6, k7, k8, k9, k10, k11, k12, k13, k14, k15, k16, k17, k18, k19, k20, k21, k22, k23, k24, k25, k26, k27]
def interned : List (Array UInt16 × Addr) := []
def slotsUsed : Nat := 14
def theMethod : MethodId := ⟨1, 3⟩
def args0 : Array Value := #[.int 1, .int 2, .int 3, .int 4]
def aboutOver (below : List Frame) : State where
  vm := { classes := classes, interned := interned.toArray }
  heap := heap
  slotsUsed := slotsUsed
  threads := #[{ frames := .invoking theMethod args0 :: below }]
def below0 : List Frame := [.native { method := ⟨0, 0⟩, args := #[] }]
def about1 : State := aboutOver below0
def p0 : Program := .bare "" "" ""
def e0 : Env := launch0.env 0 0 0
theorem w_frames : about1.frames = Frame.invoking theMethod args0 :: below0 := rfl
set_option maxRecDepth 65536 in
theorem w_args : argsFit about1.vm theMethod args0 = true := by decide +kernel
set_option maxRecDepth 65536 in
theorem w_heap : heapFits about1 = true := by decide +kernel
set_option maxRecDepth 65536 in
theorem w_runnable : about1.curStatus? = some .runnable := by decide +kernel
set_option maxRecDepth 65536 in
theorem w_alone : about1.alone = true := by decide +kernel
set_option maxRecDepth 65536 in
theorem w_named : about1.methodNamed? x = some theMethod := by decide +kernel
set_option maxRecDepth 65536 in
theorem w_hears : about1.hears theMethod below0 = true := by decide +kernel
set_option maxRecDepth 65536 in
theorem w_ripe : about1.ripe theMethod args0 below0 = true := by decide +kernel
theorem w_running : about1.status = .running := rfl
set_option maxRecDepth 65536 in
theorem w_room : about1.hasRoom e0.platform room_1 = true :=
  launch0.hasRoom_least _ room_1 (by decide +kernel) (by decide +kernel) (by decide +kernel) (by decide +kernel) (by decide +kernel) (by decide +kernel)
theorem allAtoms_all (ts : List Jvm.Cond) (a : Array Jvm.Value) (st : Jvm.State) : (allAtoms ts).before a st = ts.all (fun c => c.before a st) := by
  induction ts with
  | nil => rfl
  | cons c t ih =>
    show (Jvm.Cond.and c (allAtoms t)).before a st = _
    rw [Jvm.Cond.before_and, ih, List.all_cons]
def words1 : List Jvm.Cond := Jvm.Cond.code x code maxLocals ret :: tables_1
/-- a 'code' word, met by the world's own term for the bytes: nothing is compared byte by byte -/
theorem code_word {y : MethodName} {bytes : ByteArray} {mx : Nat} {rt : Option FieldType} {a : Array Value} {s : State} {m : MethodId} {meth : Method} {c : Code} (h1 : s.methodNamed? y = some m) (h2 : s.vm.method? m = some meth) (h3 : meth.code = some c) (h4 : c.code = bytes)
    (h5 : (c.maxLocals == mx && c.exceptionTable.isEmpty && decide (c.maxStack ≤ mostOperands) && decide (meth.sig.returnType = rt) && !meth.locks && decide (parseMethodDescriptor y.desc = some meth.sig)) = true) : (Jvm.Cond.code y bytes mx rt).before a s = true := by
  simp only [Bool.and_eq_true, beq_iff_eq, Bool.not_eq_true', decide_eq_true_eq] at h5
  obtain ⟨⟨⟨⟨⟨g1, g2⟩, g3⟩, g4⟩, g5⟩, g6⟩ := h5
  simp [Cond.before, Cond.holds, Cond.value, h1, h2, h3, h4, g1, g2, g3, g4, g5, g6]
def isCode : Jvm.Cond → Bool
  | .code _ _ _ _ => true
  | _ => false
theorem all_split {L : List Jvm.Cond} {P : Jvm.Cond → Bool} (h1 : L.all (fun c => isCode c || P c) = true) (h2 : ∀ c ∈ L.filter isCode, P c = true) : L.all P = true := by
  refine List.all_eq_true.mpr fun c hc => ?_
  have h := List.all_eq_true.mp h1 c hc
  rcases Bool.eq_false_or_eq_true (isCode c) with hi | hi
  · exact h2 c (List.mem_filter.mpr ⟨hc, hi⟩)
  · simpa [hi] using h
set_option maxRecDepth 65536 in
theorem w_c0 : (Jvm.Cond.code x code maxLocals ret).before args0 about1 = true := code_word (m := ⟨1, 3⟩) (meth := k1m3) (c := k1c3) (by decide +kernel) rfl rfl rfl (by decide +kernel)
set_option maxRecDepth 65536 in
theorem w_c1 : (Jvm.Cond.code ({ cls := "com/example/portunus/portunus/core/KeySpaceLockKeyPinLaw", name := "pc", desc := "(I)C" } : Jvm.MethodName) method_2_code (2 : Nat) (Option.some Jvm.ClassFile.FieldType.char)).before args0 about1 = true := code_word (m := ⟨1, 1⟩) (meth := k1m1) (c := k1c1) (by decide +kernel) rfl rfl rfl (by decide +kernel)
set_option maxRecDepth 65536 in
theorem w_c2 : (Jvm.Cond.code ({ cls := "java/lang/String", name := "<init>", desc := "([C)V" } : Jvm.MethodName) jdk_42_method_3_code (2 : Nat) (Option.none : Option Jvm.ClassFile.FieldType)).before args0 about1 = true := code_word (m := ⟨9, 1⟩) (meth := k9m1) (c := k9c1) (by decide +kernel) rfl rfl rfl (by decide +kernel)
set_option maxRecDepth 65536 in
theorem w_c3 : (Jvm.Cond.code ({ cls := "java/lang/String", name := "<init>", desc := "([CIILjava/lang/Void;)V" } : Jvm.MethodName) jdk_42_method_149_code (6 : Nat) (Option.none : Option Jvm.ClassFile.FieldType)).before args0 about1 = true := code_word (m := ⟨9, 10⟩) (meth := k9m10) (c := k9c10) (by decide +kernel) rfl rfl rfl (by decide +kernel)
set_option maxRecDepth 65536 in
theorem w_c4 : (Jvm.Cond.code ({ cls := "java/lang/Object", name := "<init>", desc := "()V" } : Jvm.MethodName) object_method_1_code (1 : Nat) (Option.none : Option Jvm.ClassFile.FieldType)).before args0 about1 = true := code_word (m := ⟨0, 0⟩) (meth := k0m0) (c := k0c0) (by decide +kernel) rfl rfl rfl (by decide +kernel)
set_option maxRecDepth 65536 in
theorem w_c5 : (Jvm.Cond.code ({ cls := "java/lang/StringUTF16", name := "compress", desc := "([CII)[B" } : Jvm.MethodName) jdk_52_method_16_code (6 : Nat) (Option.some (Jvm.ClassFile.FieldType.array Jvm.ClassFile.FieldType.byte))).before args0 about1 = true := code_word (m := ⟨10, 8⟩) (meth := k10m8) (c := k10c8) (by decide +kernel) rfl rfl rfl (by decide +kernel)
set_option maxRecDepth 65536 in
theorem w_c6 : (Jvm.Cond.code ({ cls := "java/lang/StringUTF16", name := "compress", desc := "([CI[BII)I" } : Jvm.MethodName) jdk_52_method_21_code (7 : Nat) (Option.some Jvm.ClassFile.FieldType.int)).before args0 about1 = true := code_word (m := ⟨10, 9⟩) (meth := k10m9) (c := k10c9) (by decide +kernel) rfl rfl rfl (by decide +kernel)
set_option maxRecDepth 65536 in
theorem w_c7 : (Jvm.Cond.code ({ cls := "java/lang/StringUTF16", name := "coderFromArrayLen", desc := "([BI)B" } : Jvm.MethodName) jdk_52_method_15_code (2 : Nat) (Option.some Jvm.ClassFile.FieldType.byte)).before args0 about1 = true := code_word (m := ⟨10, 7⟩) (meth := k10m7) (c := k10c7) (by decide +kernel) rfl rfl rfl (by decide +kernel)
set_option maxRecDepth 65536 in
theorem w_c8 : (Jvm.Cond.code ({ cls := "com/example/portunus/portunus/core/KeySpace", name := "<init>", desc := "(Ljava/lang/String;)V" } : Jvm.MethodName) prog_7_method_1_code (2 : Nat) (Option.none : Option Jvm.ClassFile.FieldType)).before args0 about1 = true := code_word (m := ⟨3, 0⟩) (meth := k3m0) (c := k3c0) (by decide +kernel) rfl rfl rfl (by decide +kernel)
set_option maxRecDepth 65536 in
theorem w_c9 : (Jvm.Cond.code ({ cls := "java/lang/Record", name := "<init>", desc := "()V" } : Jvm.MethodName) jdk_30_method_1_code (1 : Nat) (Option.none : Option Jvm.ClassFile.FieldType)).before args0 about1 = true := code_word (m := ⟨2, 0⟩) (meth := k2m0) (c := k2c0) (by decide +kernel) rfl rfl rfl (by decide +kernel)
set_option maxRecDepth 65536 in
theorem w_c10 : (Jvm.Cond.code ({ cls := "com/example/portunus/portunus/core/KeySpace", name := "checkText", desc := "(Ljava/lang/String;Ljava/lang/String;I)V" } : Jvm.MethodName) prog_7_method_6_code (6 : Nat) (Option.none : Option Jvm.ClassFile.FieldType)).before args0 about1 = true := code_word (m := ⟨3, 2⟩) (meth := k3m2) (c := k3c2) (by decide +kernel) rfl rfl rfl (by decide +kernel)
set_option maxRecDepth 65536 in
theorem w_c11 : (Jvm.Cond.code ({ cls := "java/lang/String", name := "length", desc := "()I" } : Jvm.MethodName) jdk_42_method_54_code (1 : Nat) (Option.some Jvm.ClassFile.FieldType.int)).before args0 about1 = true := code_word (m := ⟨9, 3⟩) (meth := k9m3) (c := k9c3) (by decide +kernel) rfl rfl rfl (by decide +kernel)
set_option maxRecDepth 65536 in
theorem w_c12 : (Jvm.Cond.code ({ cls := "java/lang/String", name := "coder", desc := "()B" } : Jvm.MethodName) jdk_42_method_152_code (1 : Nat) (Option.some Jvm.ClassFile.FieldType.byte)).before args0 about1 = true := code_word (m := ⟨9, 13⟩) (meth := k9m13) (c := k9c13) (by decide +kernel) rfl rfl rfl (by decide +kernel)
set_option maxRecDepth 65536 in
theorem w_c13 : (Jvm.Cond.code ({ cls := "java/lang/String", name := "charAt", desc := "(I)C" } : Jvm.MethodName) jdk_42_method_56_code (2 : Nat) (Option.some Jvm.ClassFile.FieldType.char)).before args0 about1 = true := code_word (m := ⟨9, 4⟩) (meth := k9m4) (c := k9c4) (by decide +kernel) rfl rfl rfl (by decide +kernel)
set_option maxRecDepth 65536 in
theorem w_c14 : (Jvm.Cond.code ({ cls := "java/lang/String", name := "isLatin1", desc := "()Z" } : Jvm.MethodName) jdk_42_method_154_code (1 : Nat) (Option.some Jvm.ClassFile.FieldType.boolean)).before args0 about1 = true := code_word (m := ⟨9, 14⟩) (meth := k9m14) (c := k9c14) (by decide +kernel) rfl rfl rfl (by decide +kernel)
set_option maxRecDepth 65536 in
theorem w_c15 : (Jvm.Cond.code ({ cls := "java/lang/StringLatin1", name := "charAt", desc := "([BI)C" } : Jvm.MethodName) jdk_43_method_2_code (2 : Nat) (Option.some Jvm.ClassFile.FieldType.char)).before args0 about1 = true := code_word (m := ⟨11, 1⟩) (meth := k11m1) (c := k11c1) (by decide +kernel) rfl rfl rfl (by decide +kernel)
set_option maxRecDepth 65536 in
theorem w_c16 : (Jvm.Cond.code ({ cls := "java/lang/String", name := "checkIndex", desc := "(II)V" } : Jvm.MethodName) jdk_42_method_155_code (2 : Nat) (Option.none : Option Jvm.ClassFile.FieldType)).before args0 about1 = true := code_word (m := ⟨9, 15⟩) (meth := k9m15) (c := k9c15) (by decide +kernel) rfl rfl rfl (by decide +kernel)
set_option maxRecDepth 65536 in
theorem w_c17 : (Jvm.Cond.code ({ cls := "jdk/internal/util/Preconditions", name := "checkIndex", desc := "(IILjava/util/function/BiFunction;)I" } : Jvm.MethodName) jdk_41_method_11_code (3 : Nat) (Option.some Jvm.ClassFile.FieldType.int)).before args0 about1 = true := code_word (m := ⟨12, 1⟩) (meth := k12m1) (c := k12c1) (by decide +kernel) rfl rfl rfl (by decide +kernel)
set_option maxRecDepth 65536 in
theorem w_c18 : (Jvm.Cond.code ({ cls := "java/lang/Character", name := "isHighSurrogate", desc := "(C)Z" } : Jvm.MethodName) jdk_89_method_14_code (1 : Nat) (Option.some Jvm.ClassFile.FieldType.boolean)).before args0 about1 = true := code_word (m := ⟨13, 0⟩) (meth := k13m0) (c := k13c0) (by decide +kernel) rfl rfl rfl (by decide +kernel)
set_option maxRecDepth 65536 in
theorem w_c19 : (Jvm.Cond.code ({ cls := "java/lang/Character", name := "isSurrogate", desc := "(C)Z" } : Jvm.MethodName) jdk_89_method_16_code (1 : Nat) (Option.some Jvm.ClassFile.FieldType.boolean)).before args0 about1 = true := code_word (m := ⟨13, 2⟩) (meth := k13m2) (c := k13c2) (by decide +kernel) rfl rfl rfl (by decide +kernel)
set_option maxRecDepth 65536 in
theorem w_c20 : (Jvm.Cond.code ({ cls := "java/lang/String", name := "indexOf", desc := "(I)I" } : Jvm.MethodName) jdk_42_method_79_code (2 : Nat) (Option.some Jvm.ClassFile.FieldType.int)).before args0 about1 = true := code_word (m := ⟨9, 6⟩) (meth := k9m6) (c := k9c6) (by decide +kernel) rfl rfl rfl (by decide +kernel)
set_option maxRecDepth 65536 in
theorem w_c21 : (Jvm.Cond.code ({ cls := "java/lang/String", name := "indexOf", desc := "(II)I" } : Jvm.MethodName) jdk_42_method_80_code (3 : Nat) (Option.some Jvm.ClassFile.FieldType.int)).before args0 about1 = true := code_word (m := ⟨9, 7⟩) (meth := k9m7) (c := k9c7) (by decide +kernel) rfl rfl rfl (by decide +kernel)
set_option maxRecDepth 65536 in
theorem w_c22 : (Jvm.Cond.code ({ cls := "java/lang/StringLatin1", name := "indexOf", desc := "([BIII)I" } : Jvm.MethodName) jdk_43_method_22_code (4 : Nat) (Option.some Jvm.ClassFile.FieldType.int)).before args0 about1 = true := code_word (m := ⟨11, 5⟩) (meth := k11m5) (c := k11c5) (by decide +kernel) rfl rfl rfl (by decide +kernel)
set_option maxRecDepth 65536 in
theorem w_c23 : (Jvm.Cond.code ({ cls := "java/lang/StringLatin1", name := "canEncode", desc := "(I)Z" } : Jvm.MethodName) jdk_43_method_4_code (1 : Nat) (Option.some Jvm.ClassFile.FieldType.boolean)).before args0 about1 = true := code_word (m := ⟨11, 3⟩) (meth := k11m3) (c := k11c3) (by decide +kernel) rfl rfl rfl (by decide +kernel)
set_option maxRecDepth 65536 in
theorem w_c24 : (Jvm.Cond.code ({ cls := "java/lang/Math", name := "max", desc := "(II)I" } : Jvm.MethodName) jdk_29_method_65_code (2 : Nat) (Option.some Jvm.ClassFile.FieldType.int)).before args0 about1 = true := code_word (m := ⟨14, 1⟩) (meth := k14m1) (c := k14c1) (by decide +kernel) rfl rfl rfl (by decide +kernel)
set_option maxRecDepth 65536 in
theorem w_c25 : (Jvm.Cond.code ({ cls := "java/lang/Math", name := "min", desc := "(II)I" } : Jvm.MethodName) jdk_29_method_69_code (2 : Nat) (Option.some Jvm.ClassFile.FieldType.int)).before args0 about1 = true := code_word (m := ⟨14, 2⟩) (meth := k14m2) (c := k14c2) (by decide +kernel) rfl rfl rfl (by decide +kernel)
set_option maxRecDepth 65536 in
theorem w_c26 : (Jvm.Cond.code ({ cls := "java/lang/StringLatin1", name := "indexOfChar", desc := "([BIII)I" } : Jvm.MethodName) jdk_43_method_23_code (6 : Nat) (Option.some Jvm.ClassFile.FieldType.int)).before args0 about1 = true := code_word (m := ⟨11, 6⟩) (meth := k11m6) (c := k11c6) (by decide +kernel) rfl rfl rfl (by decide +kernel)
set_option maxRecDepth 65536 in
theorem w_c27 : (Jvm.Cond.code ({ cls := "com/example/portunus/portunus/core/KeySpaceLockKeyPinLaw", name := "nc", desc := "(I)C" } : Jvm.MethodName) method_3_code (2 : Nat) (Option.some Jvm.ClassFile.FieldType.char)).before args0 about1 = true := code_word (m := ⟨1, 2⟩) (meth := k1m2) (c := k1c2) (by decide +kernel) rfl rfl rfl (by decide +kernel)
set_option maxRecDepth 65536 in
theorem w_c28 : (Jvm.Cond.code ({ cls := "java/lang/String", name := "valueOf", desc := "(C)Ljava/lang/String;" } : Jvm.MethodName) jdk_42_method_139_code (1 : Nat) (Option.some (Jvm.ClassFile.FieldType.object "java/lang/String"))).before args0 about1 = true := code_word (m := ⟨9, 8⟩) (meth := k9m8) (c := k9c8) (by decide +kernel) rfl rfl rfl (by decide +kernel)
set_option maxRecDepth 65536 in
theorem w_c29 : (Jvm.Cond.code ({ cls := "java/lang/StringLatin1", name := "canEncode", desc := "(C)Z" } : Jvm.MethodName) jdk_43_method_3_code (1 : Nat) (Option.some Jvm.ClassFile.FieldType.boolean)).before args0 about1 = true := code_word (m := ⟨11, 2⟩) (meth := k11m2) (c := k11c2) (by decide +kernel) rfl rfl rfl (by decide +kernel)
set_option maxRecDepth 65536 in
theorem w_c30 : (Jvm.Cond.code ({ cls := "java/lang/StringLatin1", name := "toBytes", desc := "(C)[B" } : Jvm.MethodName) jdk_43_method_46_code (1 : Nat) (Option.some (Jvm.ClassFile.FieldType.array Jvm.ClassFile.FieldType.byte))).before args0 about1 = true := code_word (m := ⟨11, 7⟩) (meth := k11m7) (c := k11c7) (by decide +kernel) rfl rfl rfl (by decide +kernel)
set_option maxRecDepth 65536 in
theorem w_c31 : (Jvm.Cond.code ({ cls := "java/lang/String", name := "<init>", desc := "([BB)V" } : Jvm.MethodName) jdk_42_method_151_code (3 : Nat) (Option.none : Option Jvm.ClassFile.FieldType)).before args0 about1 = true := code_word (m := ⟨9, 12⟩) (meth := k9m12) (c := k9c12) (by decide +kernel) rfl rfl rfl (by decide +kernel)
set_option maxRecDepth 65536 in
theorem w_c32 : (Jvm.Cond.code ({ cls := "com/example/portunus/portunus/core/KeySpace", name := "lockKey", desc := "(Ljava/lang/String;)Ljava/lang/String;" } : Jvm.MethodName) prog_7_method_2_code (2 : Nat) (Option.some (Jvm.ClassFile.FieldType.object "java/lang/String"))).before args0 about1 = true := code_word (m := ⟨3, 1⟩) (meth := k3m1) (c := k3c1) (by decide +kernel) rfl rfl rfl (by decide +kernel)
set_option maxRecDepth 65536 in
theorem w_c33 : (Jvm.Cond.code ({ cls := "java/lang/StringBuilder", name := "<init>", desc := "()V" } : Jvm.MethodName) jdk_67_method_1_code (1 : Nat) (Option.none : Option Jvm.ClassFile.FieldType)).before args0 about1 = true := code_word (m := ⟨17, 0⟩) (meth := k17m0) (c := k17c0) (by decide +kernel) rfl rfl rfl (by decide +kernel)
set_option maxRecDepth 65536 in
theorem w_c34 : (Jvm.Cond.code ({ cls := "java/lang/AbstractStringBuilder", name := "<init>", desc := "(I)V" } : Jvm.MethodName) jdk_68_method_2_code (2 : Nat) (Option.none : Option Jvm.ClassFile.FieldType)).before args0 about1 = true := code_word (m := ⟨16, 1⟩) (meth := k16m1) (c := k16c1) (by decide +kernel) rfl rfl rfl (by decide +kernel)
set_option maxRecDepth 65536 in
theorem w_c35 : (Jvm.Cond.code ({ cls := "java/lang/StringBuilder", name := "append", desc := "(Ljava/lang/String;)Ljava/lang/StringBuilder;" } : Jvm.MethodName) jdk_67_method_7_code (2 : Nat) (Option.some (Jvm.ClassFile.FieldType.object "java/lang/StringBuilder"))).before args0 about1 = true := code_word (m := ⟨17, 1⟩) (meth := k17m1) (c := k17c1) (by decide +kernel) rfl rfl rfl (by decide +kernel)
set_option maxRecDepth 65536 in
theorem w_c36 : (Jvm.Cond.code ({ cls := "java/lang/AbstractStringBuilder", name := "append", desc := "(Ljava/lang/String;)Ljava/lang/AbstractStringBuilder;" } : Jvm.MethodName) jdk_68_method_22_code (3 : Nat) (Option.some (Jvm.ClassFile.FieldType.object "java/lang/AbstractStringBuilder"))).before args0 about1 = true := code_word (m := ⟨16, 6⟩) (meth := k16m6) (c := k16c6) (by decide +kernel) rfl rfl rfl (by decide +kernel)
set_option maxRecDepth 65536 in
theorem w_c37 : (Jvm.Cond.code ({ cls := "java/lang/AbstractStringBuilder", name := "ensureCapacityInternal", desc := "(I)V" } : Jvm.MethodName) jdk_68_method_9_code (3 : Nat) (Option.none : Option Jvm.ClassFile.FieldType)).before args0 about1 = true := code_word (m := ⟨16, 3⟩) (meth := k16m3) (c := k16c3) (by decide +kernel) rfl rfl rfl (by decide +kernel)
set_option maxRecDepth 65536 in
theorem w_c38 : (Jvm.Cond.code ({ cls := "java/lang/AbstractStringBuilder", name := "putStringAt", desc := "(ILjava/lang/String;)V" } : Jvm.MethodName) jdk_68_method_73_code (3 : Nat) (Option.none : Option Jvm.ClassFile.FieldType)).before args0 about1 = true := code_word (m := ⟨16, 11⟩) (meth := k16m11) (c := k16c11) (by decide +kernel) rfl rfl rfl (by decide +kernel)
set_option maxRecDepth 65536 in
theorem w_c39 : (Jvm.Cond.code ({ cls := "java/lang/AbstractStringBuilder", name := "inflateIfNeededFor", desc := "(Ljava/lang/String;)V" } : Jvm.MethodName) jdk_68_method_71_code (2 : Nat) (Option.none : Option Jvm.ClassFile.FieldType)).before args0 about1 = true := code_word (m := ⟨16, 10⟩) (meth := k16m10) (c := k16c10) (by decide +kernel) rfl rfl rfl (by decide +kernel)
set_option maxRecDepth 65536 in
theorem w_c40 : (Jvm.Cond.code ({ cls := "java/lang/String", name := "getBytes", desc := "([BIB)V" } : Jvm.MethodName) jdk_42_method_147_code (4 : Nat) (Option.none : Option Jvm.ClassFile.FieldType)).before args0 about1 = true := code_word (m := ⟨9, 9⟩) (meth := k9m9) (c := k9c9) (by decide +kernel) rfl rfl rfl (by decide +kernel)
set_option maxRecDepth 65536 in
theorem w_c41 : (Jvm.Cond.code ({ cls := "java/lang/StringBuilder", name := "append", desc := "(C)Ljava/lang/StringBuilder;" } : Jvm.MethodName) jdk_67_method_14_code (2 : Nat) (Option.some (Jvm.ClassFile.FieldType.object "java/lang/StringBuilder"))).before args0 about1 = true := code_word (m := ⟨17, 2⟩) (meth := k17m2) (c := k17c2) (by decide +kernel) rfl rfl rfl (by decide +kernel)
set_option maxRecDepth 65536 in
theorem w_c42 : (Jvm.Cond.code ({ cls := "java/lang/AbstractStringBuilder", name := "append", desc := "(C)Ljava/lang/AbstractStringBuilder;" } : Jvm.MethodName) jdk_68_method_31_code (2 : Nat) (Option.some (Jvm.ClassFile.FieldType.object "java/lang/AbstractStringBuilder"))).before args0 about1 = true := code_word (m := ⟨16, 7⟩) (meth := k16m7) (c := k16c7) (by decide +kernel) rfl rfl rfl (by decide +kernel)
set_option maxRecDepth 65536 in
theorem w_c43 : (Jvm.Cond.code ({ cls := "java/lang/AbstractStringBuilder", name := "isLatin1", desc := "()Z" } : Jvm.MethodName) jdk_68_method_68_code (1 : Nat) (Option.some Jvm.ClassFile.FieldType.boolean)).before args0 about1 = true := code_word (m := ⟨16, 9⟩) (meth := k16m9) (c := k16c9) (by decide +kernel) rfl rfl rfl (by decide +kernel)
set_option maxRecDepth 65536 in
theorem w_c44 : (Jvm.Cond.code ({ cls := "java/lang/StringBuilder", name := "toString", desc := "()Ljava/lang/String;" } : Jvm.MethodName) jdk_67_method_42_code (1 : Nat) (Option.some (Jvm.ClassFile.FieldType.object "java/lang/String"))).before args0 about1 = true := code_word (m := ⟨17, 3⟩) (meth := k17m3) (c := k17c3) (by decide +kernel) rfl rfl rfl (by decide +kernel)
set_option maxRecDepth 65536 in
theorem w_c45 : (Jvm.Cond.code ({ cls := "java/lang/String", name := "<init>", desc := "(Ljava/lang/StringBuilder;)V" } : Jvm.MethodName) jdk_42_method_53_code (2 : Nat) (Option.none : Option Jvm.ClassFile.FieldType)).before args0 about1 = true := code_word (m := ⟨9, 2⟩) (meth := k9m2) (c := k9c2) (by decide +kernel) rfl rfl rfl (by decide +kernel)
set_option maxRecDepth 65536 in
theorem w_c46 : (Jvm.Cond.code ({ cls := "java/lang/String", name := "<init>", desc := "(Ljava/lang/AbstractStringBuilder;Ljava/lang/Void;)V" } : Jvm.MethodName) jdk_42_method_150_code (5 : Nat) (Option.none : Option Jvm.ClassFile.FieldType)).before args0 about1 = true := code_word (m := ⟨9, 11⟩) (meth := k9m11) (c := k9c11) (by decide +kernel) rfl rfl rfl (by decide +kernel)
set_option maxRecDepth 65536 in
theorem w_c47 : (Jvm.Cond.code ({ cls := "java/lang/AbstractStringBuilder", name := "getValue", desc := "()[B" } : Jvm.MethodName) jdk_68_method_64_code (1 : Nat) (Option.some (Jvm.ClassFile.FieldType.array Jvm.ClassFile.FieldType.byte))).before args0 about1 = true := code_word (m := ⟨16, 8⟩) (meth := k16m8) (c := k16c8) (by decide +kernel) rfl rfl rfl (by decide +kernel)
set_option maxRecDepth 65536 in
theorem w_c48 : (Jvm.Cond.code ({ cls := "java/lang/StringBuilder", name := "length", desc := "()I" } : Jvm.MethodName) jdk_67_method_93_code (1 : Nat) (Option.some Jvm.ClassFile.FieldType.int)).before args0 about1 = true := code_word (m := ⟨17, 4⟩) (meth := k17m4) (c := k17c4) (by decide +kernel) rfl rfl rfl (by decide +kernel)
set_option maxRecDepth 65536 in
theorem w_c49 : (Jvm.Cond.code ({ cls := "java/lang/AbstractStringBuilder", name := "length", desc := "()I" } : Jvm.MethodName) jdk_68_method_6_code (1 : Nat) (Option.some Jvm.ClassFile.FieldType.int)).before args0 about1 = true := code_word (m := ⟨16, 2⟩) (meth := k16m2) (c := k16c2) (by decide +kernel) rfl rfl rfl (by decide +kernel)
set_option maxRecDepth 65536 in
theorem w_c50 : (Jvm.Cond.code ({ cls := "java/util/Arrays", name := "copyOfRange", desc := "([BII)[B" } : Jvm.MethodName) jdk_65_method_132_code (3 : Nat) (Option.some (Jvm.ClassFile.FieldType.array Jvm.ClassFile.FieldType.byte))).before args0 about1 = true := code_word (m := ⟨19, 3⟩) (meth := k19m3) (c := k19c3) (by decide +kernel) rfl rfl rfl (by decide +kernel)
set_option maxRecDepth 65536 in
theorem w_c51 : (Jvm.Cond.code ({ cls := "java/util/Arrays", name := "copyOfRangeByte", desc := "([BII)[B" } : Jvm.MethodName) jdk_65_method_133_code (5 : Nat) (Option.some (Jvm.ClassFile.FieldType.array Jvm.ClassFile.FieldType.byte))).before args0 about1 = true := code_word (m := ⟨19, 4⟩) (meth := k19m4) (c := k19c4) (by decide +kernel) rfl rfl rfl (by decide +kernel)
set_option maxRecDepth 65536 in
theorem w_c52 : (Jvm.Cond.code ({ cls := "java/util/Arrays", name := "checkLength", desc := "(II)V" } : Jvm.MethodName) jdk_65_method_131_code (2 : Nat) (Option.none : Option Jvm.ClassFile.FieldType)).before args0 about1 = true := code_word (m := ⟨19, 2⟩) (meth := k19m2) (c := k19c2) (by decide +kernel) rfl rfl rfl (by decide +kernel)
set_option maxRecDepth 65536 in
theorem w_c53 : (Jvm.Cond.code ({ cls := "java/lang/String", name := "equals", desc := "(Ljava/lang/Object;)Z" } : Jvm.MethodName) jdk_42_method_66_code (3 : Nat) (Option.some Jvm.ClassFile.FieldType.boolean)).before args0 about1 = true := code_word (m := ⟨9, 5⟩) (meth := k9m5) (c := k9c5) (by decide +kernel) rfl rfl rfl (by decide +kernel)
set_option maxRecDepth 65536 in
theorem w_c54 : (Jvm.Cond.code ({ cls := "java/lang/StringLatin1", name := "equals", desc := "([B[B)Z" } : Jvm.MethodName) jdk_43_method_13_code (3 : Nat) (Option.some Jvm.ClassFile.FieldType.boolean)).before args0 about1 = true := code_word (m := ⟨11, 4⟩) (meth := k11m4) (c := k11c4) (by decide +kernel) rfl rfl rfl (by decide +kernel)
set_option maxRecDepth 65536 in
theorem w_c55 : (Jvm.Cond.code ({ cls := "java/lang/StringUTF16", name := "toBytes", desc := "([CII)[B" } : Jvm.MethodName) jdk_52_method_14_code (5 : Nat) (Option.some (Jvm.ClassFile.FieldType.array Jvm.ClassFile.FieldType.byte))).before args0 about1 = true := code_word (m := ⟨10, 6⟩) (meth := k10m6) (c := k10c6) (by decide +kernel) rfl rfl rfl (by decide +kernel)
set_option maxRecDepth 65536 in
theorem w_c56 : (Jvm.Cond.code ({ cls := "java/lang/StringUTF16", name := "newBytesFor", desc := "(I)[B" } : Jvm.MethodName) jdk_52_method_2_code (1 : Nat) (Option.some (Jvm.ClassFile.FieldType.array Jvm.ClassFile.FieldType.byte))).before args0 about1 = true := code_word (m := ⟨10, 1⟩) (meth := k10m1) (c := k10c1) (by decide +kernel) rfl rfl rfl (by decide +kernel)
set_option maxRecDepth 65536 in
theorem w_c57 : (Jvm.Cond.code ({ cls := "java/lang/StringUTF16", name := "newBytesLength", desc := "(I)I" } : Jvm.MethodName) jdk_52_method_3_code (1 : Nat) (Option.some Jvm.ClassFile.FieldType.int)).before args0 about1 = true := code_word (m := ⟨10, 2⟩) (meth := k10m2) (c := k10c2) (by decide +kernel) rfl rfl rfl (by decide +kernel)
set_option maxRecDepth 65536 in
theorem w_c58 : (Jvm.Cond.code ({ cls := "java/lang/StringUTF16", name := "putChar", desc := "([BII)V" } : Jvm.MethodName) jdk_52_method_4_code (3 : Nat) (Option.none : Option Jvm.ClassFile.FieldType)).before args0 about1 = true := code_word (m := ⟨10, 3⟩) (meth := k10m3) (c := k10c3) (by decide +kernel) rfl rfl rfl (by decide +kernel)
set_option maxRecDepth 65536 in
theorem w_c59 : (Jvm.Cond.code ({ cls := "java/lang/StringUTF16", name := "getChar", desc := "([BI)C" } : Jvm.MethodName) jdk_52_method_5_code (2 : Nat) (Option.some Jvm.ClassFile.FieldType.char)).before args0 about1 = true := code_word (m := ⟨10, 4⟩) (meth := k10m4) (c := k10c4) (by decide +kernel) rfl rfl rfl (by decide +kernel)
set_option maxRecDepth 65536 in
theorem w_c60 : (Jvm.Cond.code ({ cls := "java/lang/StringUTF16", name := "charAt", desc := "([BI)C" } : Jvm.MethodName) jdk_52_method_83_code (2 : Nat) (Option.some Jvm.ClassFile.FieldType.char)).before args0 about1 = true := code_word (m := ⟨10, 15⟩) (meth := k10m15) (c := k10c15) (by decide +kernel) rfl rfl rfl (by decide +kernel)
set_option maxRecDepth 65536 in
theorem w_c61 : (Jvm.Cond.code ({ cls := "java/lang/StringUTF16", name := "checkIndex", desc := "(I[B)V" } : Jvm.MethodName) jdk_52_method_91_code (2 : Nat) (Option.none : Option Jvm.ClassFile.FieldType)).before args0 about1 = true := code_word (m := ⟨10, 17⟩) (meth := k10m17) (c := k10c17) (by decide +kernel) rfl rfl rfl (by decide +kernel)
set_option maxRecDepth 65536 in
theorem w_c62 : (Jvm.Cond.code ({ cls := "java/lang/StringUTF16", name := "length", desc := "([B)I" } : Jvm.MethodName) jdk_52_method_6_code (1 : Nat) (Option.some Jvm.ClassFile.FieldType.int)).before args0 about1 = true := code_word (m := ⟨10, 5⟩) (meth := k10m5) (c := k10c5) (by decide +kernel) rfl rfl rfl (by decide +kernel)
set_option maxRecDepth 65536 in
theorem w_c63 : (Jvm.Cond.code ({ cls := "java/lang/StringUTF16", name := "indexOf", desc := "([BIII)I" } : Jvm.MethodName) jdk_52_method_40_code (4 : Nat) (Option.some Jvm.ClassFile.FieldType.int)).before args0 about1 = true := code_word (m := ⟨10, 11⟩) (meth := k10m11) (c := k10c11) (by decide +kernel) rfl rfl rfl (by decide +kernel)
set_option maxRecDepth 65536 in
theorem w_c64 : (Jvm.Cond.code ({ cls := "java/lang/StringUTF16", name := "indexOfChar", desc := "([BIII)I" } : Jvm.MethodName) jdk_52_method_47_code (4 : Nat) (Option.some Jvm.ClassFile.FieldType.int)).before args0 about1 = true := code_word (m := ⟨10, 12⟩) (meth := k10m12) (c := k10c12) (by decide +kernel) rfl rfl rfl (by decide +kernel)
set_option maxRecDepth 65536 in
theorem w_c65 : (Jvm.Cond.code ({ cls := "java/lang/StringUTF16", name := "checkBoundsBeginEnd", desc := "(II[B)V" } : Jvm.MethodName) jdk_52_method_93_code (3 : Nat) (Option.none : Option Jvm.ClassFile.FieldType)).before args0 about1 = true := code_word (m := ⟨10, 18⟩) (meth := k10m18) (c := k10c18) (by decide +kernel) rfl rfl rfl (by decide +kernel)
set_option maxRecDepth 65536 in
theorem w_c66 : (Jvm.Cond.code ({ cls := "java/lang/String", name := "checkBoundsBeginEnd", desc := "(III)V" } : Jvm.MethodName) jdk_42_method_158_code (3 : Nat) (Option.none : Option Jvm.ClassFile.FieldType)).before args0 about1 = true := code_word (m := ⟨9, 17⟩) (meth := k9m17) (c := k9c17) (by decide +kernel) rfl rfl rfl (by decide +kernel)
set_option maxRecDepth 65536 in
theorem w_c67 : (Jvm.Cond.code ({ cls := "jdk/internal/util/Preconditions", name := "checkFromToIndex", desc := "(IIILjava/util/function/BiFunction;)I" } : Jvm.MethodName) jdk_41_method_12_code (4 : Nat) (Option.some Jvm.ClassFile.FieldType.int)).before args0 about1 = true := code_word (m := ⟨12, 2⟩) (meth := k12m2) (c := k12c2) (by decide +kernel) rfl rfl rfl (by decide +kernel)
set_option maxRecDepth 65536 in
theorem w_c68 : (Jvm.Cond.code ({ cls := "java/lang/StringUTF16", name := "indexOfCharUnsafe", desc := "([BIII)I" } : Jvm.MethodName) jdk_52_method_48_code (5 : Nat) (Option.some Jvm.ClassFile.FieldType.int)).before args0 about1 = true := code_word (m := ⟨10, 13⟩) (meth := k10m13) (c := k10c13) (by decide +kernel) rfl rfl rfl (by decide +kernel)
set_option maxRecDepth 65536 in
theorem w_c69 : (Jvm.Cond.code ({ cls := "java/lang/AbstractStringBuilder", name := "inflate", desc := "()V" } : Jvm.MethodName) jdk_68_method_11_code (2 : Nat) (Option.none : Option Jvm.ClassFile.FieldType)).before args0 about1 = true := code_word (m := ⟨16, 5⟩) (meth := k16m5) (c := k16c5) (by decide +kernel) rfl rfl rfl (by decide +kernel)
set_option maxRecDepth 65536 in
theorem w_c70 : (Jvm.Cond.code ({ cls := "java/lang/StringLatin1", name := "inflate", desc := "([BI[BII)V" } : Jvm.MethodName) jdk_43_method_50_code (5 : Nat) (Option.none : Option Jvm.ClassFile.FieldType)).before args0 about1 = true := code_word (m := ⟨11, 8⟩) (meth := k11m8) (c := k11c8) (by decide +kernel) rfl rfl rfl (by decide +kernel)
set_option maxRecDepth 65536 in
theorem w_c71 : (Jvm.Cond.code ({ cls := "java/lang/StringUTF16", name := "inflate", desc := "([BI[BII)V" } : Jvm.MethodName) jdk_52_method_86_code (6 : Nat) (Option.none : Option Jvm.ClassFile.FieldType)).before args0 about1 = true := code_word (m := ⟨10, 16⟩) (meth := k10m16) (c := k10c16) (by decide +kernel) rfl rfl rfl (by decide +kernel)
set_option maxRecDepth 65536 in
theorem w_c72 : (Jvm.Cond.code ({ cls := "java/lang/StringUTF16", name := "checkBoundsOffCount", desc := "(II[B)V" } : Jvm.MethodName) jdk_52_method_94_code (3 : Nat) (Option.none : Option Jvm.ClassFile.FieldType)).before args0 about1 = true := code_word (m := ⟨10, 19⟩) (meth := k10m19) (c := k10c19) (by decide +kernel) rfl rfl rfl (by decide +kernel)
set_option maxRecDepth 65536 in
theorem w_c73 : (Jvm.Cond.code ({ cls := "java/lang/String", name := "checkBoundsOffCount", desc := "(III)I" } : Jvm.MethodName) jdk_42_method_157_code (3 : Nat) (Option.some Jvm.ClassFile.FieldType.int)).before args0 about1 = true := code_word (m := ⟨9, 16⟩) (meth := k9m16) (c := k9c16) (by decide +kernel) rfl rfl rfl (by decide +kernel)
set_option maxRecDepth 65536 in
theorem w_c74 : (Jvm.Cond.code ({ cls := "jdk/internal/util/Preconditions", name := "checkFromIndexSize", desc := "(IIILjava/util/function/BiFunction;)I" } : Jvm.MethodName) jdk_41_method_13_code (4 : Nat) (Option.some Jvm.ClassFile.FieldType.int)).before args0 about1 = true := code_word (m := ⟨12, 3⟩) (meth := k12m3) (c := k12c3) (by decide +kernel) rfl rfl rfl (by decide +kernel)
set_option maxRecDepth 65536 in
theorem w_c75 : (Jvm.Cond.code ({ cls := "java/lang/StringUTF16", name := "putCharSB", desc := "([BII)V" } : Jvm.MethodName) jdk_52_method_71_code (3 : Nat) (Option.none : Option Jvm.ClassFile.FieldType)).before args0 about1 = true := code_word (m := ⟨10, 14⟩) (meth := k10m14) (c := k10c14) (by decide +kernel) rfl rfl rfl (by decide +kernel)
set_option maxRecDepth 65536 in
theorem w_c76 : (Jvm.Cond.code ({ cls := "java/lang/Character", name := "isLowSurrogate", desc := "(C)Z" } : Jvm.MethodName) jdk_89_method_15_code (1 : Nat) (Option.some Jvm.ClassFile.FieldType.boolean)).before args0 about1 = true := code_word (m := ⟨13, 1⟩) (meth := k13m1) (c := k13c1) (by decide +kernel) rfl rfl rfl (by decide +kernel)
set_option maxRecDepth 65536 in
theorem w_c77 : (Jvm.Cond.code ({ cls := "java/lang/AbstractStringBuilder", name := "newCapacity", desc := "(I)I" } : Jvm.MethodName) jdk_68_method_10_code (6 : Nat) (Option.some Jvm.ClassFile.FieldType.int)).before args0 about1 = true := code_word (m := ⟨16, 4⟩) (meth := k16m4) (c := k16c4) (by decide +kernel) rfl rfl rfl (by decide +kernel)
set_option maxRecDepth 65536 in
theorem w_c78 : (Jvm.Cond.code ({ cls := "jdk/internal/util/ArraysSupport", name := "newLength", desc := "(III)I" } : Jvm.MethodName) jdk_48_method_27_code (4 : Nat) (Option.some Jvm.ClassFile.FieldType.int)).before args0 about1 = true := code_word (m := ⟨20, 1⟩) (meth := k20m1) (c := k20c1) (by decide +kernel) rfl rfl rfl (by decide +kernel)
set_option maxRecDepth 65536 in
theorem w_c79 : (Jvm.Cond.code ({ cls := "java/util/Arrays", name := "copyOf", desc := "([BI)[B" } : Jvm.MethodName) jdk_65_method_121_code (3 : Nat) (Option.some (Jvm.ClassFile.FieldType.array Jvm.ClassFile.FieldType.byte))).before args0 about1 = true := code_word (m := ⟨19, 1⟩) (meth := k19m1) (c := k19c1) (by decide +kernel) rfl rfl rfl (by decide +kernel)
set_option maxRecDepth 65536 in
theorem w_c80 : (Jvm.Cond.code ({ cls := "java/lang/StringUTF16", name := "toBytes", desc := "(C)[B" } : Jvm.MethodName) jdk_52_method_24_code (2 : Nat) (Option.some (Jvm.ClassFile.FieldType.array Jvm.ClassFile.FieldType.byte))).before args0 about1 = true := code_word (m := ⟨10, 10⟩) (meth := k10m10) (c := k10c10) (by decide +kernel) rfl rfl rfl (by decide +kernel)
def codes1 : List Jvm.Cond := [Jvm.Cond.code x code maxLocals ret, Jvm.Cond.code ({ cls := "com/example/portunus/portunus/core/KeySpaceLockKeyPinLaw", name := "pc", desc := "(I)C" } : Jvm.MethodName) method_2_code (2 : Nat) (Option.some Jvm.ClassFile.FieldType.char), Jvm.Cond.code ({ cls := "java/lang/String", name := "<init>", desc := "([C)V" } : Jvm.MethodName) jdk_42_method_3_code (2 : Nat) (Option.none : Option Jvm.ClassFile.FieldType), Jvm.Cond.code ({ cls := "java/lang/String", name := "<init>", desc := "([CIILjava/lang/Void;)V" } : Jvm.MethodName) jdk_42_method_149_code (6 : Nat) (Option.none : Option Jvm.ClassFile.FieldType), Jvm.Cond.code ({ cls := "java/lang/Object", name := "<init>", desc := "()V" } : Jvm.MethodName) object_method_1_code (1 : Nat) (Option.none : Option Jvm.ClassFile.FieldType), Jvm.Cond.code ({ cls := "java/lang/StringUTF16", name := "compress", desc := "([CII)[B" } : Jvm.MethodName) jdk_52_method_16_code (6 : Nat) (Option.some (Jvm.ClassFile.FieldType.array Jvm.ClassFile.FieldType.byte)), Jvm.Cond.code ({ cls := "java/lang/StringUTF16", name := "compress", desc := "([CI[BII)I" } : Jvm.MethodName) jdk_52_method_21_code (7 : Nat) (Option.some Jvm.ClassFile.FieldType.int), Jvm.Cond.code ({ cls := "java/lang/StringUTF16", name := "coderFromArrayLen", desc := "([BI)B" } : Jvm.MethodName) jdk_52_method_15_code (2 : Nat) (Option.some Jvm.ClassFile.FieldType.byte), Jvm.Cond.code ({ cls := "com/example/portunus/portunus/core/KeySpace", name := "<init>", desc := "(Ljava/lang/String;)V" } : Jvm.MethodName) prog_7_method_1_code (2 : Nat) (Option.none : Option Jvm.ClassFile.FieldType), Jvm.Cond.code ({ cls := "java/lang/Record", name := "<init>", desc := "()V" } : Jvm.MethodName) jdk_30_method_1_code (1 : Nat) (Option.none : Option Jvm.ClassFile.FieldType), Jvm.Cond.code ({ cls := "com/example/portunus/portunus/core/KeySpace", name := "checkText", desc := "(Ljava/lang/String;Ljava/lang/String;I)V" } : Jvm.MethodName) prog_7_method_6_code (6 : Nat) (Option.none : Option Jvm.ClassFile.FieldType), Jvm.Cond.code ({ cls := "java/lang/String", name := "length", desc := "()I" } : Jvm.MethodName) jdk_42_method_54_code (1 : Nat) (Option.some Jvm.ClassFile.FieldType.int), Jvm.Cond.code ({ cls := "java/lang/String", name := "coder", desc := "()B" } : Jvm.MethodName) jdk_42_method_152_code (1 : Nat) (Option.some Jvm.ClassFile.FieldType.byte), Jvm.Cond.code ({ cls := "java/lang/String", name := "charAt", desc := "(I)C" } : Jvm.MethodName) jdk_42_method_56_code (2 : Nat) (Option.some Jvm.ClassFile.FieldType.char), Jvm.Cond.code ({ cls := "java/lang/String", name := "isLatin1", desc := "()Z" } : Jvm.MethodName) jdk_42_method_154_code (1 : Nat) (Option.some Jvm.ClassFile.FieldType.boolean), Jvm.Cond.code ({ cls := "java/lang/StringLatin1", name := "charAt", desc := "([BI)C" } : Jvm.MethodName) jdk_43_method_2_code (2 : Nat) (Option.some Jvm.ClassFile.FieldType.char), Jvm.Cond.code ({ cls := "java/lang/String", name := "checkIndex", desc := "(II)V" } : Jvm.MethodName) jdk_42_method_155_code (2 : Nat) (Option.none : Option Jvm.ClassFile.FieldType), Jvm.Cond.code ({ cls := "jdk/internal/util/Preconditions", name := "checkIndex", desc := "(IILjava/util/function/BiFunction;)I" } : Jvm.MethodName) jdk_41_method_11_code (3 : Nat) (Option.some Jvm.ClassFile.FieldType.int), Jvm.Cond.code ({ cls := "java/lang/Character", name := "isHighSurrogate", desc := "(C)Z" } : Jvm.MethodName) jdk_89_method_14_code (1 : Nat) (Option.some Jvm.ClassFile.FieldType.boolean), Jvm.Cond.code ({ cls := "java/lang/Character", name := "isSurrogate", desc := "(C)Z" } : Jvm.MethodName) jdk_89_method_16_code (1 : Nat) (Option.some Jvm.ClassFile.FieldType.boolean), Jvm.Cond.code ({ cls := "java/lang/String", name := "indexOf", desc := "(I)I" } : Jvm.MethodName) jdk_42_method_79_code (2 : Nat) (Option.some Jvm.ClassFile.FieldType.int), Jvm.Cond.code ({ cls := "java/lang/String", name := "indexOf", desc := "(II)I" } : Jvm.MethodName) jdk_42_method_80_code (3 : Nat) (Option.some Jvm.ClassFile.FieldType.int), Jvm.Cond.code ({ cls := "java/lang/StringLatin1", name := "indexOf", desc := "([BIII)I" } : Jvm.MethodName) jdk_43_method_22_code (4 : Nat) (Option.some Jvm.ClassFile.FieldType.int), Jvm.Cond.code ({ cls := "java/lang/StringLatin1", name := "canEncode", desc := "(I)Z" } : Jvm.MethodName) jdk_43_method_4_code (1 : Nat) (Option.some Jvm.ClassFile.FieldType.boolean), Jvm.Cond.code ({ cls := "java/lang/Math", name := "max", desc := "(II)I" } : Jvm.MethodName) jdk_29_method_65_code (2 : Nat) (Option.some Jvm.ClassFile.FieldType.int), Jvm.Cond.code ({ cls := "java/lang/Math", name := "min", desc := "(II)I" } : Jvm.MethodName) jdk_29_method_69_code (2 : Nat) (Option.some Jvm.ClassFile.FieldType.int), Jvm.Cond.code ({ cls := "java/lang/StringLatin1", name := "indexOfChar", desc := "([BIII)I" } : Jvm.MethodName) jdk_43_method_23_code (6 : Nat) (Option.some Jvm.ClassFile.FieldType.int), Jvm.Cond.code ({ cls := "com/example/portunus/portunus/core/KeySpaceLockKeyPinLaw", name := "nc", desc := "(I)C" } : Jvm.MethodName) method_3_code (2 : Nat) (Option.some Jvm.ClassFile.FieldType.char), Jvm.Cond.code ({ cls := "java/lang/String", name := "valueOf", desc := "(C)Ljava/lang/String;" } : Jvm.MethodName) jdk_42_method_139_code (1 : Nat) (Option.some (Jvm.ClassFile.FieldType.object "java/lang/String")), Jvm.Cond.code ({ cls := "java/lang/StringLatin1", name := "canEncode", desc := "(C)Z" } : Jvm.MethodName) jdk_43_method_3_code (1 : Nat) (Option.some Jvm.ClassFile.FieldType.boolean), Jvm.Cond.code ({ cls := "java/lang/StringLatin1", name := "toBytes", desc := "(C)[B" } : Jvm.MethodName) jdk_43_method_46_code (1 : Nat) (Option.some (Jvm.ClassFile.FieldType.array Jvm.ClassFile.FieldType.byte)), Jvm.Cond.code ({ cls := "java/lang/String", name := "<init>", desc := "([BB)V" } : Jvm.MethodName) jdk_42_method_151_code (3 : Nat) (Option.none : Option Jvm.ClassFile.FieldType), Jvm.Cond.code ({ cls := "com/example/portunus/portunus/core/KeySpace", name := "lockKey", desc := "(Ljava/lang/String;)Ljava/lang/String;" } : Jvm.MethodName) prog_7_method_2_code (2 : Nat) (Option.some (Jvm.ClassFile.FieldType.object "java/lang/String")), Jvm.Cond.code ({ cls := "java/lang/StringBuilder", name := "<init>", desc := "()V" } : Jvm.MethodName) jdk_67_method_1_code (1 : Nat) (Option.none : Option Jvm.ClassFile.FieldType), Jvm.Cond.code ({ cls := "java/lang/AbstractStringBuilder", name := "<init>", desc := "(I)V" } : Jvm.MethodName) jdk_68_method_2_code (2 : Nat) (Option.none : Option Jvm.ClassFile.FieldType), Jvm.Cond.code ({ cls := "java/lang/StringBuilder", name := "append", desc := "(Ljava/lang/String;)Ljava/lang/StringBuilder;" } : Jvm.MethodName) jdk_67_method_7_code (2 : Nat) (Option.some (Jvm.ClassFile.FieldType.object "java/lang/StringBuilder")), Jvm.Cond.code ({ cls := "java/lang/AbstractStringBuilder", name := "append", desc := "(Ljava/lang/String;)Ljava/lang/AbstractStringBuilder;" } : Jvm.MethodName) jdk_68_method_22_code (3 : Nat) (Option.some (Jvm.ClassFile.FieldType.object "java/lang/AbstractStringBuilder")), Jvm.Cond.code ({ cls := "java/lang/AbstractStringBuilder", name := "ensureCapacityInternal", desc := "(I)V" } : Jvm.MethodName) jdk_68_method_9_code (3 : Nat) (Option.none : Option Jvm.ClassFile.FieldType), Jvm.Cond.code ({ cls := "java/lang/AbstractStringBuilder", name := "putStringAt", desc := "(ILjava/lang/String;)V" } : Jvm.MethodName) jdk_68_method_73_code (3 : Nat) (Option.none : Option Jvm.ClassFile.FieldType), Jvm.Cond.code ({ cls := "java/lang/AbstractStringBuilder", name := "inflateIfNeededFor", desc := "(Ljava/lang/String;)V" } : Jvm.MethodName) jdk_68_method_71_code (2 : Nat) (Option.none : Option Jvm.ClassFile.FieldType), Jvm.Cond.code ({ cls := "java/lang/String", name := "getBytes", desc := "([BIB)V" } : Jvm.MethodName) jdk_42_method_147_code (4 : Nat) (Option.none : Option Jvm.ClassFile.FieldType), Jvm.Cond.code ({ cls := "java/lang/StringBuilder", name := "append", desc := "(C)Ljava/lang/StringBuilder;" } : Jvm.MethodName) jdk_67_method_14_code (2 : Nat) (Option.some (Jvm.ClassFile.FieldType.object "java/lang/StringBuilder")), Jvm.Cond.code ({ cls := "java/lang/AbstractStringBuilder", name := "append", desc := "(C)Ljava/lang/AbstractStringBuilder;" } : Jvm.MethodName) jdk_68_method_31_code (2 : Nat) (Option.some (Jvm.ClassFile.FieldType.object "java/lang/AbstractStringBuilder")), Jvm.Cond.code ({ cls := "java/lang/AbstractStringBuilder", name := "isLatin1", desc := "()Z" } : Jvm.MethodName) jdk_68_method_68_code (1 : Nat) (Option.some Jvm.ClassFile.FieldType.boolean), Jvm.Cond.code ({ cls := "java/lang/StringBuilder", name := "toString", desc := "()Ljava/lang/String;" } : Jvm.MethodName) jdk_67_method_42_code (1 : Nat) (Option.some (Jvm.ClassFile.FieldType.object "java/lang/String")), Jvm.Cond.code ({ cls := "java/lang/String", name := "<init>", desc := "(Ljava/lang/StringBuilder;)V" } : Jvm.MethodName) jdk_42_method_53_code (2 : Nat) (Option.none : Option Jvm.ClassFile.FieldType), Jvm.Cond.code ({ cls := "java/lang/String", name := "<init>", desc := "(Ljava/lang/AbstractStringBuilder;Ljava/lang/Void;)V" } : Jvm.MethodName) jdk_42_method_150_code (5 : Nat) (Option.none : Option Jvm.ClassFile.FieldType), Jvm.Cond.code ({ cls := "java/lang/AbstractStringBuilder", name := "getValue", desc := "()[B" } : Jvm.MethodName) jdk_68_method_64_code (1 : Nat) (Option.some (Jvm.ClassFile.FieldType.array Jvm.ClassFile.FieldType.byte)), Jvm.Cond.code ({ cls := "java/lang/StringBuilder", name := "length", desc := "()I" } : Jvm.MethodName) jdk_67_method_93_code (1 : Nat) (Option.some Jvm.ClassFile.FieldType.int), Jvm.Cond.code ({ cls := "java/lang/AbstractStringBuilder", name := "length", desc := "()I" } : Jvm.MethodName) jdk_68_method_6_code (1 : Nat) (Option.some Jvm.ClassFile.FieldType.int), Jvm.Cond.code ({ cls := "java/util/Arrays", name := "copyOfRange", desc := "([BII)[B" } : Jvm.MethodName) jdk_65_method_132_code (3 : Nat) (Option.some (Jvm.ClassFile.FieldType.array Jvm.ClassFile.FieldType.byte)), Jvm.Cond.code ({ cls := "java/util/Arrays", name := "copyOfRangeByte", desc := "([BII)[B" } : Jvm.MethodName) jdk_65_method_133_code (5 : Nat) (Option.some (Jvm.ClassFile.FieldType.array Jvm.ClassFile.FieldType.byte)), Jvm.Cond.code ({ cls := "java/util/Arrays", name := "checkLength", desc := "(II)V" } : Jvm.MethodName) jdk_65_method_131_code (2 : Nat) (Option.none : Option Jvm.ClassFile.FieldType), Jvm.Cond.code ({ cls := "java/lang/String", name := "equals", desc := "(Ljava/lang/Object;)Z" } : Jvm.MethodName) jdk_42_method_66_code (3 : Nat) (Option.some Jvm.ClassFile.FieldType.boolean), Jvm.Cond.code ({ cls := "java/lang/StringLatin1", name := "equals", desc := "([B[B)Z" } : Jvm.MethodName) jdk_43_method_13_code (3 : Nat) (Option.some Jvm.ClassFile.FieldType.boolean), Jvm.Cond.code ({ cls := "java/lang/StringUTF16", name := "toBytes", desc := "([CII)[B" } : Jvm.MethodName) jdk_52_method_14_code (5 : Nat) (Option.some (Jvm.ClassFile.FieldType.array Jvm.ClassFile.FieldType.byte)), Jvm.Cond.code ({ cls := "java/lang/StringUTF16", name := "newBytesFor", desc := "(I)[B" } : Jvm.MethodName) jdk_52_method_2_code (1 : Nat) (Option.some (Jvm.ClassFile.FieldType.array Jvm.ClassFile.FieldType.byte)), Jvm.Cond.code ({ cls := "java/lang/StringUTF16", name := "newBytesLength", desc := "(I)I" } : Jvm.MethodName) jdk_52_method_3_code (1 : Nat) (Option.some Jvm.ClassFile.FieldType.int), Jvm.Cond.code ({ cls := "java/lang/StringUTF16", name := "putChar", desc := "([BII)V" } : Jvm.MethodName) jdk_52_method_4_code (3 : Nat) (Option.none : Option Jvm.ClassFile.FieldType), Jvm.Cond.code ({ cls := "java/lang/StringUTF16", name := "getChar", desc := "([BI)C" } : Jvm.MethodName) jdk_52_method_5_code (2 : Nat) (Option.some Jvm.ClassFile.FieldType.char), Jvm.Cond.code ({ cls := "java/lang/StringUTF16", name := "charAt", desc := "([BI)C" } : Jvm.MethodName) jdk_52_method_83_code (2 : Nat) (Option.some Jvm.ClassFile.FieldType.char), Jvm.Cond.code ({ cls := "java/lang/StringUTF16", name := "checkIndex", desc := "(I[B)V" } : Jvm.MethodName) jdk_52_method_91_code (2 : Nat) (Option.none : Option Jvm.ClassFile.FieldType), Jvm.Cond.code ({ cls := "java/lang/StringUTF16", name := "length", desc := "([B)I" } : Jvm.MethodName) jdk_52_method_6_code (1 : Nat) (Option.some Jvm.ClassFile.FieldType.int), Jvm.Cond.code ({ cls := "java/lang/StringUTF16", name := "indexOf", desc := "([BIII)I" } : Jvm.MethodName) jdk_52_method_40_code (4 : Nat) (Option.some Jvm.ClassFile.FieldType.int), Jvm.Cond.code ({ cls := "java/lang/StringUTF16", name := "indexOfChar", desc := "([BIII)I" } : Jvm.MethodName) jdk_52_method_47_code (4 : Nat) (Option.some Jvm.ClassFile.FieldType.int), Jvm.Cond.code ({ cls := "java/lang/StringUTF16", name := "checkBoundsBeginEnd", desc := "(II[B)V" } : Jvm.MethodName) jdk_52_method_93_code (3 : Nat) (Option.none : Option Jvm.ClassFile.FieldType), Jvm.Cond.code ({ cls := "java/lang/String", name := "checkBoundsBeginEnd", desc := "(III)V" } : Jvm.MethodName) jdk_42_method_158_code (3 : Nat) (Option.none : Option Jvm.ClassFile.FieldType), Jvm.Cond.code ({ cls := "jdk/internal/util/Preconditions", name := "checkFromToIndex", desc := "(IIILjava/util/function/BiFunction;)I" } : Jvm.MethodName) jdk_41_method_12_code (4 : Nat) (Option.some Jvm.ClassFile.FieldType.int), Jvm.Cond.code ({ cls := "java/lang/StringUTF16", name := "indexOfCharUnsafe", desc := "([BIII)I" } : Jvm.MethodName) jdk_52_method_48_code (5 : Nat) (Option.some Jvm.ClassFile.FieldType.int), Jvm.Cond.code ({ cls := "java/lang/AbstractStringBuilder", name := "inflate", desc := "()V" } : Jvm.MethodName) jdk_68_method_11_code (2 : Nat) (Option.none : Option Jvm.ClassFile.FieldType), Jvm.Cond.code ({ cls := "java/lang/StringLatin1", name := "inflate", desc := "([BI[BII)V" } : Jvm.MethodName) jdk_43_method_50_code (5 : Nat) (Option.none : Option Jvm.ClassFile.FieldType), Jvm.Cond.code ({ cls := "java/lang/StringUTF16", name := "inflate", desc := "([BI[BII)V" } : Jvm.MethodName) jdk_52_method_86_code (6 : Nat) (Option.none : Option Jvm.ClassFile.FieldType), Jvm.Cond.code ({ cls := "java/lang/StringUTF16", name := "checkBoundsOffCount", desc := "(II[B)V" } : Jvm.MethodName) jdk_52_method_94_code (3 : Nat) (Option.none : Option Jvm.ClassFile.FieldType), Jvm.Cond.code ({ cls := "java/lang/String", name := "checkBoundsOffCount", desc := "(III)I" } : Jvm.MethodName) jdk_42_method_157_code (3 : Nat) (Option.some Jvm.ClassFile.FieldType.int), Jvm.Cond.code ({ cls := "jdk/internal/util/Preconditions", name := "checkFromIndexSize", desc := "(IIILjava/util/function/BiFunction;)I" } : Jvm.MethodName) jdk_41_method_13_code (4 : Nat) (Option.some Jvm.ClassFile.FieldType.int), Jvm.Cond.code ({ cls := "java/lang/StringUTF16", name := "putCharSB", desc := "([BII)V" } : Jvm.MethodName) jdk_52_method_71_code (3 : Nat) (Option.none : Option Jvm.ClassFile.FieldType), Jvm.Cond.code ({ cls := "java/lang/Character", name := "isLowSurrogate", desc := "(C)Z" } : Jvm.MethodName) jdk_89_method_15_code (1 : Nat) (Option.some Jvm.ClassFile.FieldType.boolean), Jvm.Cond.code ({ cls := "java/lang/AbstractStringBuilder", name := "newCapacity", desc := "(I)I" } : Jvm.MethodName) jdk_68_method_10_code (6 : Nat) (Option.some Jvm.ClassFile.FieldType.int), Jvm.Cond.code ({ cls := "jdk/internal/util/ArraysSupport", name := "newLength", desc := "(III)I" } : Jvm.MethodName) jdk_48_method_27_code (4 : Nat) (Option.some Jvm.ClassFile.FieldType.int), Jvm.Cond.code ({ cls := "java/util/Arrays", name := "copyOf", desc := "([BI)[B" } : Jvm.MethodName) jdk_65_method_121_code (3 : Nat) (Option.some (Jvm.ClassFile.FieldType.array Jvm.ClassFile.FieldType.byte)), Jvm.Cond.code ({ cls := "java/lang/StringUTF16", name := "toBytes", desc := "(C)[B" } : Jvm.MethodName) jdk_52_method_24_code (2 : Nat) (Option.some (Jvm.ClassFile.FieldType.array Jvm.ClassFile.FieldType.byte))]
set_option maxRecDepth 65536 in
theorem codes_eq : words1.filter isCode = codes1 := rfl
theorem w_codes : ∀ c ∈ words1.filter isCode, c.before args0 about1 = true := by
  rw [codes_eq]
  intro c hc
  simp only [codes1, List.mem_cons, List.not_mem_nil, or_false] at hc
  rcases hc with rfl | rfl | rfl | rfl | rfl | rfl | rfl | rfl | rfl | rfl | rfl | rfl | rfl | rfl | rfl | rfl | rfl | rfl | rfl | rfl | rfl | rfl | rfl | rfl | rfl | rfl | rfl | rfl | rfl | rfl | rfl | rfl | rfl | rfl | rfl | rfl | rfl | rfl | rfl | rfl | rfl | rfl | rfl | rfl | rfl | rfl | rfl | rfl | rfl | rfl | rfl | rfl | rfl | rfl | rfl | rfl | rfl | rfl | rfl | rfl | rfl | rfl | rfl | rfl | rfl | rfl | rfl | rfl | rfl | rfl | rfl | rfl | rfl | rfl | rfl | rfl | rfl | rfl | rfl | rfl | rfl
  · exact w_c0
  · exact w_c1
  · exact w_c2
  · exact w_c3
  · exact w_c4
  · exact w_c5
  · exact w_c6
  · exact w_c7
  · exact w_c8
  · exact w_c9
  · exact w_c10
  · exact w_c11
  · exact w_c12
  · exact w_c13
  · exact w_c14
  · exact w_c15
  · exact w_c16
  · exact w_c17
  · exact w_c18
  · exact w_c19
  · exact w_c20
  · exact w_c21
  · exact w_c22
  · exact w_c23
  · exact w_c24
  · exact w_c25
  · exact w_c26
  · exact w_c27
  · exact w_c28
  · exact w_c29
  · exact w_c30
  · exact w_c31
  · exact w_c32
  · exact w_c33
  · exact w_c34
  · exact w_c35
  · exact w_c36
  · exact w_c37
  · exact w_c38
  · exact w_c39
  · exact w_c40
  · exact w_c41
  · exact w_c42
  · exact w_c43
  · exact w_c44
  · exact w_c45
  · exact w_c46
  · exact w_c47
  · exact w_c48
  · exact w_c49
  · exact w_c50
  · exact w_c51
  · exact w_c52
  · exact w_c53
  · exact w_c54
  · exact w_c55
  · exact w_c56
  · exact w_c57
  · exact w_c58
  · exact w_c59
  · exact w_c60
  · exact w_c61
  · exact w_c62
  · exact w_c63
  · exact w_c64
  · exact w_c65
  · exact w_c66
  · exact w_c67
  · exact w_c68
  · exact w_c69
  · exact w_c70
  · exact w_c71
  · exact w_c72
  · exact w_c73
  · exact w_c74
  · exact w_c75
  · exact w_c76
  · exact w_c77
  · exact w_c78
  · exact w_c79
  · exact w_c80
set_option maxRecDepth 65536 in
theorem w_t1 : (words1.take 24).all (fun c => isCode c || c.before args0 about1) = true := by decide +kernel
set_option maxRecDepth 65536 in
theorem w_t2 : ((words1.drop 24).take 24).all (fun c => isCode c || c.before args0 about1) = true := by decide +kernel
set_option maxRecDepth 65536 in
theorem w_t3 : (((words1.drop 24).drop 24).take 24).all (fun c => isCode c || c.before args0 about1) = true := by decide +kernel
set_option maxRecDepth 65536 in
theorem w_t4 : ((((words1.drop 24).drop 24).drop 24).take 24).all (fun c => isCode c || c.before args0 about1) = true := by decide +kernel
set_option maxRecDepth 65536 in
theorem w_t5 : (((((words1.drop 24).drop 24).drop 24).drop 24).take 24).all (fun c => isCode c || c.before args0 about1) = true := by decide +kernel
set_option maxRecDepth 65536 in
theorem w_t6 : ((((((words1.drop 24).drop 24).drop 24).drop 24).drop 24).take 24).all (fun c => isCode c || c.before args0 about1) = true := by decide +kernel
set_option maxRecDepth 65536 in
theorem w_t7 : (((((((words1.drop 24).drop 24).drop 24).drop 24).drop 24).drop 24).take 24).all (fun c => isCode c || c.before args0 about1) = true := by decide +kernel
set_option maxRecDepth 65536 in
theorem w_t8 : ((((((((words1.drop 24).drop 24).drop 24).drop 24).drop 24).drop 24).drop 24).take 24).all (fun c => isCode c || c.before args0 about1) = true := by decide +kernel
set_option maxRecDepth 65536 in
theorem w_t9 : (((((((((words1.drop 24).drop 24).drop 24).drop 24).drop 24).drop 24).drop 24).drop 24).take 24).all (fun c => isCode c || c.before args0 about1) = true := by decide +kernel
set_option maxRecDepth 65536 in
theorem w_t10 : ((((((((((words1.drop 24).drop 24).drop 24).drop 24).drop 24).drop 24).drop 24).drop 24).drop 24).take 24).all (fun c => isCode c || c.before args0 about1) = true := by decide +kernel
set_option maxRecDepth 65536 in
theorem w_t11 : (((((((((((words1.drop 24).drop 24).drop 24).drop 24).drop 24).drop 24).drop 24).drop 24).drop 24).drop 24).take 24).all (fun c => isCode c || c.before args0 about1) = true := by decide +kernel
set_option maxRecDepth 65536 in
theorem w_t12 : ((((((((((((words1.drop 24).drop 24).drop 24).drop 24).drop 24).drop 24).drop 24).drop 24).drop 24).drop 24).drop 24).take 24).all (fun c => isCode c || c.before args0 about1) = true := by decide +kernel
set_option maxRecDepth 65536 in
theorem w_t13 : (((((((((((((words1.drop 24).drop 24).drop 24).drop 24).drop 24).drop 24).drop 24).drop 24).drop 24).drop 24).drop 24).drop 24).take 24).all (fun c => isCode c || c.before args0 about1) = true := by decide +kernel
set_option maxRecDepth 65536 in
theorem w_t14 : ((((((((((((((words1.drop 24).drop 24).drop 24).drop 24).drop 24).drop 24).drop 24).drop 24).drop 24).drop 24).drop 24).drop 24).drop 24).take 24).all (fun c => isCode c || c.before args0 about1) = true := by decide +kernel
set_option maxRecDepth 65536 in
theorem w_t15 : (((((((((((((((words1.drop 24).drop 24).drop 24).drop 24).drop 24).drop 24).drop 24).drop 24).drop 24).drop 24).drop 24).drop 24).drop 24).drop 24).take 24).all (fun c => isCode c || c.before args0 about1) = true := by decide +kernel
set_option maxRecDepth 65536 in
theorem w_t16 : (((((((((((((((words1.drop 24).drop 24).drop 24).drop 24).drop 24).drop 24).drop 24).drop 24).drop 24).drop 24).drop 24).drop 24).drop 24).drop 24).drop 24).all (fun c => isCode c || c.before args0 about1) = true := by decide +kernel
theorem w_tables : (allAtoms (Jvm.Cond.code x code maxLocals ret :: tables_1)).before args0 about1 = true := by
  rw [allAtoms_all]
  show words1.all (fun c => c.before args0 about1) = true
  refine all_split ?_ w_codes
  rw [← List.take_append_drop 24 words1, List.all_append, w_t1, ← List.take_append_drop 24 (words1.drop 24), List.all_append, w_t2, ← List.take_append_drop 24 ((words1.drop 24).drop 24), List.all_append, w_t3, ← List.take_append_drop 24 (((words1.drop 24).drop 24).drop 24), List.all_append, w_t4, ← List.take_append_drop 24 ((((words1.drop 24).drop 24).drop 24).drop 24), List.all_append, w_t5, ← List.take_append_drop 24 (((((words1.drop 24).drop 24).drop 24).drop 24).drop 24), List.all_append, w_t6, ← List.take_append_drop 24 ((((((words1.drop 24).drop 24).drop 24).drop 24).drop 24).drop 24), List.all_append, w_t7, ← List.take_append_drop 24 (((((((words1.drop 24).drop 24).drop 24).drop 24).drop 24).drop 24).drop 24), List.all_append, w_t8, ← List.take_append_drop 24 ((((((((words1.drop 24).drop 24).drop 24).drop 24).drop 24).drop 24).drop 24).drop 24), List.all_append, w_t9, ← List.take_append_drop 24 (((((((((words1.drop 24).drop 24).drop 24).drop 24).drop 24).drop 24).drop 24).drop 24).drop 24), List.all_append, w_t10, ← List.take_append_drop 24 ((((((((((words1.drop 24).drop 24).drop 24).drop 24).drop 24).drop 24).drop 24).drop 24).drop 24).drop 24), List.all_append, w_t11, ← List.take_append_drop 24 (((((((((((words1.drop 24).drop 24).drop 24).drop 24).drop 24).drop 24).drop 24).drop 24).drop 24).drop 24).drop 24), List.all_append, w_t12, ← List.take_append_drop 24 ((((((((((((words1.drop 24).drop 24).drop 24).drop 24).drop 24).drop 24).drop 24).drop 24).drop 24).drop 24).drop 24).drop 24), List.all_append, w_t13, ← List.take_append_drop 24 (((((((((((((words1.drop 24).drop 24).drop 24).drop 24).drop 24).drop 24).drop 24).drop 24).drop 24).drop 24).drop 24).drop 24).drop 24), List.all_append, w_t14, ← List.take_append_drop 24 ((((((((((((((words1.drop 24).drop 24).drop 24).drop 24).drop 24).drop 24).drop 24).drop 24).drop 24).drop 24).drop 24).drop 24).drop 24).drop 24), List.all_append, w_t15, w_t16]
  rfl
set_option maxRecDepth 65536 in
theorem w_rest : rest_1_c.before args0 about1 = true := by decide +kernel
set_option maxRecDepth 65536 in
theorem w_case : (Jvm.Cond.and given_1 narrow_1).before args0 about1 = true := by decide +kernel
set_option maxRecDepth 65536 in
theorem w_consts : constsHeld consts_1 about1 := Jvm.Lit.constsHeldB_iff.mp (by decide +kernel)
theorem w_applies : (headSpec (Jvm.Cond.code x code maxLocals ret :: tables_1) room_1).applies x e0.platform about1 = true :=
  (Spec.applies_iff w_frames).mpr ⟨w_running, w_runnable, w_alone, w_named, w_hears, w_ripe, w_room, w_tables⟩
theorem atStart : AtStart classFile x code maxLocals ret World_1 tables_1 room_1 Calls_1 rest_1 Pre_1 launch0 p0 e0 about1 theMethod args0 below0 :=
  ⟨lists_1, trivial, launch0.admits_env _ _ _, launch0.least_env, fairChoices_fair.cas, fairChoices_fair.clock, w_frames, w_args, w_heap, w_applies, ⟨w_consts, trivial⟩, w_rest, w_case⟩
end start1
theorem witness_1 : WitnessClaimed_1 := ⟨start1.p0, start1.e0, start1.about1, start1.theMethod, start1.args0, start1.below0, start1.atStart⟩
end Jvm.Pilot.@@N@@
