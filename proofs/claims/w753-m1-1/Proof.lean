import JvmDerived
import JvmDerived.Pilot.@@N@@Statement
import JvmDerived.Pilot.@@N@@Code
set_option linter.unusedVariables false
set_option linter.unusedSimpArgs false
namespace Jvm.Pilot.@@N@@
open Jvm Jvm.ClassFile Sem Op Lib Jvm.Free Jvm.Stand Jvm.LawKit Jvm.RoadKit Bundle Jvm.Pilot.@@N@@.Jvm.D
theorem own_mvMN {Z s : State} {a0 args : Array Value} {own host : String} {index : Nat} {y : MethodName} (hZ : Z.Warmed39 s.vm) (w : (Jvm.Cond.methodLinkNest own index y host).before a0 Z = true) : (Jvm.Cond.methodLinkNest own index y host).before args s = true := (Cond.methodLinkNest_wide hZ w :)
theorem own_cat1 {v : Value} (h : v.isRef = true) : v.category = 1 := by cases v <;> simp [Value.isRef] at h <;> rfl
theorem own_fit {v : Value} {t : FieldType} (h : v.isRef = true) (ht : t.isReference = true) : fits t v = true := by
  cases t <;> first | (cases ht; done) | (cases v <;> simp [Value.isRef] at h <;> rfl)
theorem own_nar {v : Value} {t : FieldType} (h : v.isRef = true) (ht : t.isReference = true) : narrow t v = v := by
  cases t <;> first | (cases ht; done) | (cases v <;> simp [Value.isRef] at h <;> rfl)
theorem wd {a0 : Array Value} {Z : State} (hw : ∀ d ∈ tables_1, d.before a0 Z = true) (i : Nat) {d : Jvm.Cond} (h : tables_1[i]? = some d) : d.before a0 Z = true := hw d (List.mem_of_getElem? h)
abbrev si (x : Int32) : Slot := .val (.int x)
abbrev sr (x : Addr) : Slot := .val (.ref x)
abbrev Go (p : Program) (e : Env) (below : List Frame) (E0 T : State) (m : MethodId) (pc : Nat) (L : Array Slot) (S : List Value) : Prop := ∀ tgt, Steps p.tables e below (T.setTop (mkF m pc L S)) tgt → Steps p.tables e below E0 tgt
theorem own_255 (i : Nat) : (255#32).getLsbD i = decide (i < 8) := by
  rw [BitVec.getLsbD_ofNat]
  have : (255 : Nat) = 2 ^ 8 - 1 := by decide
  rw [this, Nat.testBit_two_pow_sub_one]
  by_cases h : i < 8
  · simp [h]; omega
  · simp [h]
theorem own_hi0 {x : BitVec 32} (h : x.toNat < 65536) (i : Nat) (hi : 16 ≤ i) : x.getLsbD i = false := by
  rw [← BitVec.testBit_toNat]
  exact Nat.testBit_lt_two_pow (Nat.lt_of_lt_of_le h (by have := Nat.pow_le_pow_right (n := 2) (by decide) hi; simpa using this))
theorem own_se {x : BitVec 32} {i : Nat} (h : i < 8) : (BitVec.signExtend 32 (BitVec.signExtend 8 x)).getLsbD i = x.getLsbD i := by
  rw [BitVec.getLsbD_signExtend, BitVec.getLsbD_signExtend]
  have h1 : i < 32 := by omega
  simp only [h, h1, decide_true, Bool.true_and, if_true]
theorem own_bv {x : BitVec 32} (h : x.toNat < 65536) : ((BitVec.signExtend 32 (BitVec.signExtend 8 x)) &&& 255#32) ||| (((BitVec.signExtend 32 (BitVec.signExtend 8 (x.sshiftRight 8))) &&& 255#32) <<< 8) = x := by
  apply BitVec.eq_of_getLsbD_eq
  intro i hi
  rw [BitVec.getLsbD_or, BitVec.getLsbD_and, own_255, BitVec.getLsbD_shiftLeft, BitVec.getLsbD_and, own_255]
  by_cases h8 : i < 8
  · rw [own_se h8]; simp [h8]
  · by_cases h16 : i < 16
    · have h7 : i - 8 < 8 := by omega
      rw [own_se h7, BitVec.getLsbD_sshiftRight]
      have e : 8 + (i - 8) = i := by omega
      simp only [h8, h7, hi, e, decide_true, decide_false, Bool.and_false, Bool.false_or, Bool.true_and, Bool.not_false, Bool.and_true, if_true]
      simp; omega
    · have h7 : ¬ i - 8 < 8 := by omega
      rw [own_hi0 h i (by omega)]
      simp [h8, h7]
theorem own_utf {c : Int32} (h1 : ¬ c < 0) (h2 : ¬ (65535 : Int32) < c) : (((nar .byte ((c >>> ((0 : Int32) &&& 31)).toInt8.toInt32) &&& (255 : Int32)) <<< ((0 : Int32) &&& 31)) ||| ((nar .byte ((c >>> ((8 : Int32) &&& 31)).toInt8.toInt32) &&& (255 : Int32)) <<< ((8 : Int32) &&& 31))) = c := by
  have hn : c.toBitVec.toNat < 65536 := by
    rw [Int32.lt_iff_toInt_lt] at h1 h2
    have e1 : (0 : Int32).toInt = 0 := by decide
    have e2 : (65535 : Int32).toInt = 65535 := by decide
    have h : c.toInt = c.toBitVec.toInt := rfl
    rw [e1] at h1; rw [e2] at h2
    rw [h, BitVec.toInt_eq_toNat_cond] at h1 h2
    have h5 := c.toBitVec.isLt
    split at h1 <;> split at h2 <;> omega
  apply Int32.toBitVec_inj.mp
  have e := own_bv hn
  have s0 : ((0 : Int32) &&& 31) = 0 := by decide
  have s8 : ((8 : Int32) &&& 31) = 8 := by decide
  rw [s0, s8]
  have z0 : ∀ d : Int32, d >>> (0 : Int32) = d := fun d => by apply Int32.toBitVec_inj.mp; show d.toBitVec.sshiftRight _ = _; exact BitVec.sshiftRight_zero
  have z1 : ∀ d : Int32, d <<< (0 : Int32) = d := fun d => by apply Int32.toBitVec_inj.mp; show d.toBitVec <<< _ = _; exact BitVec.shiftLeft_zero _
  rw [z0, z1]
  have nb : ∀ d : Int32, nar .byte (d.toInt8.toInt32) = d.toInt8.toInt32 := fun d => by show (d.toInt8.toInt32).toInt8.toInt32 = _; rw [Int8.toInt8_toInt32]
  rw [nb, nb]
  exact e
theorem own_i2c {c : Int32} (h : nar .char c = c) : nar .char (c.toUInt32.toUInt16.toUInt32.toInt32) = c := by
  have e : c.toUInt32.toUInt16.toUInt32.toInt32 = c := h
  rw [e, h]
theorem own_lat {c : Int32} (h1 : ¬ c < 0) (h2 : ¬ (255 : Int32) < c) : nar .char ((((nar .byte (c.toInt8.toInt32)) &&& (255 : Int32))).toUInt32.toUInt16.toUInt32.toInt32) = c := by
  have t : ∀ k : Fin 256, nar .char ((((nar .byte ((Int32.ofNat k.val).toInt8.toInt32)) &&& (255 : Int32))).toUInt32.toUInt16.toUInt32.toInt32) = Int32.ofNat k.val := by decide +kernel
  rw [Int32.lt_iff_toInt_lt] at h1 h2
  have e1 : (0 : Int32).toInt = 0 := by decide
  have e2 : (255 : Int32).toInt = 255 := by decide
  have e : c = Int32.ofNat c.toInt.toNat := by
    apply Int32.toInt_inj.mp
    rw [Int32.toInt_ofNat_small (by omega)]
    omega
  rw [e]
  exact t ⟨c.toInt.toNat, by omega⟩
def own_ch (c : Int32) : Prop := ¬ c < 0 ∧ ¬ (65535 : Int32) < c ∧ nar .char c = c
theorem own_utfc {c : Int32} (h : own_ch c) : nar .char ((((nar .byte ((c >>> ((0 : Int32) &&& 31)).toInt8.toInt32) &&& (255 : Int32)) <<< ((0 : Int32) &&& 31)) ||| ((nar .byte ((c >>> ((8 : Int32) &&& 31)).toInt8.toInt32) &&& (255 : Int32)) <<< ((8 : Int32) &&& 31))).toUInt32.toUInt16.toUInt32.toInt32) = c := by
  rw [own_utf h.1 h.2.1]; exact own_i2c h.2.2
theorem own_c16 (x : Int32) : own_ch (nar .char ((x &&& (65535 : Int32)).toUInt32.toUInt16.toUInt32.toInt32)) := by
  have h := c_i2c ((x &&& (65535 : Int32)).toUInt32.toUInt16.toUInt32.toInt32)
  have e : nar .char ((x &&& (65535 : Int32)).toUInt32.toUInt16.toUInt32.toInt32) = ((x &&& (65535 : Int32)).toUInt32.toUInt16.toUInt32.toInt32).toUInt32.toUInt16.toUInt32.toInt32 := rfl
  rw [e]
  refine ⟨?_, ?_, ?_⟩
  · rw [Int32.lt_iff_toInt_lt]; have e1 : (0 : Int32).toInt = 0 := by decide
    omega
  · rw [Int32.lt_iff_toInt_lt]; have e1 : (65535 : Int32).toInt = 65535 := by decide
    omega
  · simp only [nar, UInt32.toUInt32_toInt32, UInt16.toUInt16_toUInt32]
theorem own_c16n (x : Int32) : nar .char ((x &&& (65535 : Int32)).toUInt32.toUInt16.toUInt32.toInt32) = (x &&& (65535 : Int32)).toUInt32.toUInt16.toUInt32.toInt32 := by
  simp only [nar, UInt32.toUInt32_toInt32, UInt16.toUInt16_toUInt32]
/-- an ASCII letter or digit -/
def own_an (c : Int32) : Prop := (97 ≤ c.toInt ∧ c.toInt ≤ 122) ∨ (65 ≤ c.toInt ∧ c.toInt ≤ 90) ∨ (48 ≤ c.toInt ∧ c.toInt ≤ 57)
/-- one of the fifteen signs -/
def own_sp (c : Int32) : Prop := c.toInt = 33 ∨ c.toInt = 35 ∨ c.toInt = 36 ∨ c.toInt = 37 ∨ c.toInt = 38 ∨ c.toInt = 39 ∨ c.toInt = 42 ∨ c.toInt = 43 ∨ c.toInt = 45 ∨ c.toInt = 46 ∨ c.toInt = 94 ∨ c.toInt = 95 ∨ c.toInt = 96 ∨ c.toInt = 124 ∨ c.toInt = 126
def own_tc (c : Int32) : Prop := own_an c ∨ own_sp c

def own_lo (c : Int32) : Int32 := nar .byte (c.toInt8.toInt32)
def own_b0 (c : Int32) : Int32 := nar .byte ((c >>> ((0 : Int32) &&& 31)).toInt8.toInt32)
def own_b1 (c : Int32) : Int32 := nar .byte ((c >>> ((8 : Int32) &&& 31)).toInt8.toInt32)
def own_SL : List Value := [(.int (33 : Int32)), (.int (35 : Int32)), (.int (36 : Int32)), (.int (37 : Int32)), (.int (38 : Int32)), (.int (39 : Int32)), (.int (42 : Int32)), (.int (43 : Int32)), (.int (45 : Int32)), (.int (46 : Int32)), (.int (94 : Int32)), (.int (95 : Int32)), (.int (96 : Int32)), (.int (124 : Int32)), (.int (126 : Int32))]
def own_W (Z : State) (G : Int32) (fv : Value) : Prop := Sta Z Z.heap "java/lang/String" "COMPACT_STRINGS" "Z" (.int G) ∧ ¬ (G = (0 : Int32)) ∧ Sta Z Z.heap "jdk/internal/util/Preconditions" "SIOOBE_FORMATTER" "Ljava/util/function/BiFunction;" fv ∧ fv.isRef = true ∧ Sta Z Z.heap "java/lang/StringUTF16" "$assertionsDisabled" "Z" (.int (1 : Int32)) ∧ Sta Z Z.heap "java/lang/StringUTF16" "HI_BYTE_SHIFT" "I" (.int (0 : Int32)) ∧ Sta Z Z.heap "java/lang/StringUTF16" "LO_BYTE_SHIFT" "I" (.int (8 : Int32))
def own_S0 (Z : State) (h : Heap) (x : Addr) : Prop := ∃ (t : Addr) (kb : ClassId), Exa Z h x "java/lang/String" ∧ Fld Z h x "java/lang/String" "value" "[B" (.ref t) ∧ ((Fld Z h x "java/lang/String" "coder" "B" (.int (0 : Int32)) ∧ Arv Z h t kb .byte (0 : Int32) [] (.int (0 : Int32)) ∧ True) ∨ (Fld Z h x "java/lang/String" "coder" "B" (.int (1 : Int32)) ∧ Arv Z h t kb .byte (0 : Int32) [] (.int (0 : Int32))))
theorem own_S0ext {Z : State} {h h' : Heap} {x : Addr} (S : own_S0 Z h x) (E : Ext h h') : own_S0 Z h' x := by
  obtain ⟨t, kb, e, f, q⟩ := S
  exact ⟨t, kb, e.ext E, f.ext E, q.imp (fun q => ⟨q.1.ext E, q.2.1.ext E, q.2.2⟩) fun q => ⟨q.1.ext E, q.2.ext E⟩⟩
def own_S1 (Z : State) (h : Heap) (x : Addr) (ch0 : Int32) : Prop := ∃ (t : Addr) (kb : ClassId), Exa Z h x "java/lang/String" ∧ Fld Z h x "java/lang/String" "value" "[B" (.ref t) ∧ ((Fld Z h x "java/lang/String" "coder" "B" (.int (0 : Int32)) ∧ Arv Z h t kb .byte (1 : Int32) [(.int (own_lo ch0))] (.int (0 : Int32)) ∧ ¬ (255 : Int32) < ch0) ∨ (Fld Z h x "java/lang/String" "coder" "B" (.int (1 : Int32)) ∧ Arv Z h t kb .byte (2 : Int32) [(.int (own_b0 ch0)), (.int (own_b1 ch0))] (.int (0 : Int32))))
theorem own_S1ext {Z : State} {h h' : Heap} {x : Addr} {ch0 : Int32} (S : own_S1 Z h x ch0) (E : Ext h h') : own_S1 Z h' x ch0 := by
  obtain ⟨t, kb, e, f, q⟩ := S
  exact ⟨t, kb, e.ext E, f.ext E, q.imp (fun q => ⟨q.1.ext E, q.2.1.ext E, q.2.2⟩) fun q => ⟨q.1.ext E, q.2.ext E⟩⟩
def own_S2 (Z : State) (h : Heap) (x : Addr) (ch0 ch1 : Int32) : Prop := ∃ (t : Addr) (kb : ClassId), Exa Z h x "java/lang/String" ∧ Fld Z h x "java/lang/String" "value" "[B" (.ref t) ∧ ((Fld Z h x "java/lang/String" "coder" "B" (.int (0 : Int32)) ∧ Arv Z h t kb .byte (2 : Int32) [(.int (own_lo ch0)), (.int (own_lo ch1))] (.int (0 : Int32)) ∧ ¬ (255 : Int32) < ch0 ∧ ¬ (255 : Int32) < ch1) ∨ (Fld Z h x "java/lang/String" "coder" "B" (.int (1 : Int32)) ∧ Arv Z h t kb .byte (4 : Int32) [(.int (own_b0 ch0)), (.int (own_b1 ch0)), (.int (own_b0 ch1)), (.int (own_b1 ch1))] (.int (0 : Int32))))
theorem own_S2ext {Z : State} {h h' : Heap} {x : Addr} {ch0 ch1 : Int32} (S : own_S2 Z h x ch0 ch1) (E : Ext h h') : own_S2 Z h' x ch0 ch1 := by
  obtain ⟨t, kb, e, f, q⟩ := S
  exact ⟨t, kb, e.ext E, f.ext E, q.imp (fun q => ⟨q.1.ext E, q.2.1.ext E, q.2.2⟩) fun q => ⟨q.1.ext E, q.2.ext E⟩⟩
def own_S3 (Z : State) (h : Heap) (x : Addr) (ch0 ch1 ch2 : Int32) : Prop := ∃ (t : Addr) (kb : ClassId), Exa Z h x "java/lang/String" ∧ Fld Z h x "java/lang/String" "value" "[B" (.ref t) ∧ ((Fld Z h x "java/lang/String" "coder" "B" (.int (0 : Int32)) ∧ Arv Z h t kb .byte (3 : Int32) [(.int (own_lo ch0)), (.int (own_lo ch1)), (.int (own_lo ch2))] (.int (0 : Int32)) ∧ ¬ (255 : Int32) < ch0 ∧ ¬ (255 : Int32) < ch1 ∧ ¬ (255 : Int32) < ch2) ∨ (Fld Z h x "java/lang/String" "coder" "B" (.int (1 : Int32)) ∧ Arv Z h t kb .byte (6 : Int32) [(.int (own_b0 ch0)), (.int (own_b1 ch0)), (.int (own_b0 ch1)), (.int (own_b1 ch1)), (.int (own_b0 ch2)), (.int (own_b1 ch2))] (.int (0 : Int32))))
theorem own_S3ext {Z : State} {h h' : Heap} {x : Addr} {ch0 ch1 ch2 : Int32} (S : own_S3 Z h x ch0 ch1 ch2) (E : Ext h h') : own_S3 Z h' x ch0 ch1 ch2 := by
  obtain ⟨t, kb, e, f, q⟩ := S
  exact ⟨t, kb, e.ext E, f.ext E, q.imp (fun q => ⟨q.1.ext E, q.2.1.ext E, q.2.2⟩) fun q => ⟨q.1.ext E, q.2.ext E⟩⟩
theorem pn_0 : plainName "jdk/internal/util/Preconditions" = true := by first | (simp [plainName, overriddenIn]; done) | decide +kernel
theorem d0_0 : decode jdk_41_method_11_code 0 = .ok (.iload_n 0, 1) := by decide +kernel
theorem d0_1 : decode jdk_41_method_11_code 1 = .ok (.ifCond .lt 8, 3) := by decide +kernel
theorem d0_4 : decode jdk_41_method_11_code 4 = .ok (.iload_n 0, 1) := by decide +kernel
theorem d0_5 : decode jdk_41_method_11_code 5 = .ok (.iload_n 1, 1) := by decide +kernel
theorem d0_6 : decode jdk_41_method_11_code 6 = .ok (.if_icmp .lt 10, 3) := by decide +kernel
theorem d0_16 : decode jdk_41_method_11_code 16 = .ok (.iload_n 0, 1) := by decide +kernel
theorem d0_17 : decode jdk_41_method_11_code 17 = .ok (.ireturn, 1) := by decide +kernel
theorem ef_PC (m : MethodId) (x0 : Int32) (x1 : Int32) (x2 : Value) (hv2 : x2.isRef = true) : entryFrame m #[(.int x0), (.int x1), x2] 3 = mkF m 0 #[.val (.int x0), .val (.int x1), .val x2] [] := by
  rcases ref_cases hv2 with rfl | ⟨_, rfl⟩ <;> first | (simp [entryFrame, mkF, argsToLocals, Value.category, maxLocals]; done) | rfl
def QPC (Z : State) (i : Int32) (n : Int32) (fv : Value) (h0 : Heap) (n0 : Nat) (v : Option Value) (h : Heap) (L : List Loc) : Prop := v = some (.int i) ∧ L = [] ∧ h = h0
abbrev RmPC : Room := ({ frames := 0, cells := 0, slots := 0, locals := 0 } : Room)
set_option maxRecDepth 65536 in
set_option maxHeartbeats 40000000 in
theorem rmPC (l : Launch) (Z : State) (a0 : Array Value) (hw : ∀ d ∈ tables_1, d.before a0 Z = true) (ws : List Jvm.Cond) (i : Int32) (n : Int32) (fv : Value) (h0 : Heap) (n0 : Nat) (Z0 : n0 ≤ h0.size) (hfv : fv.isRef = true) (h1 : ¬ i < 0) (h2 : i < n) :
    MetFree l (⟨"jdk/internal/util/Preconditions", "checkIndex", "(IILjava/util/function/BiFunction;)I"⟩ : MethodName) (head1 (Jvm.Cond.code (⟨"jdk/internal/util/Preconditions", "checkIndex", "(IILjava/util/function/BiFunction;)I"⟩ : MethodName) jdk_41_method_11_code 3 (some .int) :: ws) RmPC) (fun as_ U => as_ = #[(.int i), (.int n), fv] ∧ Z.Warmed39 U.vm ∧ U.heap = h0) (fun _ _ _ _ _ => True) (fun _ U o U' => ∃ v L, o = .returned v ∧ QPC Z i n fv h0 n0 v U'.heap L ∧ FrameEnd U o U' L RmPC.cells RmPC.slots) := by
  refine MetFree.of_bodySF (plainFor_of_name pn_0) hisR ?_
  intro p e s m args below meth c s₁ Bd hml0 hP hK
  obtain ⟨rfl, hZ, hh⟩ := hP
  have hx := Bd.exec
  have hby := Bd.bytes
  have D : ∀ {pc : Nat} {r : Except DecodeError (Instr × Nat)}, decode jdk_41_method_11_code pc = r → decode c.code pc = r := fun q => hb hby q
  have hml : c.maxLocals = 3 := hml0
  have hown : s.vm.findClass "jdk/internal/util/Preconditions" = some m.cls := findClass_of_methodNamed Bd.named
  have hnm := (name_of_methodNamed Bd.named Bd.method).1
  have X0 : Stand p l e RmPC s m #[(.int i), (.int n), fv] below meth c s₁ [] 0 0 := Stand.of_body Bd
  have e0 : s₁.heap = h0 := by rw [← hh, Bd.state]; rfl
  have N0 := Fr.nil n0
  obtain ⟨E0, hE0⟩ : ∃ z, z = s₁.setTop (entryFrame m #[(.int i), (.int n), fv] 3) := ⟨_, rfl⟩
  rw [← hE0]
  have go0 : ∀ tgt, Steps p.tables e below (s₁.setTop (mkF m 0 #[(si i), (si n), .val fv] [])) tgt → Steps p.tables e below E0 tgt := fun tgt kont => by rw [hE0]; exact castTop (ef_PC m i n fv hfv) kont
  have go1 : Go p e below E0 s₁ m 17 #[(si i), (si n), .val fv] [(.int i)] := fun tgt kont => go0 tgt (by
    refine XS.iloadN X0.here hx rfl (D d0_0) rfl ?_; refine XS.ifNo X0.here hx rfl (D d0_1) rfl ((if0 _ _).trans (flt h1).1) ?_; refine XS.iloadN X0.here hx rfl (D d0_4) rfl ?_; refine XS.iloadN X0.here hx rfl (D d0_5) rfl ?_; refine XS.icmpYes X0.here hx rfl (pc0 := 6) (pc' := 16) rfl (D d0_6) rfl (tlt h2).1 (by decide) (by decide) ?_; refine XS.iloadN X0.here hx rfl (D d0_16) rfl ?_; exact kont)
  obtain ⟨fs, hr, hrun, hended, hW, hsame⟩ := X0.leave (v := some (.int i)) (fun h => by rw [Bd.returns] at h; cases h)
  refine ⟨_, _, go1 _ ?_, hrun, hended, _, _, rfl, ?_, ⟨_, rfl⟩, hW, hsame.mono (by decide) (by decide)⟩
  · show Steps p.tables e below (s₁.setTop (mkF m 17 #[(si i), (si n), .val fv] [(.int i)])) _
    exact retOut X0 hx Bd.returns rfl (Or.inl ⟨rfl, Or.inl rfl, _, rfl⟩) (D d0_17) hr
  · show QPC Z i n fv h0 n0 _ s₁.heap _
    rw [e0]
    exact ⟨rfl, rfl, rfl⟩
theorem pd_1 : parseMethodDescriptor "(IILjava/util/function/BiFunction;)I" = some ⟨[.int, .int, (.object "java/util/function/BiFunction")], some .int⟩ := by decide +kernel
theorem pn_2 : plainName "java/lang/String" = true := by first | (simp [plainName, overriddenIn]; done) | decide +kernel
theorem d1_0 : decode jdk_42_method_155_code 0 = .ok (.iload_n 0, 1) := by decide +kernel
theorem d1_1 : decode jdk_42_method_155_code 1 = .ok (.iload_n 1, 1) := by decide +kernel
theorem d1_2 : decode jdk_42_method_155_code 2 = .ok (.getstatic 1053, 3) := by decide +kernel
theorem d1_5 : decode jdk_42_method_155_code 5 = .ok (.invokestatic 1059, 3) := by decide +kernel
theorem d1_8 : decode jdk_42_method_155_code 8 = .ok (.pop, 1) := by decide +kernel
theorem d1_9 : decode jdk_42_method_155_code 9 = .ok (.return_, 1) := by decide +kernel
theorem ef_CI (m : MethodId) (x0 : Int32) (x1 : Int32) : entryFrame m #[(.int x0), (.int x1)] 2 = mkF m 0 #[.val (.int x0), .val (.int x1)] [] := by first | (simp [entryFrame, mkF, argsToLocals, Value.category, maxLocals]; done) | rfl
def QCI (Z : State) (i : Int32) (n : Int32) (G : Int32) (fv : Value) (h0 : Heap) (n0 : Nat) (v : Option Value) (h : Heap) (L : List Loc) : Prop := v = none ∧ L = [] ∧ h = h0
abbrev RmCI : Room := ({ frames := 1, cells := 0, slots := 0, locals := 14 } : Room)
set_option maxRecDepth 65536 in
set_option maxHeartbeats 40000000 in
theorem rmCI (l : Launch) (Z : State) (a0 : Array Value) (hw : ∀ d ∈ tables_1, d.before a0 Z = true) (ws : List Jvm.Cond) (i : Int32) (n : Int32) (G : Int32) (fv : Value) (h0 : Heap) (n0 : Nat) (Z0 : n0 ≤ h0.size) (h1 : ¬ i < 0) (h2 : i < n) (W0 : own_W Z G fv) (O0 : Old Z n0 h0) :
    MetFree l (⟨"java/lang/String", "checkIndex", "(II)V"⟩ : MethodName) (head1 (Jvm.Cond.code (⟨"java/lang/String", "checkIndex", "(II)V"⟩ : MethodName) jdk_42_method_155_code 2 none :: ws) RmCI) (fun as_ U => as_ = #[(.int i), (.int n)] ∧ Z.Warmed39 U.vm ∧ U.heap = h0) (fun _ _ _ _ _ => True) (fun _ U o U' => ∃ v L, o = .returned v ∧ QCI Z i n G fv h0 n0 v U'.heap L ∧ FrameEnd U o U' L RmCI.cells RmCI.slots) := by
  refine MetFree.of_bodySF (plainFor_of_name pn_2) hisR ?_
  intro p e s m args below meth c s₁ Bd hml0 hP hK
  obtain ⟨rfl, hZ, hh⟩ := hP
  have hx := Bd.exec
  have hby := Bd.bytes
  have D : ∀ {pc : Nat} {r : Except DecodeError (Instr × Nat)}, decode jdk_42_method_155_code pc = r → decode c.code pc = r := fun q => hb hby q
  have hml : c.maxLocals = 2 := hml0
  have hown : s.vm.findClass "java/lang/String" = some m.cls := findClass_of_methodNamed Bd.named
  have hnm := (name_of_methodNamed Bd.named Bd.method).1
  have X0 : Stand p l e RmCI s m #[(.int i), (.int n)] below meth c s₁ [] 0 0 := Stand.of_body Bd
  have e0 : s₁.heap = h0 := by rw [← hh, Bd.state]; rfl
  have N0 := Fr.nil n0
  obtain ⟨E0, hE0⟩ : ∃ z, z = s₁.setTop (entryFrame m #[(.int i), (.int n)] 2) := ⟨_, rfl⟩
  rw [← hE0]
  have go0 : ∀ tgt, Steps p.tables e below (s₁.setTop (mkF m 0 #[(si i), (si n)] [])) tgt → Steps p.tables e below E0 tgt := fun tgt kont => by rw [hE0]; exact castTop (ef_CI m i n) kont
  have hfv := W0.2.2.2.1
  have go1 : Go p e below E0 s₁ m 2 #[(si i), (si n)] [(.int n), (.int i)] := fun tgt kont => go0 tgt (by
    refine XS.iloadN X0.here hx rfl (D d1_0) rfl ?_; refine XS.iloadN X0.here hx rfl (D d1_1) rfl ?_; exact kont)
  obtain ⟨T2, X2, e2, st2⟩ := getS2 X0 hx hZ hown (host := "") (Or.inl (wd hw 74 rfl)) Via.refl e0 (W0.2.2.1.ext O0.2) (g := (mkF m 2 #[(si i), (si n)] [(.int n), (.int i)])) rfl (D d1_2)
  have go2 : Go p e below E0 T2 m 5 #[(si i), (si n)] [fv, (.int n), (.int i)] := fun tgt kont => go1 tgt (st2 tgt kont)
  obtain ⟨_, _, ⟨T3, L3, k3, n3⟩, -, X3, ⟨Lc3, hQ3, l3, y3, z3⟩, st3⟩ := Jvm.LawKit.callS X2 hx (y := (⟨"jdk/internal/util/Preconditions", "checkIndex", "(IILjava/util/function/BiFunction;)I"⟩ : MethodName)) hown (mvT hZ (wd hw 76 rfl)) (mvT hZ (wd hw 77 rfl)) (mvT hZ (wd hw 75 rfl)) (mvT hZ (wd hw 78 rfl)) (by decide) (backOf (W := 0) (rmPC l Z a0 hw [] i n fv h0 n0 Z0 hfv h1 h2) hZ (wd hw 78 rfl) (wd hw 75 rfl) (by decide) (by decide)) (g := (mkF m 5 #[(si i), (si n)] [fv, (.int n), (.int i)])) rfl (by rw [hml]; rfl) (argsL := [(.int i), (.int n), fv]) (rest := []) (lenOf pd_1 rfl) rfl (by show 2 * 0 + _ ≤ _; exact Nat.le_of_eq rfl) (D d1_5) (fun _ _ => ⟨rfl, e2, (by decide : 0 + 0 ≤ _), (by decide : 0 + 0 ≤ _)⟩)
  dsimp only [Pt.U, Pt.locs, Pt.cells, Pt.slots] at X3 l3 y3 z3 st3 hQ3
  subst l3 y3 z3
  obtain ⟨rfl, rfl, e3⟩ := hQ3
  have N3 := Fr.app N0 (Fr.nil n0)
  have go3 : Go p e below E0 T3 m 8 #[(si i), (si n)] [(.int i)] := fun tgt kont => go2 tgt (st3 tgt kont)
  have go4 : Go p e below E0 T3 m 9 #[(si i), (si n)] [] := fun tgt kont => go3 tgt (by
    refine XS.pop X3.here hx rfl (D d1_8) rfl rfl ?_; exact kont)
  obtain ⟨fs, hr, hrun, hended, hW, hsame⟩ := X3.leave (v := none) (fun _ => rfl)
  refine ⟨_, _, go4 _ ?_, hrun, hended, _, _, rfl, ?_, ⟨_, rfl⟩, hW, hsame.mono (by decide) (by decide)⟩
  · show Steps p.tables e below (T3.setTop (mkF m 9 #[(si i), (si n)] [])) _
    exact X3.returnOut hx Bd.returns (D d1_9) hr
  · show QCI Z i n G fv h0 n0 _ T3.heap _
    rw [e3]
    exact ⟨rfl, rfl, rfl⟩
theorem pd_3 : parseMethodDescriptor "(II)V" = some ⟨[.int, .int], none⟩ := by decide +kernel
theorem pn_4 : plainName "java/lang/StringLatin1" = true := by first | (simp [plainName, overriddenIn]; done) | decide +kernel
theorem d2_0 : decode jdk_43_method_2_code 0 = .ok (.iload_n 1, 1) := by decide +kernel
theorem d2_1 : decode jdk_43_method_2_code 1 = .ok (.aload_n 0, 1) := by decide +kernel
theorem d2_2 : decode jdk_43_method_2_code 2 = .ok (.arraylength, 1) := by decide +kernel
theorem d2_3 : decode jdk_43_method_2_code 3 = .ok (.invokestatic 9, 3) := by decide +kernel
theorem d2_6 : decode jdk_43_method_2_code 6 = .ok (.aload_n 0, 1) := by decide +kernel
theorem d2_7 : decode jdk_43_method_2_code 7 = .ok (.iload_n 1, 1) := by decide +kernel
theorem d2_8 : decode jdk_43_method_2_code 8 = .ok (.baload, 1) := by decide +kernel
theorem d2_9 : decode jdk_43_method_2_code 9 = .ok (.sipush 255, 3) := by decide +kernel
theorem d2_12 : decode jdk_43_method_2_code 12 = .ok (.iand, 1) := by decide +kernel
theorem d2_13 : decode jdk_43_method_2_code 13 = .ok (.i2c, 1) := by decide +kernel
theorem d2_14 : decode jdk_43_method_2_code 14 = .ok (.ireturn, 1) := by decide +kernel
theorem ef_LC (m : MethodId) (x0 : Addr) (x1 : Int32) : entryFrame m #[(.ref x0), (.int x1)] 2 = mkF m 0 #[.val (.ref x0), .val (.int x1)] [] := by first | (simp [entryFrame, mkF, argsToLocals, Value.category, maxLocals]; done) | rfl
def QLC (Z : State) (t : Addr) (kb : ClassId) (zl : Int32) (bs : List Value) (i : Int32) (b : Int32) (ch : Int32) (G : Int32) (fv : Value) (h0 : Heap) (n0 : Nat) (v : Option Value) (h : Heap) (L : List Loc) : Prop := v = some (.int ch) ∧ L = [] ∧ h = h0
abbrev RmLC : Room := ({ frames := 2, cells := 0, slots := 0, locals := 27 } : Room)
set_option maxRecDepth 65536 in
set_option maxHeartbeats 40000000 in
theorem rmLC (l : Launch) (Z : State) (a0 : Array Value) (hw : ∀ d ∈ tables_1, d.before a0 Z = true) (ws : List Jvm.Cond) (t : Addr) (kb : ClassId) (zl : Int32) (bs : List Value) (i : Int32) (b : Int32) (ch : Int32) (G : Int32) (fv : Value) (h0 : Heap) (n0 : Nat) (Z0 : n0 ≤ h0.size) (A0 : Arv Z h0 t kb .byte zl bs (.int (0 : Int32))) (h1 : ¬ i < 0) (h2 : i < zl) (hb_ : bs.getD i.toNatClampNeg (.int (0 : Int32)) = .int b) (hc : nar .char ((b &&& (255 : Int32)).toUInt32.toUInt16.toUInt32.toInt32) = ch) (W0 : own_W Z G fv) (O0 : Old Z n0 h0) :
    MetFree l (⟨"java/lang/StringLatin1", "charAt", "([BI)C"⟩ : MethodName) (head1 (Jvm.Cond.code (⟨"java/lang/StringLatin1", "charAt", "([BI)C"⟩ : MethodName) jdk_43_method_2_code 2 (some .char) :: ws) RmLC) (fun as_ U => as_ = #[(.ref t), (.int i)] ∧ Z.Warmed39 U.vm ∧ U.heap = h0) (fun _ _ _ _ _ => True) (fun _ U o U' => ∃ v L, o = .returned v ∧ QLC Z t kb zl bs i b ch G fv h0 n0 v U'.heap L ∧ FrameEnd U o U' L RmLC.cells RmLC.slots) := by
  refine MetFree.of_bodySF (plainFor_of_name pn_4) hisR ?_
  intro p e s m args below meth c s₁ Bd hml0 hP hK
  obtain ⟨rfl, hZ, hh⟩ := hP
  have hx := Bd.exec
  have hby := Bd.bytes
  have D : ∀ {pc : Nat} {r : Except DecodeError (Instr × Nat)}, decode jdk_43_method_2_code pc = r → decode c.code pc = r := fun q => hb hby q
  have hml : c.maxLocals = 2 := hml0
  have hown : s.vm.findClass "java/lang/StringLatin1" = some m.cls := findClass_of_methodNamed Bd.named
  have hnm := (name_of_methodNamed Bd.named Bd.method).1
  have X0 : Stand p l e RmLC s m #[(.ref t), (.int i)] below meth c s₁ [] 0 0 := Stand.of_body Bd
  have e0 : s₁.heap = h0 := by rw [← hh, Bd.state]; rfl
  have N0 := Fr.nil n0
  obtain ⟨E0, hE0⟩ : ∃ z, z = s₁.setTop (entryFrame m #[(.ref t), (.int i)] 2) := ⟨_, rfl⟩
  rw [← hE0]
  have go0 : ∀ tgt, Steps p.tables e below (s₁.setTop (mkF m 0 #[(sr t), (si i)] [])) tgt → Steps p.tables e below E0 tgt := fun tgt kont => by rw [hE0]; exact castTop (ef_LC m t i) kont
  have go1 : Go p e below E0 s₁ m 2 #[(sr t), (si i)] [(.ref t), (.int i)] := fun tgt kont => go0 tgt (by
    refine XS.iloadN X0.here hx rfl (D d2_0) rfl ?_; refine XS.aloadN X0.here hx rfl (D d2_1) rfl rfl ?_; exact kont)
  obtain ⟨c2, Ar2, q2, S2, M2, -, -⟩ := id A0
  have go3 : Go p e below E0 s₁ m 3 #[(sr t), (si i)] [(.int zl), (.int i)] := fun tgt kont => go1 tgt (by
    refine X0.arraylength hx (by rw [e0]; exact Ar2.1) (State.isArrayOf_alike hZ.alike Ar2.2.1) (g := (mkF m 2 #[(sr t), (si i)] [(.ref t), (.int i)])) rfl rfl (D d2_2) _ ?_; rw [len_of S2 M2]; exact kont)
  obtain ⟨_, _, ⟨T4, L4, k4, n4⟩, -, X4, ⟨Lc4, hQ4, l4, y4, z4⟩, st4⟩ := Jvm.LawKit.callS X0 hx (y := (⟨"java/lang/String", "checkIndex", "(II)V"⟩ : MethodName)) hown (mvT hZ (wd hw 71 rfl)) (mvT hZ (wd hw 72 rfl)) (mvT hZ (wd hw 4 rfl)) (mvT hZ (wd hw 73 rfl)) (by decide) (backOf (W := 0) (rmCI l Z a0 hw [] i zl G fv h0 n0 Z0 h1 h2 W0 O0) hZ (wd hw 73 rfl) (wd hw 4 rfl) (by decide) (by decide)) (g := (mkF m 3 #[(sr t), (si i)] [(.int zl), (.int i)])) rfl (by rw [hml]; rfl) (argsL := [(.int i), (.int zl)]) (rest := []) (lenOf pd_3 rfl) rfl (by show 2 * 0 + _ ≤ _; exact Nat.le_of_eq rfl) (D d2_3) (fun _ _ => ⟨rfl, e0, (by decide : 0 + 0 ≤ _), (by decide : 0 + 0 ≤ _)⟩)
  dsimp only [Pt.U, Pt.locs, Pt.cells, Pt.slots] at X4 l4 y4 z4 st4 hQ4
  subst l4 y4 z4
  obtain ⟨rfl, rfl, e4⟩ := hQ4
  have N4 := Fr.app N0 (Fr.nil n0)
  have go4 : Go p e below E0 T4 m 6 #[(sr t), (si i)] [] := fun tgt kont => go3 tgt (st4 tgt kont)
  have go5 : Go p e below E0 T4 m 8 #[(sr t), (si i)] [(.int i), (.ref t)] := fun tgt kont => go4 tgt (by
    refine XS.aloadN X4.here hx rfl (D d2_6) rfl rfl ?_; refine XS.iloadN X4.here hx rfl (D d2_7) rfl ?_; exact kont)
  obtain ⟨c6, Ar6, q6, S6, M6, Hh6, G6⟩ := id A0
  have hin6 : ¬ (i < 0 ∨ c6.slots.size ≤ (i).toNatClampNeg) := inb_of S6 ⟨h1, h2⟩
  have hat6 : c6.slots[(i).toNatClampNeg]? = some (.int b) := Hh6.at hin6 hb_
  have go7 : Go p e below E0 T4 m 14 #[(sr t), (si i)] [(.int ((b &&& (255 : Int32)).toUInt32.toUInt16.toUInt32.toInt32))] := fun tgt kont => go5 tgt (by
    refine X4.baloadBytes hx (j := i) (v := (.int b)) (by rw [e4]; exact Ar6.1) (State.isArrayOf_alike hZ.alike Ar6.2.1) Ar6.2.2 hin6 hat6 (g := (mkF m 8 #[(sr t), (si i)] [(.int i), (.ref t)])) rfl rfl (D d2_8) _ ?_; refine XS.sipush X4.here hx rfl (D d2_9) ?_; refine XS.iand X4.here hx rfl (D d2_12) rfl ?_; refine XS.i2c X4.here hx rfl (D d2_13) rfl ?_; exact kont)
  obtain ⟨fs, hr, hrun, hended, hW, hsame⟩ := X4.leave (v := some (.int (nar .char ((b &&& (255 : Int32)).toUInt32.toUInt16.toUInt32.toInt32)))) (fun h => by rw [Bd.returns] at h; cases h)
  refine ⟨_, _, go7 _ ?_, hrun, hended, _, _, rfl, ?_, ⟨_, rfl⟩, hW, hsame.mono (by decide) (by decide)⟩
  · show Steps p.tables e below (T4.setTop (mkF m 14 #[(sr t), (si i)] [(.int ((b &&& (255 : Int32)).toUInt32.toUInt16.toUInt32.toInt32))])) _
    exact retN X4 hx (t := .char) Bd.returns (by simp) (D d2_14) hr
  · show QLC Z t kb zl bs i b ch G fv h0 n0 _ T4.heap _
    rw [e4]
    exact ⟨by rw [← hc], rfl, rfl⟩
theorem pn_5 : plainName "java/lang/StringUTF16" = true := by first | (simp [plainName, overriddenIn]; done) | decide +kernel
theorem d3_0 : decode jdk_52_method_5_code 0 = .ok (.getstatic 44, 3) := by decide +kernel
theorem d3_3 : decode jdk_52_method_5_code 3 = .ok (.ifCond .ne 25, 3) := by decide +kernel
theorem d3_28 : decode jdk_52_method_5_code 28 = .ok (.iload_n 1, 1) := by decide +kernel
theorem d3_29 : decode jdk_52_method_5_code 29 = .ok (.iconst 1, 1) := by decide +kernel
theorem d3_30 : decode jdk_52_method_5_code 30 = .ok (.ishl, 1) := by decide +kernel
theorem d3_31 : decode jdk_52_method_5_code 31 = .ok (.istore_n 1, 1) := by decide +kernel
theorem d3_32 : decode jdk_52_method_5_code 32 = .ok (.aload_n 0, 1) := by decide +kernel
theorem d3_33 : decode jdk_52_method_5_code 33 = .ok (.iload_n 1, 1) := by decide +kernel
theorem d3_34 : decode jdk_52_method_5_code 34 = .ok (.iinc 1 1, 3) := by decide +kernel
theorem d3_37 : decode jdk_52_method_5_code 37 = .ok (.baload, 1) := by decide +kernel
theorem d3_38 : decode jdk_52_method_5_code 38 = .ok (.sipush 255, 3) := by decide +kernel
theorem d3_41 : decode jdk_52_method_5_code 41 = .ok (.iand, 1) := by decide +kernel
theorem d3_42 : decode jdk_52_method_5_code 42 = .ok (.getstatic 59, 3) := by decide +kernel
theorem d3_45 : decode jdk_52_method_5_code 45 = .ok (.ishl, 1) := by decide +kernel
theorem d3_46 : decode jdk_52_method_5_code 46 = .ok (.aload_n 0, 1) := by decide +kernel
theorem d3_47 : decode jdk_52_method_5_code 47 = .ok (.iload_n 1, 1) := by decide +kernel
theorem d3_48 : decode jdk_52_method_5_code 48 = .ok (.baload, 1) := by decide +kernel
theorem d3_49 : decode jdk_52_method_5_code 49 = .ok (.sipush 255, 3) := by decide +kernel
theorem d3_52 : decode jdk_52_method_5_code 52 = .ok (.iand, 1) := by decide +kernel
theorem d3_53 : decode jdk_52_method_5_code 53 = .ok (.getstatic 63, 3) := by decide +kernel
theorem d3_56 : decode jdk_52_method_5_code 56 = .ok (.ishl, 1) := by decide +kernel
theorem d3_57 : decode jdk_52_method_5_code 57 = .ok (.ior, 1) := by decide +kernel
theorem d3_58 : decode jdk_52_method_5_code 58 = .ok (.i2c, 1) := by decide +kernel
theorem d3_59 : decode jdk_52_method_5_code 59 = .ok (.ireturn, 1) := by decide +kernel
theorem ef_GC (m : MethodId) (x0 : Addr) (x1 : Int32) : entryFrame m #[(.ref x0), (.int x1)] 2 = mkF m 0 #[.val (.ref x0), .val (.int x1)] [] := by first | (simp [entryFrame, mkF, argsToLocals, Value.category, maxLocals]; done) | rfl
def QGC (Z : State) (t : Addr) (kb : ClassId) (zl : Int32) (bs : List Value) (i : Int32) (q0 : Int32) (q1 : Int32) (ch : Int32) (G : Int32) (fv : Value) (h0 : Heap) (n0 : Nat) (v : Option Value) (h : Heap) (L : List Loc) : Prop := v = some (.int ch) ∧ L = [] ∧ h = h0
abbrev RmGC : Room := ({ frames := 0, cells := 0, slots := 0, locals := 0 } : Room)
set_option maxRecDepth 65536 in
set_option maxHeartbeats 40000000 in
theorem rmGC (l : Launch) (Z : State) (a0 : Array Value) (hw : ∀ d ∈ tables_1, d.before a0 Z = true) (ws : List Jvm.Cond) (t : Addr) (kb : ClassId) (zl : Int32) (bs : List Value) (i : Int32) (q0 : Int32) (q1 : Int32) (ch : Int32) (G : Int32) (fv : Value) (h0 : Heap) (n0 : Nat) (Z0 : n0 ≤ h0.size) (A0 : Arv Z h0 t kb .byte zl bs (.int (0 : Int32))) (j0 : ¬ (i <<< ((1 : Int32) &&& 31)) < 0 ∧ (i <<< ((1 : Int32) &&& 31)) < zl) (t0 : bs.getD (i <<< ((1 : Int32) &&& 31)).toNatClampNeg (.int (0 : Int32)) = .int q0) (j1 : ¬ ((i <<< ((1 : Int32) &&& 31)) + (1 : Int32)) < 0 ∧ ((i <<< ((1 : Int32) &&& 31)) + (1 : Int32)) < zl) (t1 : bs.getD ((i <<< ((1 : Int32) &&& 31)) + (1 : Int32)).toNatClampNeg (.int (0 : Int32)) = .int q1) (hc : nar .char ((((q0 &&& (255 : Int32)) <<< ((0 : Int32) &&& 31)) ||| ((q1 &&& (255 : Int32)) <<< ((8 : Int32) &&& 31))).toUInt32.toUInt16.toUInt32.toInt32) = ch) (W0 : own_W Z G fv) (O0 : Old Z n0 h0) :
    MetFree l (⟨"java/lang/StringUTF16", "getChar", "([BI)C"⟩ : MethodName) (head1 (Jvm.Cond.code (⟨"java/lang/StringUTF16", "getChar", "([BI)C"⟩ : MethodName) jdk_52_method_5_code 2 (some .char) :: ws) RmGC) (fun as_ U => as_ = #[(.ref t), (.int i)] ∧ Z.Warmed39 U.vm ∧ U.heap = h0) (fun _ _ _ _ _ => True) (fun _ U o U' => ∃ v L, o = .returned v ∧ QGC Z t kb zl bs i q0 q1 ch G fv h0 n0 v U'.heap L ∧ FrameEnd U o U' L RmGC.cells RmGC.slots) := by
  refine MetFree.of_bodySF (plainFor_of_name pn_5) hisR ?_
  intro p e s m args below meth c s₁ Bd hml0 hP hK
  obtain ⟨rfl, hZ, hh⟩ := hP
  have hx := Bd.exec
  have hby := Bd.bytes
  have D : ∀ {pc : Nat} {r : Except DecodeError (Instr × Nat)}, decode jdk_52_method_5_code pc = r → decode c.code pc = r := fun q => hb hby q
  have hml : c.maxLocals = 2 := hml0
  have hown : s.vm.findClass "java/lang/StringUTF16" = some m.cls := findClass_of_methodNamed Bd.named
  have hnm := (name_of_methodNamed Bd.named Bd.method).1
  have X0 : Stand p l e RmGC s m #[(.ref t), (.int i)] below meth c s₁ [] 0 0 := Stand.of_body Bd
  have e0 : s₁.heap = h0 := by rw [← hh, Bd.state]; rfl
  have N0 := Fr.nil n0
  obtain ⟨E0, hE0⟩ : ∃ z, z = s₁.setTop (entryFrame m #[(.ref t), (.int i)] 2) := ⟨_, rfl⟩
  rw [← hE0]
  have go0 : ∀ tgt, Steps p.tables e below (s₁.setTop (mkF m 0 #[(sr t), (si i)] [])) tgt → Steps p.tables e below E0 tgt := fun tgt kont => by rw [hE0]; exact castTop (ef_GC m t i) kont
  obtain ⟨T1, X1, e1, st1⟩ := getS2 X0 hx hZ hown (host := "") (Or.inl (wd hw 120 rfl)) Via.refl e0 (W0.2.2.2.2.1.ext O0.2) (g := (mkF m 0 #[(sr t), (si i)] [])) rfl (D d3_0)
  have go1 : Go p e below E0 T1 m 3 #[(sr t), (si i)] [(.int 1)] := fun tgt kont => go0 tgt (st1 tgt kont)
  have go2 : Go p e below E0 T1 m 37 #[(sr t), (si ((i <<< ((1 : Int32) &&& 31)) + (1 : Int32)))] [(.int (i <<< ((1 : Int32) &&& 31))), (.ref t)] := fun tgt kont => go1 tgt (by
    refine XS.ifYes X1.here hx rfl (pc0 := 3) (pc' := 28) rfl (D d3_3) rfl ((if0 _ _).trans (feq (by decide)).2) (by decide) (by decide) ?_; refine XS.iloadN X1.here hx rfl (D d3_28) rfl ?_; refine XS.iconst X1.here hx rfl (D d3_29) ?_; refine XS.ishl X1.here hx rfl (D d3_30) rfl ?_; refine XS.istoreN X1.here hx rfl (D d3_31) rfl (l' := #[(sr t), (si (i <<< ((1 : Int32) &&& 31)))]) rfl ?_; refine XS.aloadN X1.here hx rfl (D d3_32) rfl rfl ?_; refine XS.iloadN X1.here hx rfl (D d3_33) rfl ?_; refine XS.iinc X1.here hx rfl (D d3_34) rfl (l' := #[(sr t), (si ((i <<< ((1 : Int32) &&& 31)) + (1 : Int32)))]) rfl ?_; exact kont)
  obtain ⟨c3, Ar3, q3, S3, M3, Hh3, G3⟩ := id A0
  have hin3 : ¬ ((i <<< ((1 : Int32) &&& 31)) < 0 ∨ c3.slots.size ≤ ((i <<< ((1 : Int32) &&& 31))).toNatClampNeg) := inb_of S3 j0
  have hat3 : c3.slots[((i <<< ((1 : Int32) &&& 31))).toNatClampNeg]? = some (.int q0) := Hh3.at hin3 t0
  have go4 : Go p e below E0 T1 m 42 #[(sr t), (si ((i <<< ((1 : Int32) &&& 31)) + (1 : Int32)))] [(.int (q0 &&& (255 : Int32)))] := fun tgt kont => go2 tgt (by
    refine X1.baloadBytes hx (j := (i <<< ((1 : Int32) &&& 31))) (v := (.int q0)) (by rw [e1]; exact Ar3.1) (State.isArrayOf_alike hZ.alike Ar3.2.1) Ar3.2.2 hin3 hat3 (g := (mkF m 37 #[(sr t), (si ((i <<< ((1 : Int32) &&& 31)) + (1 : Int32)))] [(.int (i <<< ((1 : Int32) &&& 31))), (.ref t)])) rfl rfl (D d3_37) _ ?_; refine XS.sipush X1.here hx rfl (D d3_38) ?_; refine XS.iand X1.here hx rfl (D d3_41) rfl ?_; exact kont)
  obtain ⟨T5, X5, e5, st5⟩ := getS2 X1 hx hZ hown (host := "") (Or.inl (wd hw 121 rfl)) Via.refl e1 (W0.2.2.2.2.2.1.ext O0.2) (g := (mkF m 42 #[(sr t), (si ((i <<< ((1 : Int32) &&& 31)) + (1 : Int32)))] [(.int (q0 &&& (255 : Int32)))])) rfl (D d3_42)
  have go5 : Go p e below E0 T5 m 45 #[(sr t), (si ((i <<< ((1 : Int32) &&& 31)) + (1 : Int32)))] [(.int 0), (.int (q0 &&& (255 : Int32)))] := fun tgt kont => go4 tgt (st5 tgt kont)
  have go6 : Go p e below E0 T5 m 48 #[(sr t), (si ((i <<< ((1 : Int32) &&& 31)) + (1 : Int32)))] [(.int ((i <<< ((1 : Int32) &&& 31)) + (1 : Int32))), (.ref t), (.int ((q0 &&& (255 : Int32)) <<< ((0 : Int32) &&& 31)))] := fun tgt kont => go5 tgt (by
    refine XS.ishl X5.here hx rfl (D d3_45) rfl ?_; refine XS.aloadN X5.here hx rfl (D d3_46) rfl rfl ?_; refine XS.iloadN X5.here hx rfl (D d3_47) rfl ?_; exact kont)
  obtain ⟨c7, Ar7, q7, S7, M7, Hh7, G7⟩ := id A0
  have hin7 : ¬ (((i <<< ((1 : Int32) &&& 31)) + (1 : Int32)) < 0 ∨ c7.slots.size ≤ (((i <<< ((1 : Int32) &&& 31)) + (1 : Int32))).toNatClampNeg) := inb_of S7 j1
  have hat7 : c7.slots[(((i <<< ((1 : Int32) &&& 31)) + (1 : Int32))).toNatClampNeg]? = some (.int q1) := Hh7.at hin7 t1
  have go8 : Go p e below E0 T5 m 53 #[(sr t), (si ((i <<< ((1 : Int32) &&& 31)) + (1 : Int32)))] [(.int (q1 &&& (255 : Int32))), (.int ((q0 &&& (255 : Int32)) <<< ((0 : Int32) &&& 31)))] := fun tgt kont => go6 tgt (by
    refine X5.baloadBytes hx (j := ((i <<< ((1 : Int32) &&& 31)) + (1 : Int32))) (v := (.int q1)) (by rw [e5]; exact Ar7.1) (State.isArrayOf_alike hZ.alike Ar7.2.1) Ar7.2.2 hin7 hat7 (g := (mkF m 48 #[(sr t), (si ((i <<< ((1 : Int32) &&& 31)) + (1 : Int32)))] [(.int ((i <<< ((1 : Int32) &&& 31)) + (1 : Int32))), (.ref t), (.int ((q0 &&& (255 : Int32)) <<< ((0 : Int32) &&& 31)))])) rfl rfl (D d3_48) _ ?_; refine XS.sipush X5.here hx rfl (D d3_49) ?_; refine XS.iand X5.here hx rfl (D d3_52) rfl ?_; exact kont)
  obtain ⟨T9, X9, e9, st9⟩ := getS2 X5 hx hZ hown (host := "") (Or.inl (wd hw 122 rfl)) Via.refl e5 (W0.2.2.2.2.2.2.ext O0.2) (g := (mkF m 53 #[(sr t), (si ((i <<< ((1 : Int32) &&& 31)) + (1 : Int32)))] [(.int (q1 &&& (255 : Int32))), (.int ((q0 &&& (255 : Int32)) <<< ((0 : Int32) &&& 31)))])) rfl (D d3_53)
  have go9 : Go p e below E0 T9 m 56 #[(sr t), (si ((i <<< ((1 : Int32) &&& 31)) + (1 : Int32)))] [(.int 8), (.int (q1 &&& (255 : Int32))), (.int ((q0 &&& (255 : Int32)) <<< ((0 : Int32) &&& 31)))] := fun tgt kont => go8 tgt (st9 tgt kont)
  have go10 : Go p e below E0 T9 m 59 #[(sr t), (si ((i <<< ((1 : Int32) &&& 31)) + (1 : Int32)))] [(.int ((((q0 &&& (255 : Int32)) <<< ((0 : Int32) &&& 31)) ||| ((q1 &&& (255 : Int32)) <<< ((8 : Int32) &&& 31))).toUInt32.toUInt16.toUInt32.toInt32))] := fun tgt kont => go9 tgt (by
    refine XS.ishl X9.here hx rfl (D d3_56) rfl ?_; refine XS.ior X9.here hx rfl (D d3_57) rfl ?_; refine XS.i2c X9.here hx rfl (D d3_58) rfl ?_; exact kont)
  obtain ⟨fs, hr, hrun, hended, hW, hsame⟩ := X9.leave (v := some (.int (nar .char ((((q0 &&& (255 : Int32)) <<< ((0 : Int32) &&& 31)) ||| ((q1 &&& (255 : Int32)) <<< ((8 : Int32) &&& 31))).toUInt32.toUInt16.toUInt32.toInt32)))) (fun h => by rw [Bd.returns] at h; cases h)
  refine ⟨_, _, go10 _ ?_, hrun, hended, _, _, rfl, ?_, ⟨_, rfl⟩, hW, hsame.mono (by decide) (by decide)⟩
  · show Steps p.tables e below (T9.setTop (mkF m 59 #[(sr t), (si ((i <<< ((1 : Int32) &&& 31)) + (1 : Int32)))] [(.int ((((q0 &&& (255 : Int32)) <<< ((0 : Int32) &&& 31)) ||| ((q1 &&& (255 : Int32)) <<< ((8 : Int32) &&& 31))).toUInt32.toUInt16.toUInt32.toInt32))])) _
    exact retN X9 hx (t := .char) Bd.returns (by simp) (D d3_59) hr
  · show QGC Z t kb zl bs i q0 q1 ch G fv h0 n0 _ T9.heap _
    rw [e9]
    exact ⟨by rw [← hc], rfl, rfl⟩
theorem d4_0 : decode jdk_52_method_6_code 0 = .ok (.aload_n 0, 1) := by decide +kernel
theorem d4_1 : decode jdk_52_method_6_code 1 = .ok (.arraylength, 1) := by decide +kernel
theorem d4_2 : decode jdk_52_method_6_code 2 = .ok (.iconst 1, 1) := by decide +kernel
theorem d4_3 : decode jdk_52_method_6_code 3 = .ok (.ishr, 1) := by decide +kernel
theorem d4_4 : decode jdk_52_method_6_code 4 = .ok (.ireturn, 1) := by decide +kernel
theorem ef_UL (m : MethodId) (x0 : Addr) : entryFrame m #[(.ref x0)] 1 = mkF m 0 #[.val (.ref x0)] [] := by first | (simp [entryFrame, mkF, argsToLocals, Value.category, maxLocals]; done) | rfl
def QUL (Z : State) (t : Addr) (kb : ClassId) (zl : Int32) (bs : List Value) (zn : Int32) (h0 : Heap) (n0 : Nat) (v : Option Value) (h : Heap) (L : List Loc) : Prop := v = some (.int zn) ∧ L = [] ∧ h = h0
abbrev RmUL : Room := ({ frames := 0, cells := 0, slots := 0, locals := 0 } : Room)
set_option maxRecDepth 65536 in
set_option maxHeartbeats 40000000 in
theorem rmUL (l : Launch) (Z : State) (a0 : Array Value) (hw : ∀ d ∈ tables_1, d.before a0 Z = true) (ws : List Jvm.Cond) (t : Addr) (kb : ClassId) (zl : Int32) (bs : List Value) (zn : Int32) (h0 : Heap) (n0 : Nat) (Z0 : n0 ≤ h0.size) (A0 : Arv Z h0 t kb .byte zl bs (.int (0 : Int32))) (hz : (zl >>> ((1 : Int32) &&& 31)) = zn) :
    MetFree l (⟨"java/lang/StringUTF16", "length", "([B)I"⟩ : MethodName) (head1 (Jvm.Cond.code (⟨"java/lang/StringUTF16", "length", "([B)I"⟩ : MethodName) jdk_52_method_6_code 1 (some .int) :: ws) RmUL) (fun as_ U => as_ = #[(.ref t)] ∧ Z.Warmed39 U.vm ∧ U.heap = h0) (fun _ _ _ _ _ => True) (fun _ U o U' => ∃ v L, o = .returned v ∧ QUL Z t kb zl bs zn h0 n0 v U'.heap L ∧ FrameEnd U o U' L RmUL.cells RmUL.slots) := by
  refine MetFree.of_bodySF (plainFor_of_name pn_5) hisR ?_
  intro p e s m args below meth c s₁ Bd hml0 hP hK
  obtain ⟨rfl, hZ, hh⟩ := hP
  have hx := Bd.exec
  have hby := Bd.bytes
  have D : ∀ {pc : Nat} {r : Except DecodeError (Instr × Nat)}, decode jdk_52_method_6_code pc = r → decode c.code pc = r := fun q => hb hby q
  have hml : c.maxLocals = 1 := hml0
  have hown : s.vm.findClass "java/lang/StringUTF16" = some m.cls := findClass_of_methodNamed Bd.named
  have hnm := (name_of_methodNamed Bd.named Bd.method).1
  have X0 : Stand p l e RmUL s m #[(.ref t)] below meth c s₁ [] 0 0 := Stand.of_body Bd
  have e0 : s₁.heap = h0 := by rw [← hh, Bd.state]; rfl
  have N0 := Fr.nil n0
  obtain ⟨E0, hE0⟩ : ∃ z, z = s₁.setTop (entryFrame m #[(.ref t)] 1) := ⟨_, rfl⟩
  rw [← hE0]
  have go0 : ∀ tgt, Steps p.tables e below (s₁.setTop (mkF m 0 #[(sr t)] [])) tgt → Steps p.tables e below E0 tgt := fun tgt kont => by rw [hE0]; exact castTop (ef_UL m t) kont
  have go1 : Go p e below E0 s₁ m 1 #[(sr t)] [(.ref t)] := fun tgt kont => go0 tgt (by
    refine XS.aloadN X0.here hx rfl (D d4_0) rfl rfl ?_; exact kont)
  obtain ⟨c2, Ar2, q2, S2, M2, -, -⟩ := id A0
  have go3 : Go p e below E0 s₁ m 4 #[(sr t)] [(.int (zl >>> ((1 : Int32) &&& 31)))] := fun tgt kont => go1 tgt (by
    refine X0.arraylength hx (by rw [e0]; exact Ar2.1) (State.isArrayOf_alike hZ.alike Ar2.2.1) (g := (mkF m 1 #[(sr t)] [(.ref t)])) rfl rfl (D d4_1) _ ?_; rw [len_of S2 M2]; refine XS.iconst X0.here hx rfl (D d4_2) ?_; refine XS.ishr X0.here hx rfl (D d4_3) rfl ?_; exact kont)
  obtain ⟨fs, hr, hrun, hended, hW, hsame⟩ := X0.leave (v := some (.int (zl >>> ((1 : Int32) &&& 31)))) (fun h => by rw [Bd.returns] at h; cases h)
  refine ⟨_, _, go3 _ ?_, hrun, hended, _, _, rfl, ?_, ⟨_, rfl⟩, hW, hsame.mono (by decide) (by decide)⟩
  · show Steps p.tables e below (s₁.setTop (mkF m 4 #[(sr t)] [(.int (zl >>> ((1 : Int32) &&& 31)))])) _
    exact retOut X0 hx Bd.returns rfl (Or.inl ⟨rfl, Or.inl rfl, _, rfl⟩) (D d4_4) hr
  · show QUL Z t kb zl bs zn h0 n0 _ s₁.heap _
    rw [e0]
    exact ⟨by rw [← hz], rfl, rfl⟩
theorem pd_6 : parseMethodDescriptor "([B)I" = some ⟨[(.array .byte)], some .int⟩ := by decide +kernel
theorem d5_0 : decode jdk_52_method_91_code 0 = .ok (.iload_n 0, 1) := by decide +kernel
theorem d5_1 : decode jdk_52_method_91_code 1 = .ok (.aload_n 1, 1) := by decide +kernel
theorem d5_2 : decode jdk_52_method_91_code 2 = .ok (.invokestatic 48, 3) := by decide +kernel
theorem d5_5 : decode jdk_52_method_91_code 5 = .ok (.invokestatic 414, 3) := by decide +kernel
theorem d5_8 : decode jdk_52_method_91_code 8 = .ok (.return_, 1) := by decide +kernel
theorem ef_UC (m : MethodId) (x0 : Int32) (x1 : Addr) : entryFrame m #[(.int x0), (.ref x1)] 2 = mkF m 0 #[.val (.int x0), .val (.ref x1)] [] := by first | (simp [entryFrame, mkF, argsToLocals, Value.category, maxLocals]; done) | rfl
def QUC (Z : State) (t : Addr) (kb : ClassId) (zl : Int32) (bs : List Value) (zn : Int32) (i : Int32) (G : Int32) (fv : Value) (h0 : Heap) (n0 : Nat) (v : Option Value) (h : Heap) (L : List Loc) : Prop := v = none ∧ L = [] ∧ h = h0
abbrev RmUC : Room := ({ frames := 2, cells := 0, slots := 0, locals := 27 } : Room)
set_option maxRecDepth 65536 in
set_option maxHeartbeats 40000000 in
theorem rmUC (l : Launch) (Z : State) (a0 : Array Value) (hw : ∀ d ∈ tables_1, d.before a0 Z = true) (ws : List Jvm.Cond) (t : Addr) (kb : ClassId) (zl : Int32) (bs : List Value) (zn : Int32) (i : Int32) (G : Int32) (fv : Value) (h0 : Heap) (n0 : Nat) (Z0 : n0 ≤ h0.size) (A0 : Arv Z h0 t kb .byte zl bs (.int (0 : Int32))) (hz : (zl >>> ((1 : Int32) &&& 31)) = zn) (h1 : ¬ i < 0) (h2 : i < zn) (W0 : own_W Z G fv) (O0 : Old Z n0 h0) :
    MetFree l (⟨"java/lang/StringUTF16", "checkIndex", "(I[B)V"⟩ : MethodName) (head1 (Jvm.Cond.code (⟨"java/lang/StringUTF16", "checkIndex", "(I[B)V"⟩ : MethodName) jdk_52_method_91_code 2 none :: ws) RmUC) (fun as_ U => as_ = #[(.int i), (.ref t)] ∧ Z.Warmed39 U.vm ∧ U.heap = h0) (fun _ _ _ _ _ => True) (fun _ U o U' => ∃ v L, o = .returned v ∧ QUC Z t kb zl bs zn i G fv h0 n0 v U'.heap L ∧ FrameEnd U o U' L RmUC.cells RmUC.slots) := by
  refine MetFree.of_bodySF (plainFor_of_name pn_5) hisR ?_
  intro p e s m args below meth c s₁ Bd hml0 hP hK
  obtain ⟨rfl, hZ, hh⟩ := hP
  have hx := Bd.exec
  have hby := Bd.bytes
  have D : ∀ {pc : Nat} {r : Except DecodeError (Instr × Nat)}, decode jdk_52_method_91_code pc = r → decode c.code pc = r := fun q => hb hby q
  have hml : c.maxLocals = 2 := hml0
  have hown : s.vm.findClass "java/lang/StringUTF16" = some m.cls := findClass_of_methodNamed Bd.named
  have hnm := (name_of_methodNamed Bd.named Bd.method).1
  have X0 : Stand p l e RmUC s m #[(.int i), (.ref t)] below meth c s₁ [] 0 0 := Stand.of_body Bd
  have e0 : s₁.heap = h0 := by rw [← hh, Bd.state]; rfl
  have N0 := Fr.nil n0
  obtain ⟨E0, hE0⟩ : ∃ z, z = s₁.setTop (entryFrame m #[(.int i), (.ref t)] 2) := ⟨_, rfl⟩
  rw [← hE0]
  have go0 : ∀ tgt, Steps p.tables e below (s₁.setTop (mkF m 0 #[(si i), (sr t)] [])) tgt → Steps p.tables e below E0 tgt := fun tgt kont => by rw [hE0]; exact castTop (ef_UC m i t) kont
  have go1 : Go p e below E0 s₁ m 2 #[(si i), (sr t)] [(.ref t), (.int i)] := fun tgt kont => go0 tgt (by
    refine XS.iloadN X0.here hx rfl (D d5_0) rfl ?_; refine XS.aloadN X0.here hx rfl (D d5_1) rfl rfl ?_; exact kont)
  obtain ⟨_, _, ⟨T2, L2, k2, n2⟩, -, X2, ⟨Lc2, hQ2, l2, y2, z2⟩, st2⟩ := Jvm.LawKit.callS X0 hx (y := (⟨"java/lang/StringUTF16", "length", "([B)I"⟩ : MethodName)) hown (mvT hZ (wd hw 132 rfl)) (mvT hZ (wd hw 133 rfl)) (mvT hZ (wd hw 45 rfl)) (mvT hZ (wd hw 134 rfl)) (by decide) (backOf (W := 1) (rmUL l Z a0 hw [] t kb zl bs zn h0 n0 Z0 A0 hz) hZ (wd hw 134 rfl) (wd hw 45 rfl) (by decide) (by decide)) (g := (mkF m 2 #[(si i), (sr t)] [(.ref t), (.int i)])) rfl (by rw [hml]; rfl) (argsL := [(.ref t)]) (rest := [(.int i)]) (lenOf pd_6 rfl) rfl (by show 2 * 0 + _ ≤ _; exact Nat.le_of_eq rfl) (D d5_2) (fun _ _ => ⟨rfl, e0, (by decide : 0 + 0 ≤ _), (by decide : 0 + 0 ≤ _)⟩)
  dsimp only [Pt.U, Pt.locs, Pt.cells, Pt.slots] at X2 l2 y2 z2 st2 hQ2
  subst l2 y2 z2
  obtain ⟨rfl, rfl, e2⟩ := hQ2
  have N2 := Fr.app N0 (Fr.nil n0)
  have go2 : Go p e below E0 T2 m 5 #[(si i), (sr t)] [(.int zn), (.int i)] := fun tgt kont => go1 tgt (st2 tgt kont)
  obtain ⟨_, _, ⟨T3, L3, k3, n3⟩, -, X3, ⟨Lc3, hQ3, l3, y3, z3⟩, st3⟩ := Jvm.LawKit.callS X2 hx (y := (⟨"java/lang/String", "checkIndex", "(II)V"⟩ : MethodName)) hown (mvT hZ (wd hw 135 rfl)) (mvT hZ (wd hw 72 rfl)) (mvT hZ (wd hw 4 rfl)) (mvT hZ (wd hw 73 rfl)) (by decide) (backOf (W := 0) (rmCI l Z a0 hw [] i zn G fv h0 n0 Z0 h1 h2 W0 O0) hZ (wd hw 73 rfl) (wd hw 4 rfl) (by decide) (by decide)) (g := (mkF m 5 #[(si i), (sr t)] [(.int zn), (.int i)])) rfl (by rw [hml]; rfl) (argsL := [(.int i), (.int zn)]) (rest := []) (lenOf pd_3 rfl) rfl (by show 2 * 0 + _ ≤ _; exact Nat.le_of_eq rfl) (D d5_5) (fun _ _ => ⟨rfl, e2, (by decide : 0 + 0 ≤ _), (by decide : 0 + 0 ≤ _)⟩)
  dsimp only [Pt.U, Pt.locs, Pt.cells, Pt.slots] at X3 l3 y3 z3 st3 hQ3
  subst l3 y3 z3
  obtain ⟨rfl, rfl, e3⟩ := hQ3
  have N3 := Fr.app N2 (Fr.nil n0)
  have go3 : Go p e below E0 T3 m 8 #[(si i), (sr t)] [] := fun tgt kont => go2 tgt (st3 tgt kont)
  obtain ⟨fs, hr, hrun, hended, hW, hsame⟩ := X3.leave (v := none) (fun _ => rfl)
  refine ⟨_, _, go3 _ ?_, hrun, hended, _, _, rfl, ?_, ⟨_, rfl⟩, hW, hsame.mono (by decide) (by decide)⟩
  · show Steps p.tables e below (T3.setTop (mkF m 8 #[(si i), (sr t)] [])) _
    exact X3.returnOut hx Bd.returns (D d5_8) hr
  · show QUC Z t kb zl bs zn i G fv h0 n0 _ T3.heap _
    rw [e3]
    exact ⟨rfl, rfl, rfl⟩
theorem pd_7 : parseMethodDescriptor "(I[B)V" = some ⟨[.int, (.array .byte)], none⟩ := by decide +kernel
theorem pd_8 : parseMethodDescriptor "([BI)C" = some ⟨[(.array .byte), .int], some .char⟩ := by decide +kernel
theorem d6_0 : decode jdk_52_method_83_code 0 = .ok (.iload_n 1, 1) := by decide +kernel
theorem d6_1 : decode jdk_52_method_83_code 1 = .ok (.aload_n 0, 1) := by decide +kernel
theorem d6_2 : decode jdk_52_method_83_code 2 = .ok (.invokestatic 67, 3) := by decide +kernel
theorem d6_5 : decode jdk_52_method_83_code 5 = .ok (.aload_n 0, 1) := by decide +kernel
theorem d6_6 : decode jdk_52_method_83_code 6 = .ok (.iload_n 1, 1) := by decide +kernel
theorem d6_7 : decode jdk_52_method_83_code 7 = .ok (.invokestatic 71, 3) := by decide +kernel
theorem d6_10 : decode jdk_52_method_83_code 10 = .ok (.ireturn, 1) := by decide +kernel
theorem ef_UA (m : MethodId) (x0 : Addr) (x1 : Int32) : entryFrame m #[(.ref x0), (.int x1)] 2 = mkF m 0 #[.val (.ref x0), .val (.int x1)] [] := by first | (simp [entryFrame, mkF, argsToLocals, Value.category, maxLocals]; done) | rfl
def QUA (Z : State) (t : Addr) (kb : ClassId) (zl : Int32) (bs : List Value) (zn : Int32) (i : Int32) (q0 : Int32) (q1 : Int32) (ch : Int32) (G : Int32) (fv : Value) (h0 : Heap) (n0 : Nat) (v : Option Value) (h : Heap) (L : List Loc) : Prop := v = some (.int ch) ∧ L = [] ∧ h = h0
abbrev RmUA : Room := ({ frames := 3, cells := 0, slots := 0, locals := 40 } : Room)
set_option maxRecDepth 65536 in
set_option maxHeartbeats 40000000 in
theorem rmUA (l : Launch) (Z : State) (a0 : Array Value) (hw : ∀ d ∈ tables_1, d.before a0 Z = true) (ws : List Jvm.Cond) (t : Addr) (kb : ClassId) (zl : Int32) (bs : List Value) (zn : Int32) (i : Int32) (q0 : Int32) (q1 : Int32) (ch : Int32) (G : Int32) (fv : Value) (h0 : Heap) (n0 : Nat) (Z0 : n0 ≤ h0.size) (A0 : Arv Z h0 t kb .byte zl bs (.int (0 : Int32))) (j0 : ¬ (i <<< ((1 : Int32) &&& 31)) < 0 ∧ (i <<< ((1 : Int32) &&& 31)) < zl) (t0 : bs.getD (i <<< ((1 : Int32) &&& 31)).toNatClampNeg (.int (0 : Int32)) = .int q0) (j1 : ¬ ((i <<< ((1 : Int32) &&& 31)) + (1 : Int32)) < 0 ∧ ((i <<< ((1 : Int32) &&& 31)) + (1 : Int32)) < zl) (t1 : bs.getD ((i <<< ((1 : Int32) &&& 31)) + (1 : Int32)).toNatClampNeg (.int (0 : Int32)) = .int q1) (hc : nar .char ((((q0 &&& (255 : Int32)) <<< ((0 : Int32) &&& 31)) ||| ((q1 &&& (255 : Int32)) <<< ((8 : Int32) &&& 31))).toUInt32.toUInt16.toUInt32.toInt32) = ch) (hz : (zl >>> ((1 : Int32) &&& 31)) = zn) (h1 : ¬ i < 0) (h2 : i < zn) (hn : nar .char ch = ch) (W0 : own_W Z G fv) (O0 : Old Z n0 h0) :
    MetFree l (⟨"java/lang/StringUTF16", "charAt", "([BI)C"⟩ : MethodName) (head1 (Jvm.Cond.code (⟨"java/lang/StringUTF16", "charAt", "([BI)C"⟩ : MethodName) jdk_52_method_83_code 2 (some .char) :: ws) RmUA) (fun as_ U => as_ = #[(.ref t), (.int i)] ∧ Z.Warmed39 U.vm ∧ U.heap = h0) (fun _ _ _ _ _ => True) (fun _ U o U' => ∃ v L, o = .returned v ∧ QUA Z t kb zl bs zn i q0 q1 ch G fv h0 n0 v U'.heap L ∧ FrameEnd U o U' L RmUA.cells RmUA.slots) := by
  refine MetFree.of_bodySF (plainFor_of_name pn_5) hisR ?_
  intro p e s m args below meth c s₁ Bd hml0 hP hK
  obtain ⟨rfl, hZ, hh⟩ := hP
  have hx := Bd.exec
  have hby := Bd.bytes
  have D : ∀ {pc : Nat} {r : Except DecodeError (Instr × Nat)}, decode jdk_52_method_83_code pc = r → decode c.code pc = r := fun q => hb hby q
  have hml : c.maxLocals = 2 := hml0
  have hown : s.vm.findClass "java/lang/StringUTF16" = some m.cls := findClass_of_methodNamed Bd.named
  have hnm := (name_of_methodNamed Bd.named Bd.method).1
  have X0 : Stand p l e RmUA s m #[(.ref t), (.int i)] below meth c s₁ [] 0 0 := Stand.of_body Bd
  have e0 : s₁.heap = h0 := by rw [← hh, Bd.state]; rfl
  have N0 := Fr.nil n0
  obtain ⟨E0, hE0⟩ : ∃ z, z = s₁.setTop (entryFrame m #[(.ref t), (.int i)] 2) := ⟨_, rfl⟩
  rw [← hE0]
  have go0 : ∀ tgt, Steps p.tables e below (s₁.setTop (mkF m 0 #[(sr t), (si i)] [])) tgt → Steps p.tables e below E0 tgt := fun tgt kont => by rw [hE0]; exact castTop (ef_UA m t i) kont
  have go1 : Go p e below E0 s₁ m 2 #[(sr t), (si i)] [(.ref t), (.int i)] := fun tgt kont => go0 tgt (by
    refine XS.iloadN X0.here hx rfl (D d6_0) rfl ?_; refine XS.aloadN X0.here hx rfl (D d6_1) rfl rfl ?_; exact kont)
  obtain ⟨_, _, ⟨T2, L2, k2, n2⟩, -, X2, ⟨Lc2, hQ2, l2, y2, z2⟩, st2⟩ := Jvm.LawKit.callS X0 hx (y := (⟨"java/lang/StringUTF16", "checkIndex", "(I[B)V"⟩ : MethodName)) hown (mvT hZ (wd hw 129 rfl)) (mvT hZ (wd hw 130 rfl)) (mvT hZ (wd hw 45 rfl)) (mvT hZ (wd hw 131 rfl)) (by decide) (backOf (W := 0) (rmUC l Z a0 hw [] t kb zl bs zn i G fv h0 n0 Z0 A0 hz h1 h2 W0 O0) hZ (wd hw 131 rfl) (wd hw 45 rfl) (by decide) (by decide)) (g := (mkF m 2 #[(sr t), (si i)] [(.ref t), (.int i)])) rfl (by rw [hml]; rfl) (argsL := [(.int i), (.ref t)]) (rest := []) (lenOf pd_7 rfl) rfl (by show 2 * 0 + _ ≤ _; exact Nat.le_of_eq rfl) (D d6_2) (fun _ _ => ⟨rfl, e0, (by decide : 0 + 0 ≤ _), (by decide : 0 + 0 ≤ _)⟩)
  dsimp only [Pt.U, Pt.locs, Pt.cells, Pt.slots] at X2 l2 y2 z2 st2 hQ2
  subst l2 y2 z2
  obtain ⟨rfl, rfl, e2⟩ := hQ2
  have N2 := Fr.app N0 (Fr.nil n0)
  have go2 : Go p e below E0 T2 m 5 #[(sr t), (si i)] [] := fun tgt kont => go1 tgt (st2 tgt kont)
  have go3 : Go p e below E0 T2 m 7 #[(sr t), (si i)] [(.int i), (.ref t)] := fun tgt kont => go2 tgt (by
    refine XS.aloadN X2.here hx rfl (D d6_5) rfl rfl ?_; refine XS.iloadN X2.here hx rfl (D d6_6) rfl ?_; exact kont)
  obtain ⟨_, _, ⟨T4, L4, k4, n4⟩, -, X4, ⟨Lc4, hQ4, l4, y4, z4⟩, st4⟩ := Jvm.LawKit.callS X2 hx (y := (⟨"java/lang/StringUTF16", "getChar", "([BI)C"⟩ : MethodName)) hown (mvT hZ (wd hw 123 rfl)) (mvT hZ (wd hw 124 rfl)) (mvT hZ (wd hw 45 rfl)) (mvT hZ (wd hw 125 rfl)) (by decide) (backOf (W := 0) (rmGC l Z a0 hw [] t kb zl bs i q0 q1 ch G fv h0 n0 Z0 A0 j0 t0 j1 t1 hc W0 O0) hZ (wd hw 125 rfl) (wd hw 45 rfl) (by decide) (by decide)) (g := (mkF m 7 #[(sr t), (si i)] [(.int i), (.ref t)])) rfl (by rw [hml]; rfl) (argsL := [(.ref t), (.int i)]) (rest := []) (lenOf pd_8 rfl) rfl (by show 2 * 0 + _ ≤ _; exact Nat.le_of_eq rfl) (D d6_7) (fun _ _ => ⟨rfl, e2, (by decide : 0 + 0 ≤ _), (by decide : 0 + 0 ≤ _)⟩)
  dsimp only [Pt.U, Pt.locs, Pt.cells, Pt.slots] at X4 l4 y4 z4 st4 hQ4
  subst l4 y4 z4
  obtain ⟨rfl, rfl, e4⟩ := hQ4
  have N4 := Fr.app N2 (Fr.nil n0)
  have go4 : Go p e below E0 T4 m 10 #[(sr t), (si i)] [(.int ch)] := fun tgt kont => go3 tgt (st4 tgt kont)
  obtain ⟨fs, hr, hrun, hended, hW, hsame⟩ := X4.leave (v := some (.int (nar .char ch))) (fun h => by rw [Bd.returns] at h; cases h)
  refine ⟨_, _, go4 _ ?_, hrun, hended, _, _, rfl, ?_, ⟨_, rfl⟩, hW, hsame.mono (by decide) (by decide)⟩
  · show Steps p.tables e below (T4.setTop (mkF m 10 #[(sr t), (si i)] [(.int ch)])) _
    exact retN X4 hx (t := .char) Bd.returns (by simp) (D d6_10) hr
  · show QUA Z t kb zl bs zn i q0 q1 ch G fv h0 n0 _ T4.heap _
    rw [e4]
    exact ⟨by rw [hn], rfl, rfl⟩
theorem d7_0 : decode jdk_42_method_154_code 0 = .ok (.getstatic 38, 3) := by decide +kernel
theorem d7_3 : decode jdk_42_method_154_code 3 = .ok (.ifCond .eq 14, 3) := by decide +kernel
theorem d7_6 : decode jdk_42_method_154_code 6 = .ok (.aload_n 0, 1) := by decide +kernel
theorem d7_7 : decode jdk_42_method_154_code 7 = .ok (.getfield 15, 3) := by decide +kernel
theorem d7_10 : decode jdk_42_method_154_code 10 = .ok (.ifCond .ne 7, 3) := by decide +kernel
theorem d7_13 : decode jdk_42_method_154_code 13 = .ok (.iconst 1, 1) := by decide +kernel
theorem d7_14 : decode jdk_42_method_154_code 14 = .ok (.goto 4, 3) := by decide +kernel
theorem d7_18 : decode jdk_42_method_154_code 18 = .ok (.ireturn, 1) := by decide +kernel
theorem ef_IL0 (m : MethodId) (x0 : Addr) : entryFrame m #[(.ref x0)] 1 = mkF m 0 #[.val (.ref x0)] [] := by first | (simp [entryFrame, mkF, argsToLocals, Value.category, maxLocals]; done) | rfl
def QIL0 (Z : State) (x : Addr) (G : Int32) (fv : Value) (h0 : Heap) (n0 : Nat) (v : Option Value) (h : Heap) (L : List Loc) : Prop := v = some (.int (1 : Int32)) ∧ L = [] ∧ h = h0
abbrev RmIL0 : Room := ({ frames := 0, cells := 0, slots := 0, locals := 0 } : Room)
set_option maxRecDepth 65536 in
set_option maxHeartbeats 40000000 in
theorem rmIL0 (l : Launch) (Z : State) (a0 : Array Value) (hw : ∀ d ∈ tables_1, d.before a0 Z = true) (ws : List Jvm.Cond) (x : Addr) (G : Int32) (fv : Value) (h0 : Heap) (n0 : Nat) (Z0 : n0 ≤ h0.size) (Fc : Fld Z h0 x "java/lang/String" "coder" "B" (.int (0 : Int32))) (W0 : own_W Z G fv) (O0 : Old Z n0 h0) :
    MetFree l (⟨"java/lang/String", "isLatin1", "()Z"⟩ : MethodName) (head1 (Jvm.Cond.code (⟨"java/lang/String", "isLatin1", "()Z"⟩ : MethodName) jdk_42_method_154_code 1 (some .boolean) :: ws) RmIL0) (fun as_ U => as_ = #[(.ref x)] ∧ Z.Warmed39 U.vm ∧ U.heap = h0) (fun _ _ _ _ _ => True) (fun _ U o U' => ∃ v L, o = .returned v ∧ QIL0 Z x G fv h0 n0 v U'.heap L ∧ FrameEnd U o U' L RmIL0.cells RmIL0.slots) := by
  refine MetFree.of_bodySF (plainFor_of_name pn_2) hisR ?_
  intro p e s m args below meth c s₁ Bd hml0 hP hK
  obtain ⟨rfl, hZ, hh⟩ := hP
  have hx := Bd.exec
  have hby := Bd.bytes
  have D : ∀ {pc : Nat} {r : Except DecodeError (Instr × Nat)}, decode jdk_42_method_154_code pc = r → decode c.code pc = r := fun q => hb hby q
  have hml : c.maxLocals = 1 := hml0
  have hown : s.vm.findClass "java/lang/String" = some m.cls := findClass_of_methodNamed Bd.named
  have hnm := (name_of_methodNamed Bd.named Bd.method).1
  have X0 : Stand p l e RmIL0 s m #[(.ref x)] below meth c s₁ [] 0 0 := Stand.of_body Bd
  have e0 : s₁.heap = h0 := by rw [← hh, Bd.state]; rfl
  have N0 := Fr.nil n0
  obtain ⟨E0, hE0⟩ : ∃ z, z = s₁.setTop (entryFrame m #[(.ref x)] 1) := ⟨_, rfl⟩
  rw [← hE0]
  have go0 : ∀ tgt, Steps p.tables e below (s₁.setTop (mkF m 0 #[(sr x)] [])) tgt → Steps p.tables e below E0 tgt := fun tgt kont => by rw [hE0]; exact castTop (ef_IL0 m x) kont
  obtain ⟨T1, X1, e1, st1⟩ := getS2 X0 hx hZ hown (host := "") (Or.inl (wd hw 37 rfl)) Via.refl e0 (W0.1.ext O0.2) (g := (mkF m 0 #[(sr x)] [])) rfl (D d7_0)
  have go1 : Go p e below E0 T1 m 3 #[(sr x)] [(.int G)] := fun tgt kont => go0 tgt (st1 tgt kont)
  have go2 : Go p e below E0 T1 m 7 #[(sr x)] [(.ref x)] := fun tgt kont => go1 tgt (by
    refine XS.ifNo X1.here hx rfl (D d7_3) rfl ((if0 _ _).trans (feq W0.2.1).1) ?_; refine XS.aloadN X1.here hx rfl (D d7_6) rfl rfl ?_; exact kont)
  obtain ⟨T3, X3, e3, st3⟩ := getF X1 hx hZ hown (host := "") (Or.inl (wd hw 22 rfl)) Via.refl e1 Fc (g := (mkF m 7 #[(sr x)] [(.ref x)])) rfl rfl (D d7_7)
  have go3 : Go p e below E0 T3 m 10 #[(sr x)] [(.int 0)] := fun tgt kont => go2 tgt (st3 tgt kont)
  have go4 : Go p e below E0 T3 m 18 #[(sr x)] [(.int 1)] := fun tgt kont => go3 tgt (by
    refine XS.ifNo X3.here hx rfl (D d7_10) rfl ((if0 _ _).trans (teq rfl).2) ?_; refine XS.iconst X3.here hx rfl (D d7_13) ?_; refine XS.goto X3.here hx rfl (pc0 := 14) (pc' := 18) rfl (D d7_14) (by decide) (by decide) ?_; exact kont)
  obtain ⟨fs, hr, hrun, hended, hW, hsame⟩ := X3.leave (v := some (.int (1 : Int32))) (fun h => by rw [Bd.returns] at h; cases h)
  refine ⟨_, _, go4 _ ?_, hrun, hended, _, _, rfl, ?_, ⟨_, rfl⟩, hW, hsame.mono (by decide) (by decide)⟩
  · show Steps p.tables e below (T3.setTop (mkF m 18 #[(sr x)] [(.int 1)])) _
    exact retN X3 hx (t := .boolean) Bd.returns (by simp) (D d7_18) hr
  · show QIL0 Z x G fv h0 n0 _ T3.heap _
    rw [e3]
    exact ⟨rfl, rfl, rfl⟩
theorem d7_17 : decode jdk_42_method_154_code 17 = .ok (.iconst 0, 1) := by decide +kernel
theorem ef_IL1 (m : MethodId) (x0 : Addr) : entryFrame m #[(.ref x0)] 1 = mkF m 0 #[.val (.ref x0)] [] := by first | (simp [entryFrame, mkF, argsToLocals, Value.category, maxLocals]; done) | rfl
def QIL1 (Z : State) (x : Addr) (G : Int32) (fv : Value) (h0 : Heap) (n0 : Nat) (v : Option Value) (h : Heap) (L : List Loc) : Prop := v = some (.int (0 : Int32)) ∧ L = [] ∧ h = h0
abbrev RmIL1 : Room := ({ frames := 0, cells := 0, slots := 0, locals := 0 } : Room)
set_option maxRecDepth 65536 in
set_option maxHeartbeats 40000000 in
theorem rmIL1 (l : Launch) (Z : State) (a0 : Array Value) (hw : ∀ d ∈ tables_1, d.before a0 Z = true) (ws : List Jvm.Cond) (x : Addr) (G : Int32) (fv : Value) (h0 : Heap) (n0 : Nat) (Z0 : n0 ≤ h0.size) (Fc : Fld Z h0 x "java/lang/String" "coder" "B" (.int (1 : Int32))) (W0 : own_W Z G fv) (O0 : Old Z n0 h0) :
    MetFree l (⟨"java/lang/String", "isLatin1", "()Z"⟩ : MethodName) (head1 (Jvm.Cond.code (⟨"java/lang/String", "isLatin1", "()Z"⟩ : MethodName) jdk_42_method_154_code 1 (some .boolean) :: ws) RmIL1) (fun as_ U => as_ = #[(.ref x)] ∧ Z.Warmed39 U.vm ∧ U.heap = h0) (fun _ _ _ _ _ => True) (fun _ U o U' => ∃ v L, o = .returned v ∧ QIL1 Z x G fv h0 n0 v U'.heap L ∧ FrameEnd U o U' L RmIL1.cells RmIL1.slots) := by
  refine MetFree.of_bodySF (plainFor_of_name pn_2) hisR ?_
  intro p e s m args below meth c s₁ Bd hml0 hP hK
  obtain ⟨rfl, hZ, hh⟩ := hP
  have hx := Bd.exec
  have hby := Bd.bytes
  have D : ∀ {pc : Nat} {r : Except DecodeError (Instr × Nat)}, decode jdk_42_method_154_code pc = r → decode c.code pc = r := fun q => hb hby q
  have hml : c.maxLocals = 1 := hml0
  have hown : s.vm.findClass "java/lang/String" = some m.cls := findClass_of_methodNamed Bd.named
  have hnm := (name_of_methodNamed Bd.named Bd.method).1
  have X0 : Stand p l e RmIL1 s m #[(.ref x)] below meth c s₁ [] 0 0 := Stand.of_body Bd
  have e0 : s₁.heap = h0 := by rw [← hh, Bd.state]; rfl
  have N0 := Fr.nil n0
  obtain ⟨E0, hE0⟩ : ∃ z, z = s₁.setTop (entryFrame m #[(.ref x)] 1) := ⟨_, rfl⟩
  rw [← hE0]
  have go0 : ∀ tgt, Steps p.tables e below (s₁.setTop (mkF m 0 #[(sr x)] [])) tgt → Steps p.tables e below E0 tgt := fun tgt kont => by rw [hE0]; exact castTop (ef_IL1 m x) kont
  obtain ⟨T1, X1, e1, st1⟩ := getS2 X0 hx hZ hown (host := "") (Or.inl (wd hw 37 rfl)) Via.refl e0 (W0.1.ext O0.2) (g := (mkF m 0 #[(sr x)] [])) rfl (D d7_0)
  have go1 : Go p e below E0 T1 m 3 #[(sr x)] [(.int G)] := fun tgt kont => go0 tgt (st1 tgt kont)
  have go2 : Go p e below E0 T1 m 7 #[(sr x)] [(.ref x)] := fun tgt kont => go1 tgt (by
    refine XS.ifNo X1.here hx rfl (D d7_3) rfl ((if0 _ _).trans (feq W0.2.1).1) ?_; refine XS.aloadN X1.here hx rfl (D d7_6) rfl rfl ?_; exact kont)
  obtain ⟨T3, X3, e3, st3⟩ := getF X1 hx hZ hown (host := "") (Or.inl (wd hw 22 rfl)) Via.refl e1 Fc (g := (mkF m 7 #[(sr x)] [(.ref x)])) rfl rfl (D d7_7)
  have go3 : Go p e below E0 T3 m 10 #[(sr x)] [(.int 1)] := fun tgt kont => go2 tgt (st3 tgt kont)
  have go4 : Go p e below E0 T3 m 18 #[(sr x)] [(.int 0)] := fun tgt kont => go3 tgt (by
    refine XS.ifYes X3.here hx rfl (pc0 := 10) (pc' := 17) rfl (D d7_10) rfl ((if0 _ _).trans (feq (by decide)).2) (by decide) (by decide) ?_; refine XS.iconst X3.here hx rfl (D d7_17) ?_; exact kont)
  obtain ⟨fs, hr, hrun, hended, hW, hsame⟩ := X3.leave (v := some (.int (0 : Int32))) (fun h => by rw [Bd.returns] at h; cases h)
  refine ⟨_, _, go4 _ ?_, hrun, hended, _, _, rfl, ?_, ⟨_, rfl⟩, hW, hsame.mono (by decide) (by decide)⟩
  · show Steps p.tables e below (T3.setTop (mkF m 18 #[(sr x)] [(.int 0)])) _
    exact retN X3 hx (t := .boolean) Bd.returns (by simp) (D d7_18) hr
  · show QIL1 Z x G fv h0 n0 _ T3.heap _
    rw [e3]
    exact ⟨rfl, rfl, rfl⟩
theorem d8_0 : decode jdk_42_method_152_code 0 = .ok (.getstatic 38, 3) := by decide +kernel
theorem d8_3 : decode jdk_42_method_152_code 3 = .ok (.ifCond .eq 10, 3) := by decide +kernel
theorem d8_6 : decode jdk_42_method_152_code 6 = .ok (.aload_n 0, 1) := by decide +kernel
theorem d8_7 : decode jdk_42_method_152_code 7 = .ok (.getfield 15, 3) := by decide +kernel
theorem d8_10 : decode jdk_42_method_152_code 10 = .ok (.goto 4, 3) := by decide +kernel
theorem d8_14 : decode jdk_42_method_152_code 14 = .ok (.ireturn, 1) := by decide +kernel
theorem ef_CO (m : MethodId) (x0 : Addr) : entryFrame m #[(.ref x0)] 1 = mkF m 0 #[.val (.ref x0)] [] := by first | (simp [entryFrame, mkF, argsToLocals, Value.category, maxLocals]; done) | rfl
def QCO (Z : State) (x : Addr) (co : Int32) (G : Int32) (fv : Value) (h0 : Heap) (n0 : Nat) (v : Option Value) (h : Heap) (L : List Loc) : Prop := v = some (.int co) ∧ L = [] ∧ h = h0
abbrev RmCO : Room := ({ frames := 0, cells := 0, slots := 0, locals := 0 } : Room)
set_option maxRecDepth 65536 in
set_option maxHeartbeats 40000000 in
theorem rmCO (l : Launch) (Z : State) (a0 : Array Value) (hw : ∀ d ∈ tables_1, d.before a0 Z = true) (ws : List Jvm.Cond) (x : Addr) (co : Int32) (G : Int32) (fv : Value) (h0 : Heap) (n0 : Nat) (Z0 : n0 ≤ h0.size) (Fc : Fld Z h0 x "java/lang/String" "coder" "B" (.int co)) (hn : nar .byte co = co) (W0 : own_W Z G fv) (O0 : Old Z n0 h0) :
    MetFree l (⟨"java/lang/String", "coder", "()B"⟩ : MethodName) (head1 (Jvm.Cond.code (⟨"java/lang/String", "coder", "()B"⟩ : MethodName) jdk_42_method_152_code 1 (some .byte) :: ws) RmCO) (fun as_ U => as_ = #[(.ref x)] ∧ Z.Warmed39 U.vm ∧ U.heap = h0) (fun _ _ _ _ _ => True) (fun _ U o U' => ∃ v L, o = .returned v ∧ QCO Z x co G fv h0 n0 v U'.heap L ∧ FrameEnd U o U' L RmCO.cells RmCO.slots) := by
  refine MetFree.of_bodySF (plainFor_of_name pn_2) hisR ?_
  intro p e s m args below meth c s₁ Bd hml0 hP hK
  obtain ⟨rfl, hZ, hh⟩ := hP
  have hx := Bd.exec
  have hby := Bd.bytes
  have D : ∀ {pc : Nat} {r : Except DecodeError (Instr × Nat)}, decode jdk_42_method_152_code pc = r → decode c.code pc = r := fun q => hb hby q
  have hml : c.maxLocals = 1 := hml0
  have hown : s.vm.findClass "java/lang/String" = some m.cls := findClass_of_methodNamed Bd.named
  have hnm := (name_of_methodNamed Bd.named Bd.method).1
  have X0 : Stand p l e RmCO s m #[(.ref x)] below meth c s₁ [] 0 0 := Stand.of_body Bd
  have e0 : s₁.heap = h0 := by rw [← hh, Bd.state]; rfl
  have N0 := Fr.nil n0
  obtain ⟨E0, hE0⟩ : ∃ z, z = s₁.setTop (entryFrame m #[(.ref x)] 1) := ⟨_, rfl⟩
  rw [← hE0]
  have go0 : ∀ tgt, Steps p.tables e below (s₁.setTop (mkF m 0 #[(sr x)] [])) tgt → Steps p.tables e below E0 tgt := fun tgt kont => by rw [hE0]; exact castTop (ef_CO m x) kont
  obtain ⟨T1, X1, e1, st1⟩ := getS2 X0 hx hZ hown (host := "") (Or.inl (wd hw 37 rfl)) Via.refl e0 (W0.1.ext O0.2) (g := (mkF m 0 #[(sr x)] [])) rfl (D d8_0)
  have go1 : Go p e below E0 T1 m 3 #[(sr x)] [(.int G)] := fun tgt kont => go0 tgt (st1 tgt kont)
  have go2 : Go p e below E0 T1 m 7 #[(sr x)] [(.ref x)] := fun tgt kont => go1 tgt (by
    refine XS.ifNo X1.here hx rfl (D d8_3) rfl ((if0 _ _).trans (feq W0.2.1).1) ?_; refine XS.aloadN X1.here hx rfl (D d8_6) rfl rfl ?_; exact kont)
  obtain ⟨T3, X3, e3, st3⟩ := getF X1 hx hZ hown (host := "") (Or.inl (wd hw 22 rfl)) Via.refl e1 Fc (g := (mkF m 7 #[(sr x)] [(.ref x)])) rfl rfl (D d8_7)
  have go3 : Go p e below E0 T3 m 10 #[(sr x)] [(.int co)] := fun tgt kont => go2 tgt (st3 tgt kont)
  have go4 : Go p e below E0 T3 m 14 #[(sr x)] [(.int co)] := fun tgt kont => go3 tgt (by
    refine XS.goto X3.here hx rfl (pc0 := 10) (pc' := 14) rfl (D d8_10) (by decide) (by decide) ?_; exact kont)
  obtain ⟨fs, hr, hrun, hended, hW, hsame⟩ := X3.leave (v := some (.int (nar .byte co))) (fun h => by rw [Bd.returns] at h; cases h)
  refine ⟨_, _, go4 _ ?_, hrun, hended, _, _, rfl, ?_, ⟨_, rfl⟩, hW, hsame.mono (by decide) (by decide)⟩
  · show Steps p.tables e below (T3.setTop (mkF m 14 #[(sr x)] [(.int co)])) _
    exact retN X3 hx (t := .byte) Bd.returns (by simp) (D d8_14) hr
  · show QCO Z x co G fv h0 n0 _ T3.heap _
    rw [e3]
    exact ⟨by rw [hn], rfl, rfl⟩
theorem pd_9 : parseMethodDescriptor "()B" = some ⟨[], some .byte⟩ := by decide +kernel
theorem d9_0 : decode jdk_42_method_54_code 0 = .ok (.aload_n 0, 1) := by decide +kernel
theorem d9_1 : decode jdk_42_method_54_code 1 = .ok (.getfield 9, 3) := by decide +kernel
theorem d9_4 : decode jdk_42_method_54_code 4 = .ok (.arraylength, 1) := by decide +kernel
theorem d9_5 : decode jdk_42_method_54_code 5 = .ok (.aload_n 0, 1) := by decide +kernel
theorem d9_6 : decode jdk_42_method_54_code 6 = .ok (.invokevirtual 335, 3) := by decide +kernel
theorem d9_9 : decode jdk_42_method_54_code 9 = .ok (.ishr, 1) := by decide +kernel
theorem d9_10 : decode jdk_42_method_54_code 10 = .ok (.ireturn, 1) := by decide +kernel
theorem ef_LN (m : MethodId) (x0 : Addr) : entryFrame m #[(.ref x0)] 1 = mkF m 0 #[.val (.ref x0)] [] := by first | (simp [entryFrame, mkF, argsToLocals, Value.category, maxLocals]; done) | rfl
def QLN (Z : State) (x : Addr) (t : Addr) (kb : ClassId) (zl : Int32) (bs : List Value) (co : Int32) (zn : Int32) (G : Int32) (fv : Value) (h0 : Heap) (n0 : Nat) (v : Option Value) (h : Heap) (L : List Loc) : Prop := v = some (.int zn) ∧ L = [] ∧ h = h0
abbrev RmLN : Room := ({ frames := 1, cells := 0, slots := 0, locals := 13 } : Room)
set_option maxRecDepth 65536 in
set_option maxHeartbeats 40000000 in
theorem rmLN (l : Launch) (Z : State) (a0 : Array Value) (hw : ∀ d ∈ tables_1, d.before a0 Z = true) (ws : List Jvm.Cond) (x : Addr) (t : Addr) (kb : ClassId) (zl : Int32) (bs : List Value) (co : Int32) (zn : Int32) (G : Int32) (fv : Value) (h0 : Heap) (n0 : Nat) (Z0 : n0 ≤ h0.size) (Ex : Exa Z h0 x "java/lang/String") (Fv : Fld Z h0 x "java/lang/String" "value" "[B" (.ref t)) (Fc : Fld Z h0 x "java/lang/String" "coder" "B" (.int co)) (hn : nar .byte co = co) (A0 : Arv Z h0 t kb .byte zl bs (.int (0 : Int32))) (hz : (zl >>> (co &&& 31)) = zn) (W0 : own_W Z G fv) (O0 : Old Z n0 h0) :
    MetFree l (⟨"java/lang/String", "length", "()I"⟩ : MethodName) (head1 (Jvm.Cond.code (⟨"java/lang/String", "length", "()I"⟩ : MethodName) jdk_42_method_54_code 1 (some .int) :: ws) RmLN) (fun as_ U => as_ = #[(.ref x)] ∧ Z.Warmed39 U.vm ∧ U.heap = h0) (fun _ _ _ _ _ => True) (fun _ U o U' => ∃ v L, o = .returned v ∧ QLN Z x t kb zl bs co zn G fv h0 n0 v U'.heap L ∧ FrameEnd U o U' L RmLN.cells RmLN.slots) := by
  refine MetFree.of_bodySF (plainFor_of_name pn_2) hisR ?_
  intro p e s m args below meth c s₁ Bd hml0 hP hK
  obtain ⟨rfl, hZ, hh⟩ := hP
  have hx := Bd.exec
  have hby := Bd.bytes
  have D : ∀ {pc : Nat} {r : Except DecodeError (Instr × Nat)}, decode jdk_42_method_54_code pc = r → decode c.code pc = r := fun q => hb hby q
  have hml : c.maxLocals = 1 := hml0
  have hown : s.vm.findClass "java/lang/String" = some m.cls := findClass_of_methodNamed Bd.named
  have hnm := (name_of_methodNamed Bd.named Bd.method).1
  have X0 : Stand p l e RmLN s m #[(.ref x)] below meth c s₁ [] 0 0 := Stand.of_body Bd
  have e0 : s₁.heap = h0 := by rw [← hh, Bd.state]; rfl
  have N0 := Fr.nil n0
  obtain ⟨E0, hE0⟩ : ∃ z, z = s₁.setTop (entryFrame m #[(.ref x)] 1) := ⟨_, rfl⟩
  rw [← hE0]
  have go0 : ∀ tgt, Steps p.tables e below (s₁.setTop (mkF m 0 #[(sr x)] [])) tgt → Steps p.tables e below E0 tgt := fun tgt kont => by rw [hE0]; exact castTop (ef_LN m x) kont
  have go1 : Go p e below E0 s₁ m 1 #[(sr x)] [(.ref x)] := fun tgt kont => go0 tgt (by
    refine XS.aloadN X0.here hx rfl (D d9_0) rfl rfl ?_; exact kont)
  obtain ⟨T2, X2, e2, st2⟩ := getF X0 hx hZ hown (host := "") (Or.inl (wd hw 21 rfl)) Via.refl e0 Fv (g := (mkF m 1 #[(sr x)] [(.ref x)])) rfl rfl (D d9_1)
  have go2 : Go p e below E0 T2 m 4 #[(sr x)] [(.ref t)] := fun tgt kont => go1 tgt (st2 tgt kont)
  obtain ⟨c3, Ar3, q3, S3, M3, -, -⟩ := id A0
  have go4 : Go p e below E0 T2 m 6 #[(sr x)] [(.ref x), (.int zl)] := fun tgt kont => go2 tgt (by
    refine X2.arraylength hx (by rw [e2]; exact Ar3.1) (State.isArrayOf_alike hZ.alike Ar3.2.1) (g := (mkF m 4 #[(sr x)] [(.ref t)])) rfl rfl (D d9_4) _ ?_; rw [len_of S3 M3]; refine XS.aloadN X2.here hx rfl (D d9_5) rfl rfl ?_; exact kont)
  obtain ⟨cq5, kq5, q5a, q5b, q5c⟩ := isOf hZ e2 Ex
  obtain ⟨_, _, ⟨T5, L5, k5, n5⟩, -, X5, ⟨Lc5, hQ5, l5, y5, z5⟩, st5⟩ := X2.virtualBack hx (y := (⟨"java/lang/String", "coder", "()B"⟩ : MethodName)) (z := (⟨"java/lang/String", "coder", "()B"⟩ : MethodName)) hown (mvT hZ (wd hw 32 rfl)) (mvT hZ (wd hw 33 rfl)) (notFace_of_selects (args := #[]) (mvT hZ (wd hw 35 rfl))) (mvT hZ (wd hw 35 rfl)) (mvT hZ (wd hw 34 rfl)) (by decide) (backOf (W := 1) (rmCO l Z a0 hw [] x co G fv h0 n0 Z0 Fc hn W0 O0) hZ (wd hw 36 rfl) (wd hw 4 rfl) (by decide) (by decide)) q5a q5c (g := (mkF m 6 #[(sr x)] [(.ref x), (.int zl)])) rfl (by rw [hml]; rfl) (Steps.refl _) (argsL := []) (rest := [(.int zl)]) (lenOf pd_9 rfl) rfl (by show 2 * 0 + _ ≤ _; exact Nat.le_of_eq rfl) (D d9_6) (fun _ _ => ⟨rfl, e2, (by decide : 0 + 0 ≤ _), (by decide : 0 + 0 ≤ _)⟩)
  dsimp only [Pt.U, Pt.locs, Pt.cells, Pt.slots] at X5 l5 y5 z5 st5 hQ5
  subst l5 y5 z5
  obtain ⟨rfl, rfl, e5⟩ := hQ5
  have N5 := Fr.app N0 (Fr.nil n0)
  have go5 : Go p e below E0 T5 m 9 #[(sr x)] [(.int co), (.int zl)] := fun tgt kont => go4 tgt (st5.trans kont)
  have go6 : Go p e below E0 T5 m 10 #[(sr x)] [(.int (zl >>> (co &&& 31)))] := fun tgt kont => go5 tgt (by
    refine XS.ishr X5.here hx rfl (D d9_9) rfl ?_; exact kont)
  obtain ⟨fs, hr, hrun, hended, hW, hsame⟩ := X5.leave (v := some (.int (zl >>> (co &&& 31)))) (fun h => by rw [Bd.returns] at h; cases h)
  refine ⟨_, _, go6 _ ?_, hrun, hended, _, _, rfl, ?_, ⟨_, rfl⟩, hW, hsame.mono (by decide) (by decide)⟩
  · show Steps p.tables e below (T5.setTop (mkF m 10 #[(sr x)] [(.int (zl >>> (co &&& 31)))])) _
    exact retOut X5 hx Bd.returns rfl (Or.inl ⟨rfl, Or.inl rfl, _, rfl⟩) (D d9_10) hr
  · show QLN Z x t kb zl bs co zn G fv h0 n0 _ T5.heap _
    rw [e5]
    exact ⟨by rw [← hz], rfl, rfl⟩
theorem d10_0 : decode jdk_42_method_55_code 0 = .ok (.aload_n 0, 1) := by decide +kernel
theorem d10_1 : decode jdk_42_method_55_code 1 = .ok (.getfield 9, 3) := by decide +kernel
theorem d10_4 : decode jdk_42_method_55_code 4 = .ok (.arraylength, 1) := by decide +kernel
theorem d10_5 : decode jdk_42_method_55_code 5 = .ok (.ifCond .ne 7, 3) := by decide +kernel
theorem d10_12 : decode jdk_42_method_55_code 12 = .ok (.iconst 0, 1) := by decide +kernel
theorem d10_13 : decode jdk_42_method_55_code 13 = .ok (.ireturn, 1) := by decide +kernel
theorem ef_EM0 (m : MethodId) (x0 : Addr) : entryFrame m #[(.ref x0)] 1 = mkF m 0 #[.val (.ref x0)] [] := by first | (simp [entryFrame, mkF, argsToLocals, Value.category, maxLocals]; done) | rfl
def QEM0 (Z : State) (x : Addr) (t : Addr) (kb : ClassId) (zl : Int32) (bs : List Value) (h0 : Heap) (n0 : Nat) (v : Option Value) (h : Heap) (L : List Loc) : Prop := v = some (.int (0 : Int32)) ∧ L = [] ∧ h = h0
abbrev RmEM0 : Room := ({ frames := 0, cells := 0, slots := 0, locals := 0 } : Room)
set_option maxRecDepth 65536 in
set_option maxHeartbeats 40000000 in
theorem rmEM0 (l : Launch) (Z : State) (a0 : Array Value) (hw : ∀ d ∈ tables_1, d.before a0 Z = true) (ws : List Jvm.Cond) (x : Addr) (t : Addr) (kb : ClassId) (zl : Int32) (bs : List Value) (h0 : Heap) (n0 : Nat) (Z0 : n0 ≤ h0.size) (Ex : Exa Z h0 x "java/lang/String") (Fv : Fld Z h0 x "java/lang/String" "value" "[B" (.ref t)) (A0 : Arv Z h0 t kb .byte zl bs (.int (0 : Int32))) (hz : ¬ zl = (0 : Int32)) :
    MetFree l (⟨"java/lang/String", "isEmpty", "()Z"⟩ : MethodName) (head1 (Jvm.Cond.code (⟨"java/lang/String", "isEmpty", "()Z"⟩ : MethodName) jdk_42_method_55_code 1 (some .boolean) :: ws) RmEM0) (fun as_ U => as_ = #[(.ref x)] ∧ Z.Warmed39 U.vm ∧ U.heap = h0) (fun _ _ _ _ _ => True) (fun _ U o U' => ∃ v L, o = .returned v ∧ QEM0 Z x t kb zl bs h0 n0 v U'.heap L ∧ FrameEnd U o U' L RmEM0.cells RmEM0.slots) := by
  refine MetFree.of_bodySF (plainFor_of_name pn_2) hisR ?_
  intro p e s m args below meth c s₁ Bd hml0 hP hK
  obtain ⟨rfl, hZ, hh⟩ := hP
  have hx := Bd.exec
  have hby := Bd.bytes
  have D : ∀ {pc : Nat} {r : Except DecodeError (Instr × Nat)}, decode jdk_42_method_55_code pc = r → decode c.code pc = r := fun q => hb hby q
  have hml : c.maxLocals = 1 := hml0
  have hown : s.vm.findClass "java/lang/String" = some m.cls := findClass_of_methodNamed Bd.named
  have hnm := (name_of_methodNamed Bd.named Bd.method).1
  have X0 : Stand p l e RmEM0 s m #[(.ref x)] below meth c s₁ [] 0 0 := Stand.of_body Bd
  have e0 : s₁.heap = h0 := by rw [← hh, Bd.state]; rfl
  have N0 := Fr.nil n0
  obtain ⟨E0, hE0⟩ : ∃ z, z = s₁.setTop (entryFrame m #[(.ref x)] 1) := ⟨_, rfl⟩
  rw [← hE0]
  have go0 : ∀ tgt, Steps p.tables e below (s₁.setTop (mkF m 0 #[(sr x)] [])) tgt → Steps p.tables e below E0 tgt := fun tgt kont => by rw [hE0]; exact castTop (ef_EM0 m x) kont
  have go1 : Go p e below E0 s₁ m 1 #[(sr x)] [(.ref x)] := fun tgt kont => go0 tgt (by
    refine XS.aloadN X0.here hx rfl (D d10_0) rfl rfl ?_; exact kont)
  obtain ⟨T2, X2, e2, st2⟩ := getF X0 hx hZ hown (host := "") (Or.inl (wd hw 21 rfl)) Via.refl e0 Fv (g := (mkF m 1 #[(sr x)] [(.ref x)])) rfl rfl (D d10_1)
  have go2 : Go p e below E0 T2 m 4 #[(sr x)] [(.ref t)] := fun tgt kont => go1 tgt (st2 tgt kont)
  obtain ⟨c3, Ar3, q3, S3, M3, -, -⟩ := id A0
  have go4 : Go p e below E0 T2 m 13 #[(sr x)] [(.int 0)] := fun tgt kont => go2 tgt (by
    refine X2.arraylength hx (by rw [e2]; exact Ar3.1) (State.isArrayOf_alike hZ.alike Ar3.2.1) (g := (mkF m 4 #[(sr x)] [(.ref t)])) rfl rfl (D d10_4) _ ?_; rw [len_of S3 M3]; refine XS.ifYes X2.here hx rfl (pc0 := 5) (pc' := 12) rfl (D d10_5) rfl ((if0 _ _).trans (feq hz).2) (by decide) (by decide) ?_; refine XS.iconst X2.here hx rfl (D d10_12) ?_; exact kont)
  obtain ⟨fs, hr, hrun, hended, hW, hsame⟩ := X2.leave (v := some (.int (0 : Int32))) (fun h => by rw [Bd.returns] at h; cases h)
  refine ⟨_, _, go4 _ ?_, hrun, hended, _, _, rfl, ?_, ⟨_, rfl⟩, hW, hsame.mono (by decide) (by decide)⟩
  · show Steps p.tables e below (T2.setTop (mkF m 13 #[(sr x)] [(.int 0)])) _
    exact retN X2 hx (t := .boolean) Bd.returns (by simp) (D d10_13) hr
  · show QEM0 Z x t kb zl bs h0 n0 _ T2.heap _
    rw [e2]
    exact ⟨rfl, rfl, rfl⟩
theorem d10_8 : decode jdk_42_method_55_code 8 = .ok (.iconst 1, 1) := by decide +kernel
theorem d10_9 : decode jdk_42_method_55_code 9 = .ok (.goto 4, 3) := by decide +kernel
theorem ef_EM1 (m : MethodId) (x0 : Addr) : entryFrame m #[(.ref x0)] 1 = mkF m 0 #[.val (.ref x0)] [] := by first | (simp [entryFrame, mkF, argsToLocals, Value.category, maxLocals]; done) | rfl
def QEM1 (Z : State) (x : Addr) (t : Addr) (kb : ClassId) (zl : Int32) (bs : List Value) (h0 : Heap) (n0 : Nat) (v : Option Value) (h : Heap) (L : List Loc) : Prop := v = some (.int (1 : Int32)) ∧ L = [] ∧ h = h0
abbrev RmEM1 : Room := ({ frames := 0, cells := 0, slots := 0, locals := 0 } : Room)
set_option maxRecDepth 65536 in
set_option maxHeartbeats 40000000 in
theorem rmEM1 (l : Launch) (Z : State) (a0 : Array Value) (hw : ∀ d ∈ tables_1, d.before a0 Z = true) (ws : List Jvm.Cond) (x : Addr) (t : Addr) (kb : ClassId) (zl : Int32) (bs : List Value) (h0 : Heap) (n0 : Nat) (Z0 : n0 ≤ h0.size) (Ex : Exa Z h0 x "java/lang/String") (Fv : Fld Z h0 x "java/lang/String" "value" "[B" (.ref t)) (A0 : Arv Z h0 t kb .byte zl bs (.int (0 : Int32))) (hz : zl = (0 : Int32)) :
    MetFree l (⟨"java/lang/String", "isEmpty", "()Z"⟩ : MethodName) (head1 (Jvm.Cond.code (⟨"java/lang/String", "isEmpty", "()Z"⟩ : MethodName) jdk_42_method_55_code 1 (some .boolean) :: ws) RmEM1) (fun as_ U => as_ = #[(.ref x)] ∧ Z.Warmed39 U.vm ∧ U.heap = h0) (fun _ _ _ _ _ => True) (fun _ U o U' => ∃ v L, o = .returned v ∧ QEM1 Z x t kb zl bs h0 n0 v U'.heap L ∧ FrameEnd U o U' L RmEM1.cells RmEM1.slots) := by
  refine MetFree.of_bodySF (plainFor_of_name pn_2) hisR ?_
  intro p e s m args below meth c s₁ Bd hml0 hP hK
  obtain ⟨rfl, hZ, hh⟩ := hP
  have hx := Bd.exec
  have hby := Bd.bytes
  have D : ∀ {pc : Nat} {r : Except DecodeError (Instr × Nat)}, decode jdk_42_method_55_code pc = r → decode c.code pc = r := fun q => hb hby q
  have hml : c.maxLocals = 1 := hml0
  have hown : s.vm.findClass "java/lang/String" = some m.cls := findClass_of_methodNamed Bd.named
  have hnm := (name_of_methodNamed Bd.named Bd.method).1
  have X0 : Stand p l e RmEM1 s m #[(.ref x)] below meth c s₁ [] 0 0 := Stand.of_body Bd
  have e0 : s₁.heap = h0 := by rw [← hh, Bd.state]; rfl
  have N0 := Fr.nil n0
  obtain ⟨E0, hE0⟩ : ∃ z, z = s₁.setTop (entryFrame m #[(.ref x)] 1) := ⟨_, rfl⟩
  rw [← hE0]
  have go0 : ∀ tgt, Steps p.tables e below (s₁.setTop (mkF m 0 #[(sr x)] [])) tgt → Steps p.tables e below E0 tgt := fun tgt kont => by rw [hE0]; exact castTop (ef_EM1 m x) kont
  have go1 : Go p e below E0 s₁ m 1 #[(sr x)] [(.ref x)] := fun tgt kont => go0 tgt (by
    refine XS.aloadN X0.here hx rfl (D d10_0) rfl rfl ?_; exact kont)
  obtain ⟨T2, X2, e2, st2⟩ := getF X0 hx hZ hown (host := "") (Or.inl (wd hw 21 rfl)) Via.refl e0 Fv (g := (mkF m 1 #[(sr x)] [(.ref x)])) rfl rfl (D d10_1)
  have go2 : Go p e below E0 T2 m 4 #[(sr x)] [(.ref t)] := fun tgt kont => go1 tgt (st2 tgt kont)
  obtain ⟨c3, Ar3, q3, S3, M3, -, -⟩ := id A0
  have go4 : Go p e below E0 T2 m 13 #[(sr x)] [(.int 1)] := fun tgt kont => go2 tgt (by
    refine X2.arraylength hx (by rw [e2]; exact Ar3.1) (State.isArrayOf_alike hZ.alike Ar3.2.1) (g := (mkF m 4 #[(sr x)] [(.ref t)])) rfl rfl (D d10_4) _ ?_; rw [len_of S3 M3]; refine XS.ifNo X2.here hx rfl (D d10_5) rfl ((if0 _ _).trans (teq hz).2) ?_; refine XS.iconst X2.here hx rfl (D d10_8) ?_; refine XS.goto X2.here hx rfl (pc0 := 9) (pc' := 13) rfl (D d10_9) (by decide) (by decide) ?_; exact kont)
  obtain ⟨fs, hr, hrun, hended, hW, hsame⟩ := X2.leave (v := some (.int (1 : Int32))) (fun h => by rw [Bd.returns] at h; cases h)
  refine ⟨_, _, go4 _ ?_, hrun, hended, _, _, rfl, ?_, ⟨_, rfl⟩, hW, hsame.mono (by decide) (by decide)⟩
  · show Steps p.tables e below (T2.setTop (mkF m 13 #[(sr x)] [(.int 1)])) _
    exact retN X2 hx (t := .boolean) Bd.returns (by simp) (D d10_13) hr
  · show QEM1 Z x t kb zl bs h0 n0 _ T2.heap _
    rw [e2]
    exact ⟨rfl, rfl, rfl⟩
theorem pd_10 : parseMethodDescriptor "()Z" = some ⟨[], some .boolean⟩ := by decide +kernel
theorem d11_0 : decode jdk_42_method_56_code 0 = .ok (.aload_n 0, 1) := by decide +kernel
theorem d11_1 : decode jdk_42_method_56_code 1 = .ok (.invokevirtual 492, 3) := by decide +kernel
theorem d11_4 : decode jdk_42_method_56_code 4 = .ok (.ifCond .eq 12, 3) := by decide +kernel
theorem d11_16 : decode jdk_42_method_56_code 16 = .ok (.aload_n 0, 1) := by decide +kernel
theorem d11_17 : decode jdk_42_method_56_code 17 = .ok (.getfield 9, 3) := by decide +kernel
theorem d11_20 : decode jdk_42_method_56_code 20 = .ok (.iload_n 1, 1) := by decide +kernel
theorem d11_21 : decode jdk_42_method_56_code 21 = .ok (.invokestatic 498, 3) := by decide +kernel
theorem d11_24 : decode jdk_42_method_56_code 24 = .ok (.ireturn, 1) := by decide +kernel
theorem ef_CB (m : MethodId) (x0 : Addr) (x1 : Int32) : entryFrame m #[(.ref x0), (.int x1)] 2 = mkF m 0 #[.val (.ref x0), .val (.int x1)] [] := by first | (simp [entryFrame, mkF, argsToLocals, Value.category, maxLocals]; done) | rfl
def QCB (Z : State) (x : Addr) (t : Addr) (kb : ClassId) (zl : Int32) (bs : List Value) (zn : Int32) (i : Int32) (q0 : Int32) (q1 : Int32) (ch : Int32) (G : Int32) (fv : Value) (h0 : Heap) (n0 : Nat) (v : Option Value) (h : Heap) (L : List Loc) : Prop := v = some (.int ch) ∧ L = [] ∧ h = h0
abbrev RmCB : Room := ({ frames := 4, cells := 0, slots := 0, locals := 53 } : Room)
set_option maxRecDepth 65536 in
set_option maxHeartbeats 40000000 in
theorem rmCB (l : Launch) (Z : State) (a0 : Array Value) (hw : ∀ d ∈ tables_1, d.before a0 Z = true) (ws : List Jvm.Cond) (x : Addr) (t : Addr) (kb : ClassId) (zl : Int32) (bs : List Value) (zn : Int32) (i : Int32) (q0 : Int32) (q1 : Int32) (ch : Int32) (G : Int32) (fv : Value) (h0 : Heap) (n0 : Nat) (Z0 : n0 ≤ h0.size) (Ex : Exa Z h0 x "java/lang/String") (Fv : Fld Z h0 x "java/lang/String" "value" "[B" (.ref t)) (Fc : Fld Z h0 x "java/lang/String" "coder" "B" (.int (1 : Int32))) (A0 : Arv Z h0 t kb .byte zl bs (.int (0 : Int32))) (j0 : ¬ (i <<< ((1 : Int32) &&& 31)) < 0 ∧ (i <<< ((1 : Int32) &&& 31)) < zl) (t0 : bs.getD (i <<< ((1 : Int32) &&& 31)).toNatClampNeg (.int (0 : Int32)) = .int q0) (j1 : ¬ ((i <<< ((1 : Int32) &&& 31)) + (1 : Int32)) < 0 ∧ ((i <<< ((1 : Int32) &&& 31)) + (1 : Int32)) < zl) (t1 : bs.getD ((i <<< ((1 : Int32) &&& 31)) + (1 : Int32)).toNatClampNeg (.int (0 : Int32)) = .int q1) (hc : nar .char ((((q0 &&& (255 : Int32)) <<< ((0 : Int32) &&& 31)) ||| ((q1 &&& (255 : Int32)) <<< ((8 : Int32) &&& 31))).toUInt32.toUInt16.toUInt32.toInt32) = ch) (hz : (zl >>> ((1 : Int32) &&& 31)) = zn) (h1 : ¬ i < 0) (h2 : i < zn) (hn : nar .char ch = ch) (W0 : own_W Z G fv) (O0 : Old Z n0 h0) :
    MetFree l (⟨"java/lang/String", "charAt", "(I)C"⟩ : MethodName) (head1 (Jvm.Cond.code (⟨"java/lang/String", "charAt", "(I)C"⟩ : MethodName) jdk_42_method_56_code 2 (some .char) :: ws) RmCB) (fun as_ U => as_ = #[(.ref x), (.int i)] ∧ Z.Warmed39 U.vm ∧ U.heap = h0) (fun _ _ _ _ _ => True) (fun _ U o U' => ∃ v L, o = .returned v ∧ QCB Z x t kb zl bs zn i q0 q1 ch G fv h0 n0 v U'.heap L ∧ FrameEnd U o U' L RmCB.cells RmCB.slots) := by
  refine MetFree.of_bodySF (plainFor_of_name pn_2) hisR ?_
  intro p e s m args below meth c s₁ Bd hml0 hP hK
  obtain ⟨rfl, hZ, hh⟩ := hP
  have hx := Bd.exec
  have hby := Bd.bytes
  have D : ∀ {pc : Nat} {r : Except DecodeError (Instr × Nat)}, decode jdk_42_method_56_code pc = r → decode c.code pc = r := fun q => hb hby q
  have hml : c.maxLocals = 2 := hml0
  have hown : s.vm.findClass "java/lang/String" = some m.cls := findClass_of_methodNamed Bd.named
  have hnm := (name_of_methodNamed Bd.named Bd.method).1
  have X0 : Stand p l e RmCB s m #[(.ref x), (.int i)] below meth c s₁ [] 0 0 := Stand.of_body Bd
  have e0 : s₁.heap = h0 := by rw [← hh, Bd.state]; rfl
  have N0 := Fr.nil n0
  obtain ⟨E0, hE0⟩ : ∃ z, z = s₁.setTop (entryFrame m #[(.ref x), (.int i)] 2) := ⟨_, rfl⟩
  rw [← hE0]
  have go0 : ∀ tgt, Steps p.tables e below (s₁.setTop (mkF m 0 #[(sr x), (si i)] [])) tgt → Steps p.tables e below E0 tgt := fun tgt kont => by rw [hE0]; exact castTop (ef_CB m x i) kont
  have go1 : Go p e below E0 s₁ m 1 #[(sr x), (si i)] [(.ref x)] := fun tgt kont => go0 tgt (by
    refine XS.aloadN X0.here hx rfl (D d11_0) rfl rfl ?_; exact kont)
  obtain ⟨cq2, kq2, q2a, q2b, q2c⟩ := isOf hZ e0 Ex
  obtain ⟨_, _, ⟨T2, L2, k2, n2⟩, -, X2, ⟨Lc2, hQ2, l2, y2, z2⟩, st2⟩ := X0.virtualBack hx (y := (⟨"java/lang/String", "isLatin1", "()Z"⟩ : MethodName)) (z := (⟨"java/lang/String", "isLatin1", "()Z"⟩ : MethodName)) hown (mvT hZ (wd hw 62 rfl)) (mvT hZ (wd hw 63 rfl)) (notFace_of_selects (args := #[]) (mvT hZ (wd hw 65 rfl))) (mvT hZ (wd hw 65 rfl)) (mvT hZ (wd hw 64 rfl)) (by decide) (backOf (W := 0) (rmIL1 l Z a0 hw [] x G fv h0 n0 Z0 Fc W0 O0) hZ (wd hw 66 rfl) (wd hw 4 rfl) (by decide) (by decide)) q2a q2c (g := (mkF m 1 #[(sr x), (si i)] [(.ref x)])) rfl (by rw [hml]; rfl) (Steps.refl _) (argsL := []) (rest := []) (lenOf pd_10 rfl) rfl (by show 2 * 0 + _ ≤ _; exact Nat.le_of_eq rfl) (D d11_1) (fun _ _ => ⟨rfl, e0, (by decide : 0 + 0 ≤ _), (by decide : 0 + 0 ≤ _)⟩)
  dsimp only [Pt.U, Pt.locs, Pt.cells, Pt.slots] at X2 l2 y2 z2 st2 hQ2
  subst l2 y2 z2
  obtain ⟨rfl, rfl, e2⟩ := hQ2
  have N2 := Fr.app N0 (Fr.nil n0)
  have go2 : Go p e below E0 T2 m 4 #[(sr x), (si i)] [(.int 0)] := fun tgt kont => go1 tgt (st2.trans kont)
  have go3 : Go p e below E0 T2 m 17 #[(sr x), (si i)] [(.ref x)] := fun tgt kont => go2 tgt (by
    refine XS.ifYes X2.here hx rfl (pc0 := 4) (pc' := 16) rfl (D d11_4) rfl ((if0 _ _).trans (teq rfl).1) (by decide) (by decide) ?_; refine XS.aloadN X2.here hx rfl (D d11_16) rfl rfl ?_; exact kont)
  obtain ⟨T4, X4, e4, st4⟩ := getF X2 hx hZ hown (host := "") (Or.inl (wd hw 21 rfl)) Via.refl e2 Fv (g := (mkF m 17 #[(sr x), (si i)] [(.ref x)])) rfl rfl (D d11_17)
  have go4 : Go p e below E0 T4 m 20 #[(sr x), (si i)] [(.ref t)] := fun tgt kont => go3 tgt (st4 tgt kont)
  have go5 : Go p e below E0 T4 m 21 #[(sr x), (si i)] [(.int i), (.ref t)] := fun tgt kont => go4 tgt (by
    refine XS.iloadN X4.here hx rfl (D d11_20) rfl ?_; exact kont)
  obtain ⟨_, _, ⟨T6, L6, k6, n6⟩, -, X6, ⟨Lc6, hQ6, l6, y6, z6⟩, st6⟩ := Jvm.LawKit.callS X4 hx (y := (⟨"java/lang/StringUTF16", "charAt", "([BI)C"⟩ : MethodName)) hown (mvT hZ (wd hw 126 rfl)) (mvT hZ (wd hw 127 rfl)) (mvT hZ (wd hw 45 rfl)) (mvT hZ (wd hw 128 rfl)) (by decide) (backOf (W := 0) (rmUA l Z a0 hw [] t kb zl bs zn i q0 q1 ch G fv h0 n0 Z0 A0 j0 t0 j1 t1 hc hz h1 h2 hn W0 O0) hZ (wd hw 128 rfl) (wd hw 45 rfl) (by decide) (by decide)) (g := (mkF m 21 #[(sr x), (si i)] [(.int i), (.ref t)])) rfl (by rw [hml]; rfl) (argsL := [(.ref t), (.int i)]) (rest := []) (lenOf pd_8 rfl) rfl (by show 2 * 0 + _ ≤ _; exact Nat.le_of_eq rfl) (D d11_21) (fun _ _ => ⟨rfl, e4, (by decide : 0 + 0 ≤ _), (by decide : 0 + 0 ≤ _)⟩)
  dsimp only [Pt.U, Pt.locs, Pt.cells, Pt.slots] at X6 l6 y6 z6 st6 hQ6
  subst l6 y6 z6
  obtain ⟨rfl, rfl, e6⟩ := hQ6
  have N6 := Fr.app N2 (Fr.nil n0)
  have go6 : Go p e below E0 T6 m 24 #[(sr x), (si i)] [(.int ch)] := fun tgt kont => go5 tgt (st6 tgt kont)
  obtain ⟨fs, hr, hrun, hended, hW, hsame⟩ := X6.leave (v := some (.int (nar .char ch))) (fun h => by rw [Bd.returns] at h; cases h)
  refine ⟨_, _, go6 _ ?_, hrun, hended, _, _, rfl, ?_, ⟨_, rfl⟩, hW, hsame.mono (by decide) (by decide)⟩
  · show Steps p.tables e below (T6.setTop (mkF m 24 #[(sr x), (si i)] [(.int ch)])) _
    exact retN X6 hx (t := .char) Bd.returns (by simp) (D d11_24) hr
  · show QCB Z x t kb zl bs zn i q0 q1 ch G fv h0 n0 _ T6.heap _
    rw [e6]
    exact ⟨by rw [hn], rfl, rfl⟩
theorem d11_7 : decode jdk_42_method_56_code 7 = .ok (.aload_n 0, 1) := by decide +kernel
theorem d11_8 : decode jdk_42_method_56_code 8 = .ok (.getfield 9, 3) := by decide +kernel
theorem d11_11 : decode jdk_42_method_56_code 11 = .ok (.iload_n 1, 1) := by decide +kernel
theorem d11_12 : decode jdk_42_method_56_code 12 = .ok (.invokestatic 495, 3) := by decide +kernel
theorem d11_15 : decode jdk_42_method_56_code 15 = .ok (.ireturn, 1) := by decide +kernel
theorem ef_CA (m : MethodId) (x0 : Addr) (x1 : Int32) : entryFrame m #[(.ref x0), (.int x1)] 2 = mkF m 0 #[.val (.ref x0), .val (.int x1)] [] := by first | (simp [entryFrame, mkF, argsToLocals, Value.category, maxLocals]; done) | rfl
def QCA (Z : State) (x : Addr) (t : Addr) (kb : ClassId) (zl : Int32) (bs : List Value) (i : Int32) (b : Int32) (ch : Int32) (G : Int32) (fv : Value) (h0 : Heap) (n0 : Nat) (v : Option Value) (h : Heap) (L : List Loc) : Prop := v = some (.int ch) ∧ L = [] ∧ h = h0
abbrev RmCA : Room := ({ frames := 4, cells := 0, slots := 0, locals := 53 } : Room)
set_option maxRecDepth 65536 in
set_option maxHeartbeats 40000000 in
theorem rmCA (l : Launch) (Z : State) (a0 : Array Value) (hw : ∀ d ∈ tables_1, d.before a0 Z = true) (ws : List Jvm.Cond) (x : Addr) (t : Addr) (kb : ClassId) (zl : Int32) (bs : List Value) (i : Int32) (b : Int32) (ch : Int32) (G : Int32) (fv : Value) (h0 : Heap) (n0 : Nat) (Z0 : n0 ≤ h0.size) (Ex : Exa Z h0 x "java/lang/String") (Fv : Fld Z h0 x "java/lang/String" "value" "[B" (.ref t)) (Fc : Fld Z h0 x "java/lang/String" "coder" "B" (.int (0 : Int32))) (A0 : Arv Z h0 t kb .byte zl bs (.int (0 : Int32))) (h1 : ¬ i < 0) (h2 : i < zl) (hb_ : bs.getD i.toNatClampNeg (.int (0 : Int32)) = .int b) (hc : nar .char ((b &&& (255 : Int32)).toUInt32.toUInt16.toUInt32.toInt32) = ch) (hn : nar .char ch = ch) (W0 : own_W Z G fv) (O0 : Old Z n0 h0) :
    MetFree l (⟨"java/lang/String", "charAt", "(I)C"⟩ : MethodName) (head1 (Jvm.Cond.code (⟨"java/lang/String", "charAt", "(I)C"⟩ : MethodName) jdk_42_method_56_code 2 (some .char) :: ws) RmCA) (fun as_ U => as_ = #[(.ref x), (.int i)] ∧ Z.Warmed39 U.vm ∧ U.heap = h0) (fun _ _ _ _ _ => True) (fun _ U o U' => ∃ v L, o = .returned v ∧ QCA Z x t kb zl bs i b ch G fv h0 n0 v U'.heap L ∧ FrameEnd U o U' L RmCA.cells RmCA.slots) := by
  refine MetFree.of_bodySF (plainFor_of_name pn_2) hisR ?_
  intro p e s m args below meth c s₁ Bd hml0 hP hK
  obtain ⟨rfl, hZ, hh⟩ := hP
  have hx := Bd.exec
  have hby := Bd.bytes
  have D : ∀ {pc : Nat} {r : Except DecodeError (Instr × Nat)}, decode jdk_42_method_56_code pc = r → decode c.code pc = r := fun q => hb hby q
  have hml : c.maxLocals = 2 := hml0
  have hown : s.vm.findClass "java/lang/String" = some m.cls := findClass_of_methodNamed Bd.named
  have hnm := (name_of_methodNamed Bd.named Bd.method).1
  have X0 : Stand p l e RmCA s m #[(.ref x), (.int i)] below meth c s₁ [] 0 0 := Stand.of_body Bd
  have e0 : s₁.heap = h0 := by rw [← hh, Bd.state]; rfl
  have N0 := Fr.nil n0
  obtain ⟨E0, hE0⟩ : ∃ z, z = s₁.setTop (entryFrame m #[(.ref x), (.int i)] 2) := ⟨_, rfl⟩
  rw [← hE0]
  have go0 : ∀ tgt, Steps p.tables e below (s₁.setTop (mkF m 0 #[(sr x), (si i)] [])) tgt → Steps p.tables e below E0 tgt := fun tgt kont => by rw [hE0]; exact castTop (ef_CA m x i) kont
  have go1 : Go p e below E0 s₁ m 1 #[(sr x), (si i)] [(.ref x)] := fun tgt kont => go0 tgt (by
    refine XS.aloadN X0.here hx rfl (D d11_0) rfl rfl ?_; exact kont)
  obtain ⟨cq2, kq2, q2a, q2b, q2c⟩ := isOf hZ e0 Ex
  obtain ⟨_, _, ⟨T2, L2, k2, n2⟩, -, X2, ⟨Lc2, hQ2, l2, y2, z2⟩, st2⟩ := X0.virtualBack hx (y := (⟨"java/lang/String", "isLatin1", "()Z"⟩ : MethodName)) (z := (⟨"java/lang/String", "isLatin1", "()Z"⟩ : MethodName)) hown (mvT hZ (wd hw 62 rfl)) (mvT hZ (wd hw 63 rfl)) (notFace_of_selects (args := #[]) (mvT hZ (wd hw 65 rfl))) (mvT hZ (wd hw 65 rfl)) (mvT hZ (wd hw 64 rfl)) (by decide) (backOf (W := 0) (rmIL0 l Z a0 hw [] x G fv h0 n0 Z0 Fc W0 O0) hZ (wd hw 66 rfl) (wd hw 4 rfl) (by decide) (by decide)) q2a q2c (g := (mkF m 1 #[(sr x), (si i)] [(.ref x)])) rfl (by rw [hml]; rfl) (Steps.refl _) (argsL := []) (rest := []) (lenOf pd_10 rfl) rfl (by show 2 * 0 + _ ≤ _; exact Nat.le_of_eq rfl) (D d11_1) (fun _ _ => ⟨rfl, e0, (by decide : 0 + 0 ≤ _), (by decide : 0 + 0 ≤ _)⟩)
  dsimp only [Pt.U, Pt.locs, Pt.cells, Pt.slots] at X2 l2 y2 z2 st2 hQ2
  subst l2 y2 z2
  obtain ⟨rfl, rfl, e2⟩ := hQ2
  have N2 := Fr.app N0 (Fr.nil n0)
  have go2 : Go p e below E0 T2 m 4 #[(sr x), (si i)] [(.int 1)] := fun tgt kont => go1 tgt (st2.trans kont)
  have go3 : Go p e below E0 T2 m 8 #[(sr x), (si i)] [(.ref x)] := fun tgt kont => go2 tgt (by
    refine XS.ifNo X2.here hx rfl (D d11_4) rfl ((if0 _ _).trans (feq (by decide)).1) ?_; refine XS.aloadN X2.here hx rfl (D d11_7) rfl rfl ?_; exact kont)
  obtain ⟨T4, X4, e4, st4⟩ := getF X2 hx hZ hown (host := "") (Or.inl (wd hw 21 rfl)) Via.refl e2 Fv (g := (mkF m 8 #[(sr x), (si i)] [(.ref x)])) rfl rfl (D d11_8)
  have go4 : Go p e below E0 T4 m 11 #[(sr x), (si i)] [(.ref t)] := fun tgt kont => go3 tgt (st4 tgt kont)
  have go5 : Go p e below E0 T4 m 12 #[(sr x), (si i)] [(.int i), (.ref t)] := fun tgt kont => go4 tgt (by
    refine XS.iloadN X4.here hx rfl (D d11_11) rfl ?_; exact kont)
  obtain ⟨_, _, ⟨T6, L6, k6, n6⟩, -, X6, ⟨Lc6, hQ6, l6, y6, z6⟩, st6⟩ := Jvm.LawKit.callS X4 hx (y := (⟨"java/lang/StringLatin1", "charAt", "([BI)C"⟩ : MethodName)) hown (mvT hZ (wd hw 67 rfl)) (mvT hZ (wd hw 68 rfl)) (mvT hZ (wd hw 69 rfl)) (mvT hZ (wd hw 70 rfl)) (by decide) (backOf (W := 0) (rmLC l Z a0 hw [] t kb zl bs i b ch G fv h0 n0 Z0 A0 h1 h2 hb_ hc W0 O0) hZ (wd hw 70 rfl) (wd hw 69 rfl) (by decide) (by decide)) (g := (mkF m 12 #[(sr x), (si i)] [(.int i), (.ref t)])) rfl (by rw [hml]; rfl) (argsL := [(.ref t), (.int i)]) (rest := []) (lenOf pd_8 rfl) rfl (by show 2 * 0 + _ ≤ _; exact Nat.le_of_eq rfl) (D d11_12) (fun _ _ => ⟨rfl, e4, (by decide : 0 + 0 ≤ _), (by decide : 0 + 0 ≤ _)⟩)
  dsimp only [Pt.U, Pt.locs, Pt.cells, Pt.slots] at X6 l6 y6 z6 st6 hQ6
  subst l6 y6 z6
  obtain ⟨rfl, rfl, e6⟩ := hQ6
  have N6 := Fr.app N2 (Fr.nil n0)
  have go6 : Go p e below E0 T6 m 15 #[(sr x), (si i)] [(.int ch)] := fun tgt kont => go5 tgt (st6 tgt kont)
  obtain ⟨fs, hr, hrun, hended, hW, hsame⟩ := X6.leave (v := some (.int (nar .char ch))) (fun h => by rw [Bd.returns] at h; cases h)
  refine ⟨_, _, go6 _ ?_, hrun, hended, _, _, rfl, ?_, ⟨_, rfl⟩, hW, hsame.mono (by decide) (by decide)⟩
  · show Steps p.tables e below (T6.setTop (mkF m 15 #[(sr x), (si i)] [(.int ch)])) _
    exact retN X6 hx (t := .char) Bd.returns (by simp) (D d11_15) hr
  · show QCA Z x t kb zl bs i b ch G fv h0 n0 _ T6.heap _
    rw [e6]
    exact ⟨by rw [hn], rfl, rfl⟩
def QE0 (Z : State) (x : Addr) (G : Int32) (fv : Value) (h0 : Heap) (n0 : Nat) (v : Option Value) (h : Heap) (L : List Loc) : Prop := v = some (.int (0 : Int32)) ∧ L = [] ∧ h = h0
theorem rmE0 (l : Launch) (Z : State) (a0 : Array Value) (hw : ∀ d ∈ tables_1, d.before a0 Z = true) (ws : List Jvm.Cond) (x : Addr) (G : Int32) (fv : Value) (h0 : Heap) (n0 : Nat) (Z0 : n0 ≤ h0.size) (S0 : own_S0 Z h0 x) (W0 : own_W Z G fv) (O0 : Old Z n0 h0) :
    MetFree l (⟨"java/lang/String", "length", "()I"⟩ : MethodName) (head1 (Jvm.Cond.code (⟨"java/lang/String", "length", "()I"⟩ : MethodName) jdk_42_method_54_code 1 (some .int) :: ws) ({ frames := 1, cells := 0, slots := 0, locals := 13 } : Room)) (fun as_ U => as_ = #[(.ref x)] ∧ Z.Warmed39 U.vm ∧ U.heap = h0) (fun _ _ _ _ _ => True) (fun _ U o U' => ∃ v L, o = .returned v ∧ QE0 Z x G fv h0 n0 v U'.heap L ∧ FrameEnd U o U' L ({ frames := 1, cells := 0, slots := 0, locals := 13 } : Room).cells ({ frames := 1, cells := 0, slots := 0, locals := 13 } : Room).slots) := by
  obtain ⟨t, kb, Ex, Fv, ⟨Fc, A, -⟩ | ⟨Fc, A⟩⟩ := S0
  · exact rmLN l Z a0 hw ws x t kb (0 : Int32) _ (0 : Int32) (0 : Int32) G fv h0 n0 Z0 Ex Fv Fc (by decide) A (by decide) W0 O0
  · exact rmLN l Z a0 hw ws x t kb (0 : Int32) _ (1 : Int32) (0 : Int32) G fv h0 n0 Z0 Ex Fv Fc (by decide) A (by decide) W0 O0
def QM0 (Z : State) (x : Addr) (G : Int32) (fv : Value) (h0 : Heap) (n0 : Nat) (v : Option Value) (h : Heap) (L : List Loc) : Prop := v = some (.int (1 : Int32)) ∧ L = [] ∧ h = h0
theorem rmM0 (l : Launch) (Z : State) (a0 : Array Value) (hw : ∀ d ∈ tables_1, d.before a0 Z = true) (ws : List Jvm.Cond) (x : Addr) (G : Int32) (fv : Value) (h0 : Heap) (n0 : Nat) (Z0 : n0 ≤ h0.size) (S0 : own_S0 Z h0 x) (W0 : own_W Z G fv) (O0 : Old Z n0 h0) :
    MetFree l (⟨"java/lang/String", "isEmpty", "()Z"⟩ : MethodName) (head1 (Jvm.Cond.code (⟨"java/lang/String", "isEmpty", "()Z"⟩ : MethodName) jdk_42_method_55_code 1 (some .boolean) :: ws) ({ frames := 0, cells := 0, slots := 0, locals := 0 } : Room)) (fun as_ U => as_ = #[(.ref x)] ∧ Z.Warmed39 U.vm ∧ U.heap = h0) (fun _ _ _ _ _ => True) (fun _ U o U' => ∃ v L, o = .returned v ∧ QM0 Z x G fv h0 n0 v U'.heap L ∧ FrameEnd U o U' L ({ frames := 0, cells := 0, slots := 0, locals := 0 } : Room).cells ({ frames := 0, cells := 0, slots := 0, locals := 0 } : Room).slots) := by
  obtain ⟨t, kb, Ex, Fv, ⟨Fc, A, -⟩ | ⟨Fc, A⟩⟩ := S0
  · exact rmEM1 l Z a0 hw ws x t kb (0 : Int32) _ h0 n0 Z0 Ex Fv A (by decide)
  · exact rmEM1 l Z a0 hw ws x t kb (0 : Int32) _ h0 n0 Z0 Ex Fv A (by decide)
def QE1 (Z : State) (x : Addr) (ch0 : Int32) (G : Int32) (fv : Value) (h0 : Heap) (n0 : Nat) (v : Option Value) (h : Heap) (L : List Loc) : Prop := v = some (.int (1 : Int32)) ∧ L = [] ∧ h = h0
theorem rmE1 (l : Launch) (Z : State) (a0 : Array Value) (hw : ∀ d ∈ tables_1, d.before a0 Z = true) (ws : List Jvm.Cond) (x : Addr) (ch0 : Int32) (G : Int32) (fv : Value) (h0 : Heap) (n0 : Nat) (Z0 : n0 ≤ h0.size) (S0 : own_S1 Z h0 x ch0) (kch0 : own_ch ch0) (W0 : own_W Z G fv) (O0 : Old Z n0 h0) :
    MetFree l (⟨"java/lang/String", "length", "()I"⟩ : MethodName) (head1 (Jvm.Cond.code (⟨"java/lang/String", "length", "()I"⟩ : MethodName) jdk_42_method_54_code 1 (some .int) :: ws) ({ frames := 1, cells := 0, slots := 0, locals := 13 } : Room)) (fun as_ U => as_ = #[(.ref x)] ∧ Z.Warmed39 U.vm ∧ U.heap = h0) (fun _ _ _ _ _ => True) (fun _ U o U' => ∃ v L, o = .returned v ∧ QE1 Z x ch0 G fv h0 n0 v U'.heap L ∧ FrameEnd U o U' L ({ frames := 1, cells := 0, slots := 0, locals := 13 } : Room).cells ({ frames := 1, cells := 0, slots := 0, locals := 13 } : Room).slots) := by
  obtain ⟨t, kb, Ex, Fv, ⟨Fc, A, -⟩ | ⟨Fc, A⟩⟩ := S0
  · exact rmLN l Z a0 hw ws x t kb (1 : Int32) _ (0 : Int32) (1 : Int32) G fv h0 n0 Z0 Ex Fv Fc (by decide) A (by decide) W0 O0
  · exact rmLN l Z a0 hw ws x t kb (2 : Int32) _ (1 : Int32) (1 : Int32) G fv h0 n0 Z0 Ex Fv Fc (by decide) A (by decide) W0 O0
def QM1 (Z : State) (x : Addr) (ch0 : Int32) (G : Int32) (fv : Value) (h0 : Heap) (n0 : Nat) (v : Option Value) (h : Heap) (L : List Loc) : Prop := v = some (.int (0 : Int32)) ∧ L = [] ∧ h = h0
theorem rmM1 (l : Launch) (Z : State) (a0 : Array Value) (hw : ∀ d ∈ tables_1, d.before a0 Z = true) (ws : List Jvm.Cond) (x : Addr) (ch0 : Int32) (G : Int32) (fv : Value) (h0 : Heap) (n0 : Nat) (Z0 : n0 ≤ h0.size) (S0 : own_S1 Z h0 x ch0) (kch0 : own_ch ch0) (W0 : own_W Z G fv) (O0 : Old Z n0 h0) :
    MetFree l (⟨"java/lang/String", "isEmpty", "()Z"⟩ : MethodName) (head1 (Jvm.Cond.code (⟨"java/lang/String", "isEmpty", "()Z"⟩ : MethodName) jdk_42_method_55_code 1 (some .boolean) :: ws) ({ frames := 0, cells := 0, slots := 0, locals := 0 } : Room)) (fun as_ U => as_ = #[(.ref x)] ∧ Z.Warmed39 U.vm ∧ U.heap = h0) (fun _ _ _ _ _ => True) (fun _ U o U' => ∃ v L, o = .returned v ∧ QM1 Z x ch0 G fv h0 n0 v U'.heap L ∧ FrameEnd U o U' L ({ frames := 0, cells := 0, slots := 0, locals := 0 } : Room).cells ({ frames := 0, cells := 0, slots := 0, locals := 0 } : Room).slots) := by
  obtain ⟨t, kb, Ex, Fv, ⟨Fc, A, -⟩ | ⟨Fc, A⟩⟩ := S0
  · exact rmEM0 l Z a0 hw ws x t kb (1 : Int32) _ h0 n0 Z0 Ex Fv A (by decide)
  · exact rmEM0 l Z a0 hw ws x t kb (2 : Int32) _ h0 n0 Z0 Ex Fv A (by decide)
def QC10 (Z : State) (x : Addr) (ch0 : Int32) (G : Int32) (fv : Value) (h0 : Heap) (n0 : Nat) (v : Option Value) (h : Heap) (L : List Loc) : Prop := v = some (.int ch0) ∧ L = [] ∧ h = h0
theorem rmC10 (l : Launch) (Z : State) (a0 : Array Value) (hw : ∀ d ∈ tables_1, d.before a0 Z = true) (ws : List Jvm.Cond) (x : Addr) (ch0 : Int32) (G : Int32) (fv : Value) (h0 : Heap) (n0 : Nat) (Z0 : n0 ≤ h0.size) (S0 : own_S1 Z h0 x ch0) (kch0 : own_ch ch0) (W0 : own_W Z G fv) (O0 : Old Z n0 h0) :
    MetFree l (⟨"java/lang/String", "charAt", "(I)C"⟩ : MethodName) (head1 (Jvm.Cond.code (⟨"java/lang/String", "charAt", "(I)C"⟩ : MethodName) jdk_42_method_56_code 2 (some .char) :: ws) ({ frames := 4, cells := 0, slots := 0, locals := 53 } : Room)) (fun as_ U => as_ = #[(.ref x), (.int (0 : Int32))] ∧ Z.Warmed39 U.vm ∧ U.heap = h0) (fun _ _ _ _ _ => True) (fun _ U o U' => ∃ v L, o = .returned v ∧ QC10 Z x ch0 G fv h0 n0 v U'.heap L ∧ FrameEnd U o U' L ({ frames := 4, cells := 0, slots := 0, locals := 53 } : Room).cells ({ frames := 4, cells := 0, slots := 0, locals := 53 } : Room).slots) := by
  obtain ⟨t, kb, Ex, Fv, ⟨Fc, A, al⟩ | ⟨Fc, A⟩⟩ := S0
  · have ach0 := al
    exact rmCA l Z a0 hw ws x t kb (1 : Int32) _ (0 : Int32) (own_lo ch0) ch0 G fv h0 n0 Z0 Ex Fv Fc A (by decide) (by decide) rfl (own_lat kch0.1 ach0) kch0.2.2 W0 O0
  · exact rmCB l Z a0 hw ws x t kb (2 : Int32) _ (1 : Int32) (0 : Int32) (own_b0 ch0) (own_b1 ch0) ch0 G fv h0 n0 Z0 Ex Fv Fc A (by decide) rfl (by decide) rfl (own_utfc kch0) (by decide) (by decide) (by decide) kch0.2.2 W0 O0
def QE2 (Z : State) (x : Addr) (ch0 : Int32) (ch1 : Int32) (G : Int32) (fv : Value) (h0 : Heap) (n0 : Nat) (v : Option Value) (h : Heap) (L : List Loc) : Prop := v = some (.int (2 : Int32)) ∧ L = [] ∧ h = h0
theorem rmE2 (l : Launch) (Z : State) (a0 : Array Value) (hw : ∀ d ∈ tables_1, d.before a0 Z = true) (ws : List Jvm.Cond) (x : Addr) (ch0 : Int32) (ch1 : Int32) (G : Int32) (fv : Value) (h0 : Heap) (n0 : Nat) (Z0 : n0 ≤ h0.size) (S0 : own_S2 Z h0 x ch0 ch1) (kch0 : own_ch ch0) (kch1 : own_ch ch1) (W0 : own_W Z G fv) (O0 : Old Z n0 h0) :
    MetFree l (⟨"java/lang/String", "length", "()I"⟩ : MethodName) (head1 (Jvm.Cond.code (⟨"java/lang/String", "length", "()I"⟩ : MethodName) jdk_42_method_54_code 1 (some .int) :: ws) ({ frames := 1, cells := 0, slots := 0, locals := 13 } : Room)) (fun as_ U => as_ = #[(.ref x)] ∧ Z.Warmed39 U.vm ∧ U.heap = h0) (fun _ _ _ _ _ => True) (fun _ U o U' => ∃ v L, o = .returned v ∧ QE2 Z x ch0 ch1 G fv h0 n0 v U'.heap L ∧ FrameEnd U o U' L ({ frames := 1, cells := 0, slots := 0, locals := 13 } : Room).cells ({ frames := 1, cells := 0, slots := 0, locals := 13 } : Room).slots) := by
  obtain ⟨t, kb, Ex, Fv, ⟨Fc, A, -⟩ | ⟨Fc, A⟩⟩ := S0
  · exact rmLN l Z a0 hw ws x t kb (2 : Int32) _ (0 : Int32) (2 : Int32) G fv h0 n0 Z0 Ex Fv Fc (by decide) A (by decide) W0 O0
  · exact rmLN l Z a0 hw ws x t kb (4 : Int32) _ (1 : Int32) (2 : Int32) G fv h0 n0 Z0 Ex Fv Fc (by decide) A (by decide) W0 O0
def QM2 (Z : State) (x : Addr) (ch0 : Int32) (ch1 : Int32) (G : Int32) (fv : Value) (h0 : Heap) (n0 : Nat) (v : Option Value) (h : Heap) (L : List Loc) : Prop := v = some (.int (0 : Int32)) ∧ L = [] ∧ h = h0
theorem rmM2 (l : Launch) (Z : State) (a0 : Array Value) (hw : ∀ d ∈ tables_1, d.before a0 Z = true) (ws : List Jvm.Cond) (x : Addr) (ch0 : Int32) (ch1 : Int32) (G : Int32) (fv : Value) (h0 : Heap) (n0 : Nat) (Z0 : n0 ≤ h0.size) (S0 : own_S2 Z h0 x ch0 ch1) (kch0 : own_ch ch0) (kch1 : own_ch ch1) (W0 : own_W Z G fv) (O0 : Old Z n0 h0) :
    MetFree l (⟨"java/lang/String", "isEmpty", "()Z"⟩ : MethodName) (head1 (Jvm.Cond.code (⟨"java/lang/String", "isEmpty", "()Z"⟩ : MethodName) jdk_42_method_55_code 1 (some .boolean) :: ws) ({ frames := 0, cells := 0, slots := 0, locals := 0 } : Room)) (fun as_ U => as_ = #[(.ref x)] ∧ Z.Warmed39 U.vm ∧ U.heap = h0) (fun _ _ _ _ _ => True) (fun _ U o U' => ∃ v L, o = .returned v ∧ QM2 Z x ch0 ch1 G fv h0 n0 v U'.heap L ∧ FrameEnd U o U' L ({ frames := 0, cells := 0, slots := 0, locals := 0 } : Room).cells ({ frames := 0, cells := 0, slots := 0, locals := 0 } : Room).slots) := by
  obtain ⟨t, kb, Ex, Fv, ⟨Fc, A, -⟩ | ⟨Fc, A⟩⟩ := S0
  · exact rmEM0 l Z a0 hw ws x t kb (2 : Int32) _ h0 n0 Z0 Ex Fv A (by decide)
  · exact rmEM0 l Z a0 hw ws x t kb (4 : Int32) _ h0 n0 Z0 Ex Fv A (by decide)
def QC20 (Z : State) (x : Addr) (ch0 : Int32) (ch1 : Int32) (G : Int32) (fv : Value) (h0 : Heap) (n0 : Nat) (v : Option Value) (h : Heap) (L : List Loc) : Prop := v = some (.int ch0) ∧ L = [] ∧ h = h0
theorem rmC20 (l : Launch) (Z : State) (a0 : Array Value) (hw : ∀ d ∈ tables_1, d.before a0 Z = true) (ws : List Jvm.Cond) (x : Addr) (ch0 : Int32) (ch1 : Int32) (G : Int32) (fv : Value) (h0 : Heap) (n0 : Nat) (Z0 : n0 ≤ h0.size) (S0 : own_S2 Z h0 x ch0 ch1) (kch0 : own_ch ch0) (kch1 : own_ch ch1) (W0 : own_W Z G fv) (O0 : Old Z n0 h0) :
    MetFree l (⟨"java/lang/String", "charAt", "(I)C"⟩ : MethodName) (head1 (Jvm.Cond.code (⟨"java/lang/String", "charAt", "(I)C"⟩ : MethodName) jdk_42_method_56_code 2 (some .char) :: ws) ({ frames := 4, cells := 0, slots := 0, locals := 53 } : Room)) (fun as_ U => as_ = #[(.ref x), (.int (0 : Int32))] ∧ Z.Warmed39 U.vm ∧ U.heap = h0) (fun _ _ _ _ _ => True) (fun _ U o U' => ∃ v L, o = .returned v ∧ QC20 Z x ch0 ch1 G fv h0 n0 v U'.heap L ∧ FrameEnd U o U' L ({ frames := 4, cells := 0, slots := 0, locals := 53 } : Room).cells ({ frames := 4, cells := 0, slots := 0, locals := 53 } : Room).slots) := by
  obtain ⟨t, kb, Ex, Fv, ⟨Fc, A, al⟩ | ⟨Fc, A⟩⟩ := S0
  · obtain ⟨ach0, ach1⟩ := al
    exact rmCA l Z a0 hw ws x t kb (2 : Int32) _ (0 : Int32) (own_lo ch0) ch0 G fv h0 n0 Z0 Ex Fv Fc A (by decide) (by decide) rfl (own_lat kch0.1 ach0) kch0.2.2 W0 O0
  · exact rmCB l Z a0 hw ws x t kb (4 : Int32) _ (2 : Int32) (0 : Int32) (own_b0 ch0) (own_b1 ch0) ch0 G fv h0 n0 Z0 Ex Fv Fc A (by decide) rfl (by decide) rfl (own_utfc kch0) (by decide) (by decide) (by decide) kch0.2.2 W0 O0
def QC21 (Z : State) (x : Addr) (ch0 : Int32) (ch1 : Int32) (G : Int32) (fv : Value) (h0 : Heap) (n0 : Nat) (v : Option Value) (h : Heap) (L : List Loc) : Prop := v = some (.int ch1) ∧ L = [] ∧ h = h0
theorem rmC21 (l : Launch) (Z : State) (a0 : Array Value) (hw : ∀ d ∈ tables_1, d.before a0 Z = true) (ws : List Jvm.Cond) (x : Addr) (ch0 : Int32) (ch1 : Int32) (G : Int32) (fv : Value) (h0 : Heap) (n0 : Nat) (Z0 : n0 ≤ h0.size) (S0 : own_S2 Z h0 x ch0 ch1) (kch0 : own_ch ch0) (kch1 : own_ch ch1) (W0 : own_W Z G fv) (O0 : Old Z n0 h0) :
    MetFree l (⟨"java/lang/String", "charAt", "(I)C"⟩ : MethodName) (head1 (Jvm.Cond.code (⟨"java/lang/String", "charAt", "(I)C"⟩ : MethodName) jdk_42_method_56_code 2 (some .char) :: ws) ({ frames := 4, cells := 0, slots := 0, locals := 53 } : Room)) (fun as_ U => as_ = #[(.ref x), (.int (1 : Int32))] ∧ Z.Warmed39 U.vm ∧ U.heap = h0) (fun _ _ _ _ _ => True) (fun _ U o U' => ∃ v L, o = .returned v ∧ QC21 Z x ch0 ch1 G fv h0 n0 v U'.heap L ∧ FrameEnd U o U' L ({ frames := 4, cells := 0, slots := 0, locals := 53 } : Room).cells ({ frames := 4, cells := 0, slots := 0, locals := 53 } : Room).slots) := by
  obtain ⟨t, kb, Ex, Fv, ⟨Fc, A, al⟩ | ⟨Fc, A⟩⟩ := S0
  · obtain ⟨ach0, ach1⟩ := al
    exact rmCA l Z a0 hw ws x t kb (2 : Int32) _ (1 : Int32) (own_lo ch1) ch1 G fv h0 n0 Z0 Ex Fv Fc A (by decide) (by decide) rfl (own_lat kch1.1 ach1) kch1.2.2 W0 O0
  · exact rmCB l Z a0 hw ws x t kb (4 : Int32) _ (2 : Int32) (1 : Int32) (own_b0 ch1) (own_b1 ch1) ch1 G fv h0 n0 Z0 Ex Fv Fc A (by decide) rfl (by decide) rfl (own_utfc kch1) (by decide) (by decide) (by decide) kch1.2.2 W0 O0
def QE3 (Z : State) (x : Addr) (ch0 : Int32) (ch1 : Int32) (ch2 : Int32) (G : Int32) (fv : Value) (h0 : Heap) (n0 : Nat) (v : Option Value) (h : Heap) (L : List Loc) : Prop := v = some (.int (3 : Int32)) ∧ L = [] ∧ h = h0
theorem rmE3 (l : Launch) (Z : State) (a0 : Array Value) (hw : ∀ d ∈ tables_1, d.before a0 Z = true) (ws : List Jvm.Cond) (x : Addr) (ch0 : Int32) (ch1 : Int32) (ch2 : Int32) (G : Int32) (fv : Value) (h0 : Heap) (n0 : Nat) (Z0 : n0 ≤ h0.size) (S0 : own_S3 Z h0 x ch0 ch1 ch2) (kch0 : own_ch ch0) (kch1 : own_ch ch1) (kch2 : own_ch ch2) (W0 : own_W Z G fv) (O0 : Old Z n0 h0) :
    MetFree l (⟨"java/lang/String", "length", "()I"⟩ : MethodName) (head1 (Jvm.Cond.code (⟨"java/lang/String", "length", "()I"⟩ : MethodName) jdk_42_method_54_code 1 (some .int) :: ws) ({ frames := 1, cells := 0, slots := 0, locals := 13 } : Room)) (fun as_ U => as_ = #[(.ref x)] ∧ Z.Warmed39 U.vm ∧ U.heap = h0) (fun _ _ _ _ _ => True) (fun _ U o U' => ∃ v L, o = .returned v ∧ QE3 Z x ch0 ch1 ch2 G fv h0 n0 v U'.heap L ∧ FrameEnd U o U' L ({ frames := 1, cells := 0, slots := 0, locals := 13 } : Room).cells ({ frames := 1, cells := 0, slots := 0, locals := 13 } : Room).slots) := by
  obtain ⟨t, kb, Ex, Fv, ⟨Fc, A, -⟩ | ⟨Fc, A⟩⟩ := S0
  · exact rmLN l Z a0 hw ws x t kb (3 : Int32) _ (0 : Int32) (3 : Int32) G fv h0 n0 Z0 Ex Fv Fc (by decide) A (by decide) W0 O0
  · exact rmLN l Z a0 hw ws x t kb (6 : Int32) _ (1 : Int32) (3 : Int32) G fv h0 n0 Z0 Ex Fv Fc (by decide) A (by decide) W0 O0
def QM3 (Z : State) (x : Addr) (ch0 : Int32) (ch1 : Int32) (ch2 : Int32) (G : Int32) (fv : Value) (h0 : Heap) (n0 : Nat) (v : Option Value) (h : Heap) (L : List Loc) : Prop := v = some (.int (0 : Int32)) ∧ L = [] ∧ h = h0
theorem rmM3 (l : Launch) (Z : State) (a0 : Array Value) (hw : ∀ d ∈ tables_1, d.before a0 Z = true) (ws : List Jvm.Cond) (x : Addr) (ch0 : Int32) (ch1 : Int32) (ch2 : Int32) (G : Int32) (fv : Value) (h0 : Heap) (n0 : Nat) (Z0 : n0 ≤ h0.size) (S0 : own_S3 Z h0 x ch0 ch1 ch2) (kch0 : own_ch ch0) (kch1 : own_ch ch1) (kch2 : own_ch ch2) (W0 : own_W Z G fv) (O0 : Old Z n0 h0) :
    MetFree l (⟨"java/lang/String", "isEmpty", "()Z"⟩ : MethodName) (head1 (Jvm.Cond.code (⟨"java/lang/String", "isEmpty", "()Z"⟩ : MethodName) jdk_42_method_55_code 1 (some .boolean) :: ws) ({ frames := 0, cells := 0, slots := 0, locals := 0 } : Room)) (fun as_ U => as_ = #[(.ref x)] ∧ Z.Warmed39 U.vm ∧ U.heap = h0) (fun _ _ _ _ _ => True) (fun _ U o U' => ∃ v L, o = .returned v ∧ QM3 Z x ch0 ch1 ch2 G fv h0 n0 v U'.heap L ∧ FrameEnd U o U' L ({ frames := 0, cells := 0, slots := 0, locals := 0 } : Room).cells ({ frames := 0, cells := 0, slots := 0, locals := 0 } : Room).slots) := by
  obtain ⟨t, kb, Ex, Fv, ⟨Fc, A, -⟩ | ⟨Fc, A⟩⟩ := S0
  · exact rmEM0 l Z a0 hw ws x t kb (3 : Int32) _ h0 n0 Z0 Ex Fv A (by decide)
  · exact rmEM0 l Z a0 hw ws x t kb (6 : Int32) _ h0 n0 Z0 Ex Fv A (by decide)
def QC30 (Z : State) (x : Addr) (ch0 : Int32) (ch1 : Int32) (ch2 : Int32) (G : Int32) (fv : Value) (h0 : Heap) (n0 : Nat) (v : Option Value) (h : Heap) (L : List Loc) : Prop := v = some (.int ch0) ∧ L = [] ∧ h = h0
theorem rmC30 (l : Launch) (Z : State) (a0 : Array Value) (hw : ∀ d ∈ tables_1, d.before a0 Z = true) (ws : List Jvm.Cond) (x : Addr) (ch0 : Int32) (ch1 : Int32) (ch2 : Int32) (G : Int32) (fv : Value) (h0 : Heap) (n0 : Nat) (Z0 : n0 ≤ h0.size) (S0 : own_S3 Z h0 x ch0 ch1 ch2) (kch0 : own_ch ch0) (kch1 : own_ch ch1) (kch2 : own_ch ch2) (W0 : own_W Z G fv) (O0 : Old Z n0 h0) :
    MetFree l (⟨"java/lang/String", "charAt", "(I)C"⟩ : MethodName) (head1 (Jvm.Cond.code (⟨"java/lang/String", "charAt", "(I)C"⟩ : MethodName) jdk_42_method_56_code 2 (some .char) :: ws) ({ frames := 4, cells := 0, slots := 0, locals := 53 } : Room)) (fun as_ U => as_ = #[(.ref x), (.int (0 : Int32))] ∧ Z.Warmed39 U.vm ∧ U.heap = h0) (fun _ _ _ _ _ => True) (fun _ U o U' => ∃ v L, o = .returned v ∧ QC30 Z x ch0 ch1 ch2 G fv h0 n0 v U'.heap L ∧ FrameEnd U o U' L ({ frames := 4, cells := 0, slots := 0, locals := 53 } : Room).cells ({ frames := 4, cells := 0, slots := 0, locals := 53 } : Room).slots) := by
  obtain ⟨t, kb, Ex, Fv, ⟨Fc, A, al⟩ | ⟨Fc, A⟩⟩ := S0
  · obtain ⟨ach0, ach1, ach2⟩ := al
    exact rmCA l Z a0 hw ws x t kb (3 : Int32) _ (0 : Int32) (own_lo ch0) ch0 G fv h0 n0 Z0 Ex Fv Fc A (by decide) (by decide) rfl (own_lat kch0.1 ach0) kch0.2.2 W0 O0
  · exact rmCB l Z a0 hw ws x t kb (6 : Int32) _ (3 : Int32) (0 : Int32) (own_b0 ch0) (own_b1 ch0) ch0 G fv h0 n0 Z0 Ex Fv Fc A (by decide) rfl (by decide) rfl (own_utfc kch0) (by decide) (by decide) (by decide) kch0.2.2 W0 O0
def QC31 (Z : State) (x : Addr) (ch0 : Int32) (ch1 : Int32) (ch2 : Int32) (G : Int32) (fv : Value) (h0 : Heap) (n0 : Nat) (v : Option Value) (h : Heap) (L : List Loc) : Prop := v = some (.int ch1) ∧ L = [] ∧ h = h0
theorem rmC31 (l : Launch) (Z : State) (a0 : Array Value) (hw : ∀ d ∈ tables_1, d.before a0 Z = true) (ws : List Jvm.Cond) (x : Addr) (ch0 : Int32) (ch1 : Int32) (ch2 : Int32) (G : Int32) (fv : Value) (h0 : Heap) (n0 : Nat) (Z0 : n0 ≤ h0.size) (S0 : own_S3 Z h0 x ch0 ch1 ch2) (kch0 : own_ch ch0) (kch1 : own_ch ch1) (kch2 : own_ch ch2) (W0 : own_W Z G fv) (O0 : Old Z n0 h0) :
    MetFree l (⟨"java/lang/String", "charAt", "(I)C"⟩ : MethodName) (head1 (Jvm.Cond.code (⟨"java/lang/String", "charAt", "(I)C"⟩ : MethodName) jdk_42_method_56_code 2 (some .char) :: ws) ({ frames := 4, cells := 0, slots := 0, locals := 53 } : Room)) (fun as_ U => as_ = #[(.ref x), (.int (1 : Int32))] ∧ Z.Warmed39 U.vm ∧ U.heap = h0) (fun _ _ _ _ _ => True) (fun _ U o U' => ∃ v L, o = .returned v ∧ QC31 Z x ch0 ch1 ch2 G fv h0 n0 v U'.heap L ∧ FrameEnd U o U' L ({ frames := 4, cells := 0, slots := 0, locals := 53 } : Room).cells ({ frames := 4, cells := 0, slots := 0, locals := 53 } : Room).slots) := by
  obtain ⟨t, kb, Ex, Fv, ⟨Fc, A, al⟩ | ⟨Fc, A⟩⟩ := S0
  · obtain ⟨ach0, ach1, ach2⟩ := al
    exact rmCA l Z a0 hw ws x t kb (3 : Int32) _ (1 : Int32) (own_lo ch1) ch1 G fv h0 n0 Z0 Ex Fv Fc A (by decide) (by decide) rfl (own_lat kch1.1 ach1) kch1.2.2 W0 O0
  · exact rmCB l Z a0 hw ws x t kb (6 : Int32) _ (3 : Int32) (1 : Int32) (own_b0 ch1) (own_b1 ch1) ch1 G fv h0 n0 Z0 Ex Fv Fc A (by decide) rfl (by decide) rfl (own_utfc kch1) (by decide) (by decide) (by decide) kch1.2.2 W0 O0
def QC32 (Z : State) (x : Addr) (ch0 : Int32) (ch1 : Int32) (ch2 : Int32) (G : Int32) (fv : Value) (h0 : Heap) (n0 : Nat) (v : Option Value) (h : Heap) (L : List Loc) : Prop := v = some (.int ch2) ∧ L = [] ∧ h = h0
theorem rmC32 (l : Launch) (Z : State) (a0 : Array Value) (hw : ∀ d ∈ tables_1, d.before a0 Z = true) (ws : List Jvm.Cond) (x : Addr) (ch0 : Int32) (ch1 : Int32) (ch2 : Int32) (G : Int32) (fv : Value) (h0 : Heap) (n0 : Nat) (Z0 : n0 ≤ h0.size) (S0 : own_S3 Z h0 x ch0 ch1 ch2) (kch0 : own_ch ch0) (kch1 : own_ch ch1) (kch2 : own_ch ch2) (W0 : own_W Z G fv) (O0 : Old Z n0 h0) :
    MetFree l (⟨"java/lang/String", "charAt", "(I)C"⟩ : MethodName) (head1 (Jvm.Cond.code (⟨"java/lang/String", "charAt", "(I)C"⟩ : MethodName) jdk_42_method_56_code 2 (some .char) :: ws) ({ frames := 4, cells := 0, slots := 0, locals := 53 } : Room)) (fun as_ U => as_ = #[(.ref x), (.int (2 : Int32))] ∧ Z.Warmed39 U.vm ∧ U.heap = h0) (fun _ _ _ _ _ => True) (fun _ U o U' => ∃ v L, o = .returned v ∧ QC32 Z x ch0 ch1 ch2 G fv h0 n0 v U'.heap L ∧ FrameEnd U o U' L ({ frames := 4, cells := 0, slots := 0, locals := 53 } : Room).cells ({ frames := 4, cells := 0, slots := 0, locals := 53 } : Room).slots) := by
  obtain ⟨t, kb, Ex, Fv, ⟨Fc, A, al⟩ | ⟨Fc, A⟩⟩ := S0
  · obtain ⟨ach0, ach1, ach2⟩ := al
    exact rmCA l Z a0 hw ws x t kb (3 : Int32) _ (2 : Int32) (own_lo ch2) ch2 G fv h0 n0 Z0 Ex Fv Fc A (by decide) (by decide) rfl (own_lat kch2.1 ach2) kch2.2.2 W0 O0
  · exact rmCB l Z a0 hw ws x t kb (6 : Int32) _ (3 : Int32) (2 : Int32) (own_b0 ch2) (own_b1 ch2) ch2 G fv h0 n0 Z0 Ex Fv Fc A (by decide) rfl (by decide) rfl (own_utfc kch2) (by decide) (by decide) (by decide) kch2.2.2 W0 O0
theorem pn_11 : plainName "com/example/ample_dispatch/ampledispatch/FieldValuesIsTokenPinLaw" = true := by first | (simp [plainName, overriddenIn]; done) | decide +kernel
theorem d12_0 : decode method_2_code 0 = .ok (.iload_n 0, 1) := by decide +kernel
theorem d12_1 : decode method_2_code 1 = .ok (.bipush 33, 2) := by decide +kernel
theorem d12_3 : decode method_2_code 3 = .ok (.if_icmp .ne 5, 3) := by decide +kernel
theorem d12_6 : decode method_2_code 6 = .ok (.iconst 1, 1) := by decide +kernel
theorem d12_7 : decode method_2_code 7 = .ok (.ireturn, 1) := by decide +kernel
theorem d12_8 : decode method_2_code 8 = .ok (.iload_n 0, 1) := by decide +kernel
theorem d12_9 : decode method_2_code 9 = .ok (.bipush 35, 2) := by decide +kernel
theorem d12_11 : decode method_2_code 11 = .ok (.if_icmp .lt 11, 3) := by decide +kernel
theorem d12_14 : decode method_2_code 14 = .ok (.iload_n 0, 1) := by decide +kernel
theorem d12_15 : decode method_2_code 15 = .ok (.bipush 39, 2) := by decide +kernel
theorem d12_17 : decode method_2_code 17 = .ok (.if_icmp .gt 5, 3) := by decide +kernel
theorem d12_20 : decode method_2_code 20 = .ok (.iconst 1, 1) := by decide +kernel
theorem d12_21 : decode method_2_code 21 = .ok (.ireturn, 1) := by decide +kernel
theorem d12_22 : decode method_2_code 22 = .ok (.iload_n 0, 1) := by decide +kernel
theorem d12_23 : decode method_2_code 23 = .ok (.bipush 42, 2) := by decide +kernel
theorem d12_25 : decode method_2_code 25 = .ok (.if_icmp .lt 11, 3) := by decide +kernel
theorem d12_28 : decode method_2_code 28 = .ok (.iload_n 0, 1) := by decide +kernel
theorem d12_29 : decode method_2_code 29 = .ok (.bipush 43, 2) := by decide +kernel
theorem d12_31 : decode method_2_code 31 = .ok (.if_icmp .gt 5, 3) := by decide +kernel
theorem d12_34 : decode method_2_code 34 = .ok (.iconst 1, 1) := by decide +kernel
theorem d12_35 : decode method_2_code 35 = .ok (.ireturn, 1) := by decide +kernel
theorem d12_36 : decode method_2_code 36 = .ok (.iload_n 0, 1) := by decide +kernel
theorem d12_37 : decode method_2_code 37 = .ok (.bipush 45, 2) := by decide +kernel
theorem d12_39 : decode method_2_code 39 = .ok (.if_icmp .lt 11, 3) := by decide +kernel
theorem d12_42 : decode method_2_code 42 = .ok (.iload_n 0, 1) := by decide +kernel
theorem d12_43 : decode method_2_code 43 = .ok (.bipush 46, 2) := by decide +kernel
theorem d12_45 : decode method_2_code 45 = .ok (.if_icmp .gt 5, 3) := by decide +kernel
theorem d12_48 : decode method_2_code 48 = .ok (.iconst 1, 1) := by decide +kernel
theorem d12_49 : decode method_2_code 49 = .ok (.ireturn, 1) := by decide +kernel
theorem d12_50 : decode method_2_code 50 = .ok (.iload_n 0, 1) := by decide +kernel
theorem d12_51 : decode method_2_code 51 = .ok (.bipush 48, 2) := by decide +kernel
theorem d12_53 : decode method_2_code 53 = .ok (.if_icmp .lt 11, 3) := by decide +kernel
theorem d12_56 : decode method_2_code 56 = .ok (.iload_n 0, 1) := by decide +kernel
theorem d12_57 : decode method_2_code 57 = .ok (.bipush 57, 2) := by decide +kernel
theorem d12_59 : decode method_2_code 59 = .ok (.if_icmp .gt 5, 3) := by decide +kernel
theorem d12_62 : decode method_2_code 62 = .ok (.iconst 1, 1) := by decide +kernel
theorem d12_63 : decode method_2_code 63 = .ok (.ireturn, 1) := by decide +kernel
theorem d12_64 : decode method_2_code 64 = .ok (.iload_n 0, 1) := by decide +kernel
theorem d12_65 : decode method_2_code 65 = .ok (.bipush 65, 2) := by decide +kernel
theorem d12_67 : decode method_2_code 67 = .ok (.if_icmp .lt 11, 3) := by decide +kernel
theorem d12_70 : decode method_2_code 70 = .ok (.iload_n 0, 1) := by decide +kernel
theorem d12_71 : decode method_2_code 71 = .ok (.bipush 90, 2) := by decide +kernel
theorem d12_73 : decode method_2_code 73 = .ok (.if_icmp .gt 5, 3) := by decide +kernel
theorem d12_76 : decode method_2_code 76 = .ok (.iconst 1, 1) := by decide +kernel
theorem d12_77 : decode method_2_code 77 = .ok (.ireturn, 1) := by decide +kernel
theorem d12_78 : decode method_2_code 78 = .ok (.iload_n 0, 1) := by decide +kernel
theorem d12_79 : decode method_2_code 79 = .ok (.bipush 94, 2) := by decide +kernel
theorem d12_81 : decode method_2_code 81 = .ok (.if_icmp .lt 11, 3) := by decide +kernel
theorem d12_84 : decode method_2_code 84 = .ok (.iload_n 0, 1) := by decide +kernel
theorem d12_85 : decode method_2_code 85 = .ok (.bipush 122, 2) := by decide +kernel
theorem d12_87 : decode method_2_code 87 = .ok (.if_icmp .gt 5, 3) := by decide +kernel
theorem d12_90 : decode method_2_code 90 = .ok (.iconst 1, 1) := by decide +kernel
theorem d12_91 : decode method_2_code 91 = .ok (.ireturn, 1) := by decide +kernel
theorem d12_92 : decode method_2_code 92 = .ok (.iload_n 0, 1) := by decide +kernel
theorem d12_93 : decode method_2_code 93 = .ok (.bipush 124, 2) := by decide +kernel
theorem d12_95 : decode method_2_code 95 = .ok (.if_icmp .ne 5, 3) := by decide +kernel
theorem d12_98 : decode method_2_code 98 = .ok (.iconst 1, 1) := by decide +kernel
theorem d12_99 : decode method_2_code 99 = .ok (.ireturn, 1) := by decide +kernel
theorem d12_100 : decode method_2_code 100 = .ok (.iload_n 0, 1) := by decide +kernel
theorem d12_101 : decode method_2_code 101 = .ok (.bipush 126, 2) := by decide +kernel
theorem d12_103 : decode method_2_code 103 = .ok (.if_icmp .ne 5, 3) := by decide +kernel
theorem d12_106 : decode method_2_code 106 = .ok (.iconst 1, 1) := by decide +kernel
theorem d12_107 : decode method_2_code 107 = .ok (.ireturn, 1) := by decide +kernel
theorem d12_108 : decode method_2_code 108 = .ok (.iconst 0, 1) := by decide +kernel
theorem d12_109 : decode method_2_code 109 = .ok (.ireturn, 1) := by decide +kernel
theorem ef_TC (m : MethodId) (x0 : Int32) : entryFrame m #[(.int x0)] 1 = mkF m 0 #[.val (.int x0)] [] := by first | (simp [entryFrame, mkF, argsToLocals, Value.category, maxLocals]; done) | rfl
def QTC (Z : State) (cc : Int32) (h0 : Heap) (n0 : Nat) (v : Option Value) (h : Heap) (L : List Loc) : Prop := ((v = some (.int 1) ∧ own_tc cc) ∨ (v = some (.int 0) ∧ ¬ own_tc cc)) ∧ L = [] ∧ h = h0
abbrev RmTC : Room := ({ frames := 0, cells := 0, slots := 0, locals := 0 } : Room)
set_option maxRecDepth 65536 in
set_option maxHeartbeats 40000000 in
theorem rmTC (l : Launch) (Z : State) (a0 : Array Value) (hw : ∀ d ∈ tables_1, d.before a0 Z = true) (ws : List Jvm.Cond) (cc : Int32) (h0 : Heap) (n0 : Nat) (Z0 : n0 ≤ h0.size) :
    MetFree l (⟨"com/example/ample_dispatch/ampledispatch/FieldValuesIsTokenPinLaw", "tchar", "(I)Z"⟩ : MethodName) (head1 (Jvm.Cond.code (⟨"com/example/ample_dispatch/ampledispatch/FieldValuesIsTokenPinLaw", "tchar", "(I)Z"⟩ : MethodName) method_2_code 1 (some .boolean) :: ws) RmTC) (fun as_ U => as_ = #[(.int cc)] ∧ Z.Warmed39 U.vm ∧ U.heap = h0) (fun _ _ _ _ _ => True) (fun _ U o U' => ∃ v L, o = .returned v ∧ QTC Z cc h0 n0 v U'.heap L ∧ FrameEnd U o U' L RmTC.cells RmTC.slots) := by
  refine MetFree.of_bodySF (plainFor_of_name pn_11) hisR ?_
  intro p e s m args below meth c s₁ Bd hml0 hP hK
  obtain ⟨rfl, hZ, hh⟩ := hP
  have hx := Bd.exec
  have hby := Bd.bytes
  have D : ∀ {pc : Nat} {r : Except DecodeError (Instr × Nat)}, decode method_2_code pc = r → decode c.code pc = r := fun q => hb hby q
  have hml : c.maxLocals = 1 := hml0
  have hown : s.vm.findClass "com/example/ample_dispatch/ampledispatch/FieldValuesIsTokenPinLaw" = some m.cls := findClass_of_methodNamed Bd.named
  have hnm := (name_of_methodNamed Bd.named Bd.method).1
  have X0 : Stand p l e RmTC s m #[(.int cc)] below meth c s₁ [] 0 0 := Stand.of_body Bd
  have e0 : s₁.heap = h0 := by rw [← hh, Bd.state]; rfl
  have N0 := Fr.nil n0
  obtain ⟨E0, hE0⟩ : ∃ z, z = s₁.setTop (entryFrame m #[(.int cc)] 1) := ⟨_, rfl⟩
  rw [← hE0]
  have go0 : ∀ tgt, Steps p.tables e below (s₁.setTop (mkF m 0 #[(si cc)] [])) tgt → Steps p.tables e below E0 tgt := fun tgt kont => by rw [hE0]; exact castTop (ef_TC m cc) kont
  have go1 : Go p e below E0 s₁ m 3 #[(si cc)] [(.int 33), (.int cc)] := fun tgt kont => go0 tgt (by
    refine XS.iloadN X0.here hx rfl (D d12_0) rfl ?_; refine XS.bipush X0.here hx rfl (D d12_1) ?_; exact kont)
  by_cases u0 : cc = (33 : Int32)
  · have go2 : Go p e below E0 s₁ m 7 #[(si cc)] [(.int 1)] := fun tgt kont => go1 tgt (by
      refine XS.icmpNo X0.here hx rfl (D d12_3) rfl (teq u0).2 ?_; refine XS.iconst X0.here hx rfl (D d12_6) ?_; exact kont)
    obtain ⟨fs, hr, hrun, hended, hW, hsame⟩ := X0.leave (v := some (.int (1 : Int32))) (fun h => by rw [Bd.returns] at h; cases h)
    refine ⟨_, _, go2 _ ?_, hrun, hended, _, _, rfl, ?_, ⟨_, rfl⟩, hW, hsame.mono (by decide) (by decide)⟩
    · show Steps p.tables e below (s₁.setTop (mkF m 7 #[(si cc)] [(.int 1)])) _
      exact retN X0 hx (t := .boolean) Bd.returns (by simp) (D d12_7) hr
    · show QTC Z cc h0 n0 _ s₁.heap _
      rw [e0]
      exact ⟨Or.inl ⟨rfl, (by simp only [own_tc, own_an, own_sp, Int32.lt_iff_toInt_lt, ← Int32.toInt_inj, Int32.reduceToInt] at u0 ⊢; omega)⟩, rfl, rfl⟩
  · have go3 : Go p e below E0 s₁ m 11 #[(si cc)] [(.int 35), (.int cc)] := fun tgt kont => go1 tgt (by
      refine XS.icmpYes X0.here hx rfl (pc0 := 3) (pc' := 8) rfl (D d12_3) rfl (feq u0).2 (by decide) (by decide) ?_; refine XS.iloadN X0.here hx rfl (D d12_8) rfl ?_; refine XS.bipush X0.here hx rfl (D d12_9) ?_; exact kont)
    by_cases u1 : cc < (35 : Int32)
    · have go4 : Go p e below E0 s₁ m 109 #[(si cc)] [(.int 0)] := fun tgt kont => go3 tgt (by
        refine XS.icmpYes X0.here hx rfl (pc0 := 11) (pc' := 22) rfl (D d12_11) rfl (tlt u1).1 (by decide) (by decide) ?_; refine XS.iloadN X0.here hx rfl (D d12_22) rfl ?_; refine XS.bipush X0.here hx rfl (D d12_23) ?_; refine XS.icmpYes X0.here hx rfl (pc0 := 25) (pc' := 36) rfl (D d12_25) rfl (tlt (by simp only [Int32.lt_iff_toInt_lt, ← Int32.toInt_inj, Int32.reduceToInt] at u0 u1 ⊢; omega : cc < (42 : Int32))).1 (by decide) (by decide) ?_; refine XS.iloadN X0.here hx rfl (D d12_36) rfl ?_; refine XS.bipush X0.here hx rfl (D d12_37) ?_; refine XS.icmpYes X0.here hx rfl (pc0 := 39) (pc' := 50) rfl (D d12_39) rfl (tlt (by simp only [Int32.lt_iff_toInt_lt, ← Int32.toInt_inj, Int32.reduceToInt] at u0 u1 ⊢; omega : cc < (45 : Int32))).1 (by decide) (by decide) ?_; refine XS.iloadN X0.here hx rfl (D d12_50) rfl ?_; refine XS.bipush X0.here hx rfl (D d12_51) ?_; refine XS.icmpYes X0.here hx rfl (pc0 := 53) (pc' := 64) rfl (D d12_53) rfl (tlt (by simp only [Int32.lt_iff_toInt_lt, ← Int32.toInt_inj, Int32.reduceToInt] at u0 u1 ⊢; omega : cc < (48 : Int32))).1 (by decide) (by decide) ?_; refine XS.iloadN X0.here hx rfl (D d12_64) rfl ?_; refine XS.bipush X0.here hx rfl (D d12_65) ?_; refine XS.icmpYes X0.here hx rfl (pc0 := 67) (pc' := 78) rfl (D d12_67) rfl (tlt (by simp only [Int32.lt_iff_toInt_lt, ← Int32.toInt_inj, Int32.reduceToInt] at u0 u1 ⊢; omega : cc < (65 : Int32))).1 (by decide) (by decide) ?_; refine XS.iloadN X0.here hx rfl (D d12_78) rfl ?_; refine XS.bipush X0.here hx rfl (D d12_79) ?_; refine XS.icmpYes X0.here hx rfl (pc0 := 81) (pc' := 92) rfl (D d12_81) rfl (tlt (by simp only [Int32.lt_iff_toInt_lt, ← Int32.toInt_inj, Int32.reduceToInt] at u0 u1 ⊢; omega : cc < (94 : Int32))).1 (by decide) (by decide) ?_; refine XS.iloadN X0.here hx rfl (D d12_92) rfl ?_; refine XS.bipush X0.here hx rfl (D d12_93) ?_; refine XS.icmpYes X0.here hx rfl (pc0 := 95) (pc' := 100) rfl (D d12_95) rfl (feq (by simp only [Int32.lt_iff_toInt_lt, ← Int32.toInt_inj, Int32.reduceToInt] at u0 u1 ⊢; omega : ¬ cc = (124 : Int32))).2 (by decide) (by decide) ?_; refine XS.iloadN X0.here hx rfl (D d12_100) rfl ?_; refine XS.bipush X0.here hx rfl (D d12_101) ?_; refine XS.icmpYes X0.here hx rfl (pc0 := 103) (pc' := 108) rfl (D d12_103) rfl (feq (by simp only [Int32.lt_iff_toInt_lt, ← Int32.toInt_inj, Int32.reduceToInt] at u0 u1 ⊢; omega : ¬ cc = (126 : Int32))).2 (by decide) (by decide) ?_; refine XS.iconst X0.here hx rfl (D d12_108) ?_; exact kont)
      obtain ⟨fs, hr, hrun, hended, hW, hsame⟩ := X0.leave (v := some (.int (0 : Int32))) (fun h => by rw [Bd.returns] at h; cases h)
      refine ⟨_, _, go4 _ ?_, hrun, hended, _, _, rfl, ?_, ⟨_, rfl⟩, hW, hsame.mono (by decide) (by decide)⟩
      · show Steps p.tables e below (s₁.setTop (mkF m 109 #[(si cc)] [(.int 0)])) _
        exact retN X0 hx (t := .boolean) Bd.returns (by simp) (D d12_109) hr
      · show QTC Z cc h0 n0 _ s₁.heap _
        rw [e0]
        exact ⟨Or.inr ⟨rfl, (by simp only [own_tc, own_an, own_sp, Int32.lt_iff_toInt_lt, ← Int32.toInt_inj, Int32.reduceToInt] at u0 u1 ⊢; omega)⟩, rfl, rfl⟩
    · have go5 : Go p e below E0 s₁ m 17 #[(si cc)] [(.int 39), (.int cc)] := fun tgt kont => go3 tgt (by
        refine XS.icmpNo X0.here hx rfl (D d12_11) rfl (flt u1).1 ?_; refine XS.iloadN X0.here hx rfl (D d12_14) rfl ?_; refine XS.bipush X0.here hx rfl (D d12_15) ?_; exact kont)
      by_cases u2 : (39 : Int32) < cc
      · have go6 : Go p e below E0 s₁ m 25 #[(si cc)] [(.int 42), (.int cc)] := fun tgt kont => go5 tgt (by
          refine XS.icmpYes X0.here hx rfl (pc0 := 17) (pc' := 22) rfl (D d12_17) rfl (tlt u2).2.2.1 (by decide) (by decide) ?_; refine XS.iloadN X0.here hx rfl (D d12_22) rfl ?_; refine XS.bipush X0.here hx rfl (D d12_23) ?_; exact kont)
        by_cases u3 : cc < (42 : Int32)
        · have go7 : Go p e below E0 s₁ m 109 #[(si cc)] [(.int 0)] := fun tgt kont => go6 tgt (by
            refine XS.icmpYes X0.here hx rfl (pc0 := 25) (pc' := 36) rfl (D d12_25) rfl (tlt u3).1 (by decide) (by decide) ?_; refine XS.iloadN X0.here hx rfl (D d12_36) rfl ?_; refine XS.bipush X0.here hx rfl (D d12_37) ?_; refine XS.icmpYes X0.here hx rfl (pc0 := 39) (pc' := 50) rfl (D d12_39) rfl (tlt (by simp only [Int32.lt_iff_toInt_lt, ← Int32.toInt_inj, Int32.reduceToInt] at u0 u1 u2 u3 ⊢; omega : cc < (45 : Int32))).1 (by decide) (by decide) ?_; refine XS.iloadN X0.here hx rfl (D d12_50) rfl ?_; refine XS.bipush X0.here hx rfl (D d12_51) ?_; refine XS.icmpYes X0.here hx rfl (pc0 := 53) (pc' := 64) rfl (D d12_53) rfl (tlt (by simp only [Int32.lt_iff_toInt_lt, ← Int32.toInt_inj, Int32.reduceToInt] at u0 u1 u2 u3 ⊢; omega : cc < (48 : Int32))).1 (by decide) (by decide) ?_; refine XS.iloadN X0.here hx rfl (D d12_64) rfl ?_; refine XS.bipush X0.here hx rfl (D d12_65) ?_; refine XS.icmpYes X0.here hx rfl (pc0 := 67) (pc' := 78) rfl (D d12_67) rfl (tlt (by simp only [Int32.lt_iff_toInt_lt, ← Int32.toInt_inj, Int32.reduceToInt] at u0 u1 u2 u3 ⊢; omega : cc < (65 : Int32))).1 (by decide) (by decide) ?_; refine XS.iloadN X0.here hx rfl (D d12_78) rfl ?_; refine XS.bipush X0.here hx rfl (D d12_79) ?_; refine XS.icmpYes X0.here hx rfl (pc0 := 81) (pc' := 92) rfl (D d12_81) rfl (tlt (by simp only [Int32.lt_iff_toInt_lt, ← Int32.toInt_inj, Int32.reduceToInt] at u0 u1 u2 u3 ⊢; omega : cc < (94 : Int32))).1 (by decide) (by decide) ?_; refine XS.iloadN X0.here hx rfl (D d12_92) rfl ?_; refine XS.bipush X0.here hx rfl (D d12_93) ?_; refine XS.icmpYes X0.here hx rfl (pc0 := 95) (pc' := 100) rfl (D d12_95) rfl (feq (by simp only [Int32.lt_iff_toInt_lt, ← Int32.toInt_inj, Int32.reduceToInt] at u0 u1 u2 u3 ⊢; omega : ¬ cc = (124 : Int32))).2 (by decide) (by decide) ?_; refine XS.iloadN X0.here hx rfl (D d12_100) rfl ?_; refine XS.bipush X0.here hx rfl (D d12_101) ?_; refine XS.icmpYes X0.here hx rfl (pc0 := 103) (pc' := 108) rfl (D d12_103) rfl (feq (by simp only [Int32.lt_iff_toInt_lt, ← Int32.toInt_inj, Int32.reduceToInt] at u0 u1 u2 u3 ⊢; omega : ¬ cc = (126 : Int32))).2 (by decide) (by decide) ?_; refine XS.iconst X0.here hx rfl (D d12_108) ?_; exact kont)
          obtain ⟨fs, hr, hrun, hended, hW, hsame⟩ := X0.leave (v := some (.int (0 : Int32))) (fun h => by rw [Bd.returns] at h; cases h)
          refine ⟨_, _, go7 _ ?_, hrun, hended, _, _, rfl, ?_, ⟨_, rfl⟩, hW, hsame.mono (by decide) (by decide)⟩
          · show Steps p.tables e below (s₁.setTop (mkF m 109 #[(si cc)] [(.int 0)])) _
            exact retN X0 hx (t := .boolean) Bd.returns (by simp) (D d12_109) hr
          · show QTC Z cc h0 n0 _ s₁.heap _
            rw [e0]
            exact ⟨Or.inr ⟨rfl, (by simp only [own_tc, own_an, own_sp, Int32.lt_iff_toInt_lt, ← Int32.toInt_inj, Int32.reduceToInt] at u0 u1 u2 u3 ⊢; omega)⟩, rfl, rfl⟩
        · have go8 : Go p e below E0 s₁ m 31 #[(si cc)] [(.int 43), (.int cc)] := fun tgt kont => go6 tgt (by
            refine XS.icmpNo X0.here hx rfl (D d12_25) rfl (flt u3).1 ?_; refine XS.iloadN X0.here hx rfl (D d12_28) rfl ?_; refine XS.bipush X0.here hx rfl (D d12_29) ?_; exact kont)
          by_cases u4 : (43 : Int32) < cc
          · have go9 : Go p e below E0 s₁ m 39 #[(si cc)] [(.int 45), (.int cc)] := fun tgt kont => go8 tgt (by
              refine XS.icmpYes X0.here hx rfl (pc0 := 31) (pc' := 36) rfl (D d12_31) rfl (tlt u4).2.2.1 (by decide) (by decide) ?_; refine XS.iloadN X0.here hx rfl (D d12_36) rfl ?_; refine XS.bipush X0.here hx rfl (D d12_37) ?_; exact kont)
            by_cases u5 : cc < (45 : Int32)
            · have go10 : Go p e below E0 s₁ m 109 #[(si cc)] [(.int 0)] := fun tgt kont => go9 tgt (by
                refine XS.icmpYes X0.here hx rfl (pc0 := 39) (pc' := 50) rfl (D d12_39) rfl (tlt u5).1 (by decide) (by decide) ?_; refine XS.iloadN X0.here hx rfl (D d12_50) rfl ?_; refine XS.bipush X0.here hx rfl (D d12_51) ?_; refine XS.icmpYes X0.here hx rfl (pc0 := 53) (pc' := 64) rfl (D d12_53) rfl (tlt (by simp only [Int32.lt_iff_toInt_lt, ← Int32.toInt_inj, Int32.reduceToInt] at u0 u1 u2 u3 u4 u5 ⊢; omega : cc < (48 : Int32))).1 (by decide) (by decide) ?_; refine XS.iloadN X0.here hx rfl (D d12_64) rfl ?_; refine XS.bipush X0.here hx rfl (D d12_65) ?_; refine XS.icmpYes X0.here hx rfl (pc0 := 67) (pc' := 78) rfl (D d12_67) rfl (tlt (by simp only [Int32.lt_iff_toInt_lt, ← Int32.toInt_inj, Int32.reduceToInt] at u0 u1 u2 u3 u4 u5 ⊢; omega : cc < (65 : Int32))).1 (by decide) (by decide) ?_; refine XS.iloadN X0.here hx rfl (D d12_78) rfl ?_; refine XS.bipush X0.here hx rfl (D d12_79) ?_; refine XS.icmpYes X0.here hx rfl (pc0 := 81) (pc' := 92) rfl (D d12_81) rfl (tlt (by simp only [Int32.lt_iff_toInt_lt, ← Int32.toInt_inj, Int32.reduceToInt] at u0 u1 u2 u3 u4 u5 ⊢; omega : cc < (94 : Int32))).1 (by decide) (by decide) ?_; refine XS.iloadN X0.here hx rfl (D d12_92) rfl ?_; refine XS.bipush X0.here hx rfl (D d12_93) ?_; refine XS.icmpYes X0.here hx rfl (pc0 := 95) (pc' := 100) rfl (D d12_95) rfl (feq (by simp only [Int32.lt_iff_toInt_lt, ← Int32.toInt_inj, Int32.reduceToInt] at u0 u1 u2 u3 u4 u5 ⊢; omega : ¬ cc = (124 : Int32))).2 (by decide) (by decide) ?_; refine XS.iloadN X0.here hx rfl (D d12_100) rfl ?_; refine XS.bipush X0.here hx rfl (D d12_101) ?_; refine XS.icmpYes X0.here hx rfl (pc0 := 103) (pc' := 108) rfl (D d12_103) rfl (feq (by simp only [Int32.lt_iff_toInt_lt, ← Int32.toInt_inj, Int32.reduceToInt] at u0 u1 u2 u3 u4 u5 ⊢; omega : ¬ cc = (126 : Int32))).2 (by decide) (by decide) ?_; refine XS.iconst X0.here hx rfl (D d12_108) ?_; exact kont)
              obtain ⟨fs, hr, hrun, hended, hW, hsame⟩ := X0.leave (v := some (.int (0 : Int32))) (fun h => by rw [Bd.returns] at h; cases h)
              refine ⟨_, _, go10 _ ?_, hrun, hended, _, _, rfl, ?_, ⟨_, rfl⟩, hW, hsame.mono (by decide) (by decide)⟩
              · show Steps p.tables e below (s₁.setTop (mkF m 109 #[(si cc)] [(.int 0)])) _
                exact retN X0 hx (t := .boolean) Bd.returns (by simp) (D d12_109) hr
              · show QTC Z cc h0 n0 _ s₁.heap _
                rw [e0]
                exact ⟨Or.inr ⟨rfl, (by simp only [own_tc, own_an, own_sp, Int32.lt_iff_toInt_lt, ← Int32.toInt_inj, Int32.reduceToInt] at u0 u1 u2 u3 u4 u5 ⊢; omega)⟩, rfl, rfl⟩
            · have go11 : Go p e below E0 s₁ m 45 #[(si cc)] [(.int 46), (.int cc)] := fun tgt kont => go9 tgt (by
                refine XS.icmpNo X0.here hx rfl (D d12_39) rfl (flt u5).1 ?_; refine XS.iloadN X0.here hx rfl (D d12_42) rfl ?_; refine XS.bipush X0.here hx rfl (D d12_43) ?_; exact kont)
              by_cases u6 : (46 : Int32) < cc
              · have go12 : Go p e below E0 s₁ m 53 #[(si cc)] [(.int 48), (.int cc)] := fun tgt kont => go11 tgt (by
                  refine XS.icmpYes X0.here hx rfl (pc0 := 45) (pc' := 50) rfl (D d12_45) rfl (tlt u6).2.2.1 (by decide) (by decide) ?_; refine XS.iloadN X0.here hx rfl (D d12_50) rfl ?_; refine XS.bipush X0.here hx rfl (D d12_51) ?_; exact kont)
                by_cases u7 : cc < (48 : Int32)
                · have go13 : Go p e below E0 s₁ m 109 #[(si cc)] [(.int 0)] := fun tgt kont => go12 tgt (by
                    refine XS.icmpYes X0.here hx rfl (pc0 := 53) (pc' := 64) rfl (D d12_53) rfl (tlt u7).1 (by decide) (by decide) ?_; refine XS.iloadN X0.here hx rfl (D d12_64) rfl ?_; refine XS.bipush X0.here hx rfl (D d12_65) ?_; refine XS.icmpYes X0.here hx rfl (pc0 := 67) (pc' := 78) rfl (D d12_67) rfl (tlt (by simp only [Int32.lt_iff_toInt_lt, ← Int32.toInt_inj, Int32.reduceToInt] at u0 u1 u2 u3 u4 u5 u6 u7 ⊢; omega : cc < (65 : Int32))).1 (by decide) (by decide) ?_; refine XS.iloadN X0.here hx rfl (D d12_78) rfl ?_; refine XS.bipush X0.here hx rfl (D d12_79) ?_; refine XS.icmpYes X0.here hx rfl (pc0 := 81) (pc' := 92) rfl (D d12_81) rfl (tlt (by simp only [Int32.lt_iff_toInt_lt, ← Int32.toInt_inj, Int32.reduceToInt] at u0 u1 u2 u3 u4 u5 u6 u7 ⊢; omega : cc < (94 : Int32))).1 (by decide) (by decide) ?_; refine XS.iloadN X0.here hx rfl (D d12_92) rfl ?_; refine XS.bipush X0.here hx rfl (D d12_93) ?_; refine XS.icmpYes X0.here hx rfl (pc0 := 95) (pc' := 100) rfl (D d12_95) rfl (feq (by simp only [Int32.lt_iff_toInt_lt, ← Int32.toInt_inj, Int32.reduceToInt] at u0 u1 u2 u3 u4 u5 u6 u7 ⊢; omega : ¬ cc = (124 : Int32))).2 (by decide) (by decide) ?_; refine XS.iloadN X0.here hx rfl (D d12_100) rfl ?_; refine XS.bipush X0.here hx rfl (D d12_101) ?_; refine XS.icmpYes X0.here hx rfl (pc0 := 103) (pc' := 108) rfl (D d12_103) rfl (feq (by simp only [Int32.lt_iff_toInt_lt, ← Int32.toInt_inj, Int32.reduceToInt] at u0 u1 u2 u3 u4 u5 u6 u7 ⊢; omega : ¬ cc = (126 : Int32))).2 (by decide) (by decide) ?_; refine XS.iconst X0.here hx rfl (D d12_108) ?_; exact kont)
                  obtain ⟨fs, hr, hrun, hended, hW, hsame⟩ := X0.leave (v := some (.int (0 : Int32))) (fun h => by rw [Bd.returns] at h; cases h)
                  refine ⟨_, _, go13 _ ?_, hrun, hended, _, _, rfl, ?_, ⟨_, rfl⟩, hW, hsame.mono (by decide) (by decide)⟩
                  · show Steps p.tables e below (s₁.setTop (mkF m 109 #[(si cc)] [(.int 0)])) _
                    exact retN X0 hx (t := .boolean) Bd.returns (by simp) (D d12_109) hr
                  · show QTC Z cc h0 n0 _ s₁.heap _
                    rw [e0]
                    exact ⟨Or.inr ⟨rfl, (by simp only [own_tc, own_an, own_sp, Int32.lt_iff_toInt_lt, ← Int32.toInt_inj, Int32.reduceToInt] at u0 u1 u2 u3 u4 u5 u6 u7 ⊢; omega)⟩, rfl, rfl⟩
                · have go14 : Go p e below E0 s₁ m 59 #[(si cc)] [(.int 57), (.int cc)] := fun tgt kont => go12 tgt (by
                    refine XS.icmpNo X0.here hx rfl (D d12_53) rfl (flt u7).1 ?_; refine XS.iloadN X0.here hx rfl (D d12_56) rfl ?_; refine XS.bipush X0.here hx rfl (D d12_57) ?_; exact kont)
                  by_cases u8 : (57 : Int32) < cc
                  · have go15 : Go p e below E0 s₁ m 67 #[(si cc)] [(.int 65), (.int cc)] := fun tgt kont => go14 tgt (by
                      refine XS.icmpYes X0.here hx rfl (pc0 := 59) (pc' := 64) rfl (D d12_59) rfl (tlt u8).2.2.1 (by decide) (by decide) ?_; refine XS.iloadN X0.here hx rfl (D d12_64) rfl ?_; refine XS.bipush X0.here hx rfl (D d12_65) ?_; exact kont)
                    by_cases u9 : cc < (65 : Int32)
                    · have go16 : Go p e below E0 s₁ m 109 #[(si cc)] [(.int 0)] := fun tgt kont => go15 tgt (by
                        refine XS.icmpYes X0.here hx rfl (pc0 := 67) (pc' := 78) rfl (D d12_67) rfl (tlt u9).1 (by decide) (by decide) ?_; refine XS.iloadN X0.here hx rfl (D d12_78) rfl ?_; refine XS.bipush X0.here hx rfl (D d12_79) ?_; refine XS.icmpYes X0.here hx rfl (pc0 := 81) (pc' := 92) rfl (D d12_81) rfl (tlt (by simp only [Int32.lt_iff_toInt_lt, ← Int32.toInt_inj, Int32.reduceToInt] at u0 u1 u2 u3 u4 u5 u6 u7 u8 u9 ⊢; omega : cc < (94 : Int32))).1 (by decide) (by decide) ?_; refine XS.iloadN X0.here hx rfl (D d12_92) rfl ?_; refine XS.bipush X0.here hx rfl (D d12_93) ?_; refine XS.icmpYes X0.here hx rfl (pc0 := 95) (pc' := 100) rfl (D d12_95) rfl (feq (by simp only [Int32.lt_iff_toInt_lt, ← Int32.toInt_inj, Int32.reduceToInt] at u0 u1 u2 u3 u4 u5 u6 u7 u8 u9 ⊢; omega : ¬ cc = (124 : Int32))).2 (by decide) (by decide) ?_; refine XS.iloadN X0.here hx rfl (D d12_100) rfl ?_; refine XS.bipush X0.here hx rfl (D d12_101) ?_; refine XS.icmpYes X0.here hx rfl (pc0 := 103) (pc' := 108) rfl (D d12_103) rfl (feq (by simp only [Int32.lt_iff_toInt_lt, ← Int32.toInt_inj, Int32.reduceToInt] at u0 u1 u2 u3 u4 u5 u6 u7 u8 u9 ⊢; omega : ¬ cc = (126 : Int32))).2 (by decide) (by decide) ?_; refine XS.iconst X0.here hx rfl (D d12_108) ?_; exact kont)
                      obtain ⟨fs, hr, hrun, hended, hW, hsame⟩ := X0.leave (v := some (.int (0 : Int32))) (fun h => by rw [Bd.returns] at h; cases h)
                      refine ⟨_, _, go16 _ ?_, hrun, hended, _, _, rfl, ?_, ⟨_, rfl⟩, hW, hsame.mono (by decide) (by decide)⟩
                      · show Steps p.tables e below (s₁.setTop (mkF m 109 #[(si cc)] [(.int 0)])) _
                        exact retN X0 hx (t := .boolean) Bd.returns (by simp) (D d12_109) hr
                      · show QTC Z cc h0 n0 _ s₁.heap _
                        rw [e0]
                        exact ⟨Or.inr ⟨rfl, (by simp only [own_tc, own_an, own_sp, Int32.lt_iff_toInt_lt, ← Int32.toInt_inj, Int32.reduceToInt] at u0 u1 u2 u3 u4 u5 u6 u7 u8 u9 ⊢; omega)⟩, rfl, rfl⟩
                    · have go17 : Go p e below E0 s₁ m 73 #[(si cc)] [(.int 90), (.int cc)] := fun tgt kont => go15 tgt (by
                        refine XS.icmpNo X0.here hx rfl (D d12_67) rfl (flt u9).1 ?_; refine XS.iloadN X0.here hx rfl (D d12_70) rfl ?_; refine XS.bipush X0.here hx rfl (D d12_71) ?_; exact kont)
                      by_cases u10 : (90 : Int32) < cc
                      · have go18 : Go p e below E0 s₁ m 81 #[(si cc)] [(.int 94), (.int cc)] := fun tgt kont => go17 tgt (by
                          refine XS.icmpYes X0.here hx rfl (pc0 := 73) (pc' := 78) rfl (D d12_73) rfl (tlt u10).2.2.1 (by decide) (by decide) ?_; refine XS.iloadN X0.here hx rfl (D d12_78) rfl ?_; refine XS.bipush X0.here hx rfl (D d12_79) ?_; exact kont)
                        by_cases u11 : cc < (94 : Int32)
                        · have go19 : Go p e below E0 s₁ m 109 #[(si cc)] [(.int 0)] := fun tgt kont => go18 tgt (by
                            refine XS.icmpYes X0.here hx rfl (pc0 := 81) (pc' := 92) rfl (D d12_81) rfl (tlt u11).1 (by decide) (by decide) ?_; refine XS.iloadN X0.here hx rfl (D d12_92) rfl ?_; refine XS.bipush X0.here hx rfl (D d12_93) ?_; refine XS.icmpYes X0.here hx rfl (pc0 := 95) (pc' := 100) rfl (D d12_95) rfl (feq (by simp only [Int32.lt_iff_toInt_lt, ← Int32.toInt_inj, Int32.reduceToInt] at u0 u1 u2 u3 u4 u5 u6 u7 u8 u9 u10 u11 ⊢; omega : ¬ cc = (124 : Int32))).2 (by decide) (by decide) ?_; refine XS.iloadN X0.here hx rfl (D d12_100) rfl ?_; refine XS.bipush X0.here hx rfl (D d12_101) ?_; refine XS.icmpYes X0.here hx rfl (pc0 := 103) (pc' := 108) rfl (D d12_103) rfl (feq (by simp only [Int32.lt_iff_toInt_lt, ← Int32.toInt_inj, Int32.reduceToInt] at u0 u1 u2 u3 u4 u5 u6 u7 u8 u9 u10 u11 ⊢; omega : ¬ cc = (126 : Int32))).2 (by decide) (by decide) ?_; refine XS.iconst X0.here hx rfl (D d12_108) ?_; exact kont)
                          obtain ⟨fs, hr, hrun, hended, hW, hsame⟩ := X0.leave (v := some (.int (0 : Int32))) (fun h => by rw [Bd.returns] at h; cases h)
                          refine ⟨_, _, go19 _ ?_, hrun, hended, _, _, rfl, ?_, ⟨_, rfl⟩, hW, hsame.mono (by decide) (by decide)⟩
                          · show Steps p.tables e below (s₁.setTop (mkF m 109 #[(si cc)] [(.int 0)])) _
                            exact retN X0 hx (t := .boolean) Bd.returns (by simp) (D d12_109) hr
                          · show QTC Z cc h0 n0 _ s₁.heap _
                            rw [e0]
                            exact ⟨Or.inr ⟨rfl, (by simp only [own_tc, own_an, own_sp, Int32.lt_iff_toInt_lt, ← Int32.toInt_inj, Int32.reduceToInt] at u0 u1 u2 u3 u4 u5 u6 u7 u8 u9 u10 u11 ⊢; omega)⟩, rfl, rfl⟩
                        · have go20 : Go p e below E0 s₁ m 87 #[(si cc)] [(.int 122), (.int cc)] := fun tgt kont => go18 tgt (by
                            refine XS.icmpNo X0.here hx rfl (D d12_81) rfl (flt u11).1 ?_; refine XS.iloadN X0.here hx rfl (D d12_84) rfl ?_; refine XS.bipush X0.here hx rfl (D d12_85) ?_; exact kont)
                          by_cases u12 : (122 : Int32) < cc
                          · have go21 : Go p e below E0 s₁ m 95 #[(si cc)] [(.int 124), (.int cc)] := fun tgt kont => go20 tgt (by
                              refine XS.icmpYes X0.here hx rfl (pc0 := 87) (pc' := 92) rfl (D d12_87) rfl (tlt u12).2.2.1 (by decide) (by decide) ?_; refine XS.iloadN X0.here hx rfl (D d12_92) rfl ?_; refine XS.bipush X0.here hx rfl (D d12_93) ?_; exact kont)
                            by_cases u13 : cc = (124 : Int32)
                            · have go22 : Go p e below E0 s₁ m 99 #[(si cc)] [(.int 1)] := fun tgt kont => go21 tgt (by
                                refine XS.icmpNo X0.here hx rfl (D d12_95) rfl (teq u13).2 ?_; refine XS.iconst X0.here hx rfl (D d12_98) ?_; exact kont)
                              obtain ⟨fs, hr, hrun, hended, hW, hsame⟩ := X0.leave (v := some (.int (1 : Int32))) (fun h => by rw [Bd.returns] at h; cases h)
                              refine ⟨_, _, go22 _ ?_, hrun, hended, _, _, rfl, ?_, ⟨_, rfl⟩, hW, hsame.mono (by decide) (by decide)⟩
                              · show Steps p.tables e below (s₁.setTop (mkF m 99 #[(si cc)] [(.int 1)])) _
                                exact retN X0 hx (t := .boolean) Bd.returns (by simp) (D d12_99) hr
                              · show QTC Z cc h0 n0 _ s₁.heap _
                                rw [e0]
                                exact ⟨Or.inl ⟨rfl, (by simp only [own_tc, own_an, own_sp, Int32.lt_iff_toInt_lt, ← Int32.toInt_inj, Int32.reduceToInt] at u0 u1 u2 u3 u4 u5 u6 u7 u8 u9 u10 u11 u12 u13 ⊢; omega)⟩, rfl, rfl⟩
                            · have go23 : Go p e below E0 s₁ m 103 #[(si cc)] [(.int 126), (.int cc)] := fun tgt kont => go21 tgt (by
                                refine XS.icmpYes X0.here hx rfl (pc0 := 95) (pc' := 100) rfl (D d12_95) rfl (feq u13).2 (by decide) (by decide) ?_; refine XS.iloadN X0.here hx rfl (D d12_100) rfl ?_; refine XS.bipush X0.here hx rfl (D d12_101) ?_; exact kont)
                              by_cases u14 : cc = (126 : Int32)
                              · have go24 : Go p e below E0 s₁ m 107 #[(si cc)] [(.int 1)] := fun tgt kont => go23 tgt (by
                                  refine XS.icmpNo X0.here hx rfl (D d12_103) rfl (teq u14).2 ?_; refine XS.iconst X0.here hx rfl (D d12_106) ?_; exact kont)
                                obtain ⟨fs, hr, hrun, hended, hW, hsame⟩ := X0.leave (v := some (.int (1 : Int32))) (fun h => by rw [Bd.returns] at h; cases h)
                                refine ⟨_, _, go24 _ ?_, hrun, hended, _, _, rfl, ?_, ⟨_, rfl⟩, hW, hsame.mono (by decide) (by decide)⟩
                                · show Steps p.tables e below (s₁.setTop (mkF m 107 #[(si cc)] [(.int 1)])) _
                                  exact retN X0 hx (t := .boolean) Bd.returns (by simp) (D d12_107) hr
                                · show QTC Z cc h0 n0 _ s₁.heap _
                                  rw [e0]
                                  exact ⟨Or.inl ⟨rfl, (by simp only [own_tc, own_an, own_sp, Int32.lt_iff_toInt_lt, ← Int32.toInt_inj, Int32.reduceToInt] at u0 u1 u2 u3 u4 u5 u6 u7 u8 u9 u10 u11 u12 u13 u14 ⊢; omega)⟩, rfl, rfl⟩
                              · have go25 : Go p e below E0 s₁ m 109 #[(si cc)] [(.int 0)] := fun tgt kont => go23 tgt (by
                                  refine XS.icmpYes X0.here hx rfl (pc0 := 103) (pc' := 108) rfl (D d12_103) rfl (feq u14).2 (by decide) (by decide) ?_; refine XS.iconst X0.here hx rfl (D d12_108) ?_; exact kont)
                                obtain ⟨fs, hr, hrun, hended, hW, hsame⟩ := X0.leave (v := some (.int (0 : Int32))) (fun h => by rw [Bd.returns] at h; cases h)
                                refine ⟨_, _, go25 _ ?_, hrun, hended, _, _, rfl, ?_, ⟨_, rfl⟩, hW, hsame.mono (by decide) (by decide)⟩
                                · show Steps p.tables e below (s₁.setTop (mkF m 109 #[(si cc)] [(.int 0)])) _
                                  exact retN X0 hx (t := .boolean) Bd.returns (by simp) (D d12_109) hr
                                · show QTC Z cc h0 n0 _ s₁.heap _
                                  rw [e0]
                                  exact ⟨Or.inr ⟨rfl, (by simp only [own_tc, own_an, own_sp, Int32.lt_iff_toInt_lt, ← Int32.toInt_inj, Int32.reduceToInt] at u0 u1 u2 u3 u4 u5 u6 u7 u8 u9 u10 u11 u12 u13 u14 ⊢; omega)⟩, rfl, rfl⟩
                          · have go26 : Go p e below E0 s₁ m 91 #[(si cc)] [(.int 1)] := fun tgt kont => go20 tgt (by
                              refine XS.icmpNo X0.here hx rfl (D d12_87) rfl (flt u12).2.2.1 ?_; refine XS.iconst X0.here hx rfl (D d12_90) ?_; exact kont)
                            obtain ⟨fs, hr, hrun, hended, hW, hsame⟩ := X0.leave (v := some (.int (1 : Int32))) (fun h => by rw [Bd.returns] at h; cases h)
                            refine ⟨_, _, go26 _ ?_, hrun, hended, _, _, rfl, ?_, ⟨_, rfl⟩, hW, hsame.mono (by decide) (by decide)⟩
                            · show Steps p.tables e below (s₁.setTop (mkF m 91 #[(si cc)] [(.int 1)])) _
                              exact retN X0 hx (t := .boolean) Bd.returns (by simp) (D d12_91) hr
                            · show QTC Z cc h0 n0 _ s₁.heap _
                              rw [e0]
                              exact ⟨Or.inl ⟨rfl, (by simp only [own_tc, own_an, own_sp, Int32.lt_iff_toInt_lt, ← Int32.toInt_inj, Int32.reduceToInt] at u0 u1 u2 u3 u4 u5 u6 u7 u8 u9 u10 u11 u12 ⊢; omega)⟩, rfl, rfl⟩
                      · have go27 : Go p e below E0 s₁ m 77 #[(si cc)] [(.int 1)] := fun tgt kont => go17 tgt (by
                          refine XS.icmpNo X0.here hx rfl (D d12_73) rfl (flt u10).2.2.1 ?_; refine XS.iconst X0.here hx rfl (D d12_76) ?_; exact kont)
                        obtain ⟨fs, hr, hrun, hended, hW, hsame⟩ := X0.leave (v := some (.int (1 : Int32))) (fun h => by rw [Bd.returns] at h; cases h)
                        refine ⟨_, _, go27 _ ?_, hrun, hended, _, _, rfl, ?_, ⟨_, rfl⟩, hW, hsame.mono (by decide) (by decide)⟩
                        · show Steps p.tables e below (s₁.setTop (mkF m 77 #[(si cc)] [(.int 1)])) _
                          exact retN X0 hx (t := .boolean) Bd.returns (by simp) (D d12_77) hr
                        · show QTC Z cc h0 n0 _ s₁.heap _
                          rw [e0]
                          exact ⟨Or.inl ⟨rfl, (by simp only [own_tc, own_an, own_sp, Int32.lt_iff_toInt_lt, ← Int32.toInt_inj, Int32.reduceToInt] at u0 u1 u2 u3 u4 u5 u6 u7 u8 u9 u10 ⊢; omega)⟩, rfl, rfl⟩
                  · have go28 : Go p e below E0 s₁ m 63 #[(si cc)] [(.int 1)] := fun tgt kont => go14 tgt (by
                      refine XS.icmpNo X0.here hx rfl (D d12_59) rfl (flt u8).2.2.1 ?_; refine XS.iconst X0.here hx rfl (D d12_62) ?_; exact kont)
                    obtain ⟨fs, hr, hrun, hended, hW, hsame⟩ := X0.leave (v := some (.int (1 : Int32))) (fun h => by rw [Bd.returns] at h; cases h)
                    refine ⟨_, _, go28 _ ?_, hrun, hended, _, _, rfl, ?_, ⟨_, rfl⟩, hW, hsame.mono (by decide) (by decide)⟩
                    · show Steps p.tables e below (s₁.setTop (mkF m 63 #[(si cc)] [(.int 1)])) _
                      exact retN X0 hx (t := .boolean) Bd.returns (by simp) (D d12_63) hr
                    · show QTC Z cc h0 n0 _ s₁.heap _
                      rw [e0]
                      exact ⟨Or.inl ⟨rfl, (by simp only [own_tc, own_an, own_sp, Int32.lt_iff_toInt_lt, ← Int32.toInt_inj, Int32.reduceToInt] at u0 u1 u2 u3 u4 u5 u6 u7 u8 ⊢; omega)⟩, rfl, rfl⟩
              · have go29 : Go p e below E0 s₁ m 49 #[(si cc)] [(.int 1)] := fun tgt kont => go11 tgt (by
                  refine XS.icmpNo X0.here hx rfl (D d12_45) rfl (flt u6).2.2.1 ?_; refine XS.iconst X0.here hx rfl (D d12_48) ?_; exact kont)
                obtain ⟨fs, hr, hrun, hended, hW, hsame⟩ := X0.leave (v := some (.int (1 : Int32))) (fun h => by rw [Bd.returns] at h; cases h)
                refine ⟨_, _, go29 _ ?_, hrun, hended, _, _, rfl, ?_, ⟨_, rfl⟩, hW, hsame.mono (by decide) (by decide)⟩
                · show Steps p.tables e below (s₁.setTop (mkF m 49 #[(si cc)] [(.int 1)])) _
                  exact retN X0 hx (t := .boolean) Bd.returns (by simp) (D d12_49) hr
                · show QTC Z cc h0 n0 _ s₁.heap _
                  rw [e0]
                  exact ⟨Or.inl ⟨rfl, (by simp only [own_tc, own_an, own_sp, Int32.lt_iff_toInt_lt, ← Int32.toInt_inj, Int32.reduceToInt] at u0 u1 u2 u3 u4 u5 u6 ⊢; omega)⟩, rfl, rfl⟩
          · have go30 : Go p e below E0 s₁ m 35 #[(si cc)] [(.int 1)] := fun tgt kont => go8 tgt (by
              refine XS.icmpNo X0.here hx rfl (D d12_31) rfl (flt u4).2.2.1 ?_; refine XS.iconst X0.here hx rfl (D d12_34) ?_; exact kont)
            obtain ⟨fs, hr, hrun, hended, hW, hsame⟩ := X0.leave (v := some (.int (1 : Int32))) (fun h => by rw [Bd.returns] at h; cases h)
            refine ⟨_, _, go30 _ ?_, hrun, hended, _, _, rfl, ?_, ⟨_, rfl⟩, hW, hsame.mono (by decide) (by decide)⟩
            · show Steps p.tables e below (s₁.setTop (mkF m 35 #[(si cc)] [(.int 1)])) _
              exact retN X0 hx (t := .boolean) Bd.returns (by simp) (D d12_35) hr
            · show QTC Z cc h0 n0 _ s₁.heap _
              rw [e0]
              exact ⟨Or.inl ⟨rfl, (by simp only [own_tc, own_an, own_sp, Int32.lt_iff_toInt_lt, ← Int32.toInt_inj, Int32.reduceToInt] at u0 u1 u2 u3 u4 ⊢; omega)⟩, rfl, rfl⟩
      · have go31 : Go p e below E0 s₁ m 21 #[(si cc)] [(.int 1)] := fun tgt kont => go5 tgt (by
          refine XS.icmpNo X0.here hx rfl (D d12_17) rfl (flt u2).2.2.1 ?_; refine XS.iconst X0.here hx rfl (D d12_20) ?_; exact kont)
        obtain ⟨fs, hr, hrun, hended, hW, hsame⟩ := X0.leave (v := some (.int (1 : Int32))) (fun h => by rw [Bd.returns] at h; cases h)
        refine ⟨_, _, go31 _ ?_, hrun, hended, _, _, rfl, ?_, ⟨_, rfl⟩, hW, hsame.mono (by decide) (by decide)⟩
        · show Steps p.tables e below (s₁.setTop (mkF m 21 #[(si cc)] [(.int 1)])) _
          exact retN X0 hx (t := .boolean) Bd.returns (by simp) (D d12_21) hr
        · show QTC Z cc h0 n0 _ s₁.heap _
          rw [e0]
          exact ⟨Or.inl ⟨rfl, (by simp only [own_tc, own_an, own_sp, Int32.lt_iff_toInt_lt, ← Int32.toInt_inj, Int32.reduceToInt] at u0 u1 u2 ⊢; omega)⟩, rfl, rfl⟩
theorem d13_0 : decode jdk_29_method_65_code 0 = .ok (.iload_n 0, 1) := by decide +kernel
theorem d13_1 : decode jdk_29_method_65_code 1 = .ok (.iload_n 1, 1) := by decide +kernel
theorem d13_2 : decode jdk_29_method_65_code 2 = .ok (.if_icmp .lt 7, 3) := by decide +kernel
theorem d13_5 : decode jdk_29_method_65_code 5 = .ok (.iload_n 0, 1) := by decide +kernel
theorem d13_6 : decode jdk_29_method_65_code 6 = .ok (.goto 4, 3) := by decide +kernel
theorem d13_10 : decode jdk_29_method_65_code 10 = .ok (.ireturn, 1) := by decide +kernel
theorem ef_MX (m : MethodId) (x0 : Int32) (x1 : Int32) : entryFrame m #[(.int x0), (.int x1)] 2 = mkF m 0 #[.val (.int x0), .val (.int x1)] [] := by first | (simp [entryFrame, mkF, argsToLocals, Value.category, maxLocals]; done) | rfl
def QMX (Z : State) (h0 : Heap) (n0 : Nat) (v : Option Value) (h : Heap) (L : List Loc) : Prop := v = some (.int (0 : Int32)) ∧ L = [] ∧ h = h0
abbrev RmMX : Room := ({ frames := 0, cells := 0, slots := 0, locals := 0 } : Room)
set_option maxRecDepth 65536 in
set_option maxHeartbeats 40000000 in
theorem rmMX (l : Launch) (Z : State) (a0 : Array Value) (hw : ∀ d ∈ tables_1, d.before a0 Z = true) (ws : List Jvm.Cond) (h0 : Heap) (n0 : Nat) (Z0 : n0 ≤ h0.size) :
    MetFree l (⟨"java/lang/Math", "max", "(II)I"⟩ : MethodName) (head1 (Jvm.Cond.code (⟨"java/lang/Math", "max", "(II)I"⟩ : MethodName) jdk_29_method_65_code 2 (some .int) :: ws) RmMX) (fun as_ U => as_ = #[(.int (0 : Int32)), (.int (0 : Int32))] ∧ Z.Warmed39 U.vm ∧ U.heap = h0) (fun _ _ _ _ _ => True) (fun _ U o U' => ∃ v L, o = .returned v ∧ QMX Z h0 n0 v U'.heap L ∧ FrameEnd U o U' L RmMX.cells RmMX.slots) := by
  refine MetFree.of_bodySF (by decide +kernel) hisR ?_
  intro p e s m args below meth c s₁ Bd hml0 hP hK
  obtain ⟨rfl, hZ, hh⟩ := hP
  have hx := Bd.exec
  have hby := Bd.bytes
  have D : ∀ {pc : Nat} {r : Except DecodeError (Instr × Nat)}, decode jdk_29_method_65_code pc = r → decode c.code pc = r := fun q => hb hby q
  have hml : c.maxLocals = 2 := hml0
  have hown : s.vm.findClass "java/lang/Math" = some m.cls := findClass_of_methodNamed Bd.named
  have hnm := (name_of_methodNamed Bd.named Bd.method).1
  have X0 : Stand p l e RmMX s m #[(.int (0 : Int32)), (.int (0 : Int32))] below meth c s₁ [] 0 0 := Stand.of_body Bd
  have e0 : s₁.heap = h0 := by rw [← hh, Bd.state]; rfl
  have N0 := Fr.nil n0
  obtain ⟨E0, hE0⟩ : ∃ z, z = s₁.setTop (entryFrame m #[(.int (0 : Int32)), (.int (0 : Int32))] 2) := ⟨_, rfl⟩
  rw [← hE0]
  have go0 : ∀ tgt, Steps p.tables e below (s₁.setTop (mkF m 0 #[(si 0), (si 0)] [])) tgt → Steps p.tables e below E0 tgt := fun tgt kont => by rw [hE0]; exact castTop (ef_MX m (0 : Int32) (0 : Int32)) kont
  have go1 : Go p e below E0 s₁ m 10 #[(si 0), (si 0)] [(.int 0)] := fun tgt kont => go0 tgt (by
    refine XS.iloadN X0.here hx rfl (D d13_0) rfl ?_; refine XS.iloadN X0.here hx rfl (D d13_1) rfl ?_; refine XS.icmpNo X0.here hx rfl (D d13_2) rfl (flt (by decide)).1 ?_; refine XS.iloadN X0.here hx rfl (D d13_5) rfl ?_; refine XS.goto X0.here hx rfl (pc0 := 6) (pc' := 10) rfl (D d13_6) (by decide) (by decide) ?_; exact kont)
  obtain ⟨fs, hr, hrun, hended, hW, hsame⟩ := X0.leave (v := some (.int (0 : Int32))) (fun h => by rw [Bd.returns] at h; cases h)
  refine ⟨_, _, go1 _ ?_, hrun, hended, _, _, rfl, ?_, ⟨_, rfl⟩, hW, hsame.mono (by decide) (by decide)⟩
  · show Steps p.tables e below (s₁.setTop (mkF m 10 #[(si 0), (si 0)] [(.int 0)])) _
    exact retOut X0 hx Bd.returns rfl (Or.inl ⟨rfl, Or.inl rfl, _, rfl⟩) (D d13_10) hr
  · show QMX Z h0 n0 _ s₁.heap _
    rw [e0]
    exact ⟨rfl, rfl, rfl⟩
theorem d14_0 : decode jdk_29_method_69_code 0 = .ok (.iload_n 0, 1) := by decide +kernel
theorem d14_1 : decode jdk_29_method_69_code 1 = .ok (.iload_n 1, 1) := by decide +kernel
theorem d14_2 : decode jdk_29_method_69_code 2 = .ok (.if_icmp .gt 7, 3) := by decide +kernel
theorem d14_5 : decode jdk_29_method_69_code 5 = .ok (.iload_n 0, 1) := by decide +kernel
theorem d14_6 : decode jdk_29_method_69_code 6 = .ok (.goto 4, 3) := by decide +kernel
theorem d14_10 : decode jdk_29_method_69_code 10 = .ok (.ireturn, 1) := by decide +kernel
theorem ef_MN (m : MethodId) (x0 : Int32) (x1 : Int32) : entryFrame m #[(.int x0), (.int x1)] 2 = mkF m 0 #[.val (.int x0), .val (.int x1)] [] := by first | (simp [entryFrame, mkF, argsToLocals, Value.category, maxLocals]; done) | rfl
def QMN (Z : State) (h0 : Heap) (n0 : Nat) (v : Option Value) (h : Heap) (L : List Loc) : Prop := v = some (.int (15 : Int32)) ∧ L = [] ∧ h = h0
abbrev RmMN : Room := ({ frames := 0, cells := 0, slots := 0, locals := 0 } : Room)
set_option maxRecDepth 65536 in
set_option maxHeartbeats 40000000 in
theorem rmMN (l : Launch) (Z : State) (a0 : Array Value) (hw : ∀ d ∈ tables_1, d.before a0 Z = true) (ws : List Jvm.Cond) (h0 : Heap) (n0 : Nat) (Z0 : n0 ≤ h0.size) :
    MetFree l (⟨"java/lang/Math", "min", "(II)I"⟩ : MethodName) (head1 (Jvm.Cond.code (⟨"java/lang/Math", "min", "(II)I"⟩ : MethodName) jdk_29_method_69_code 2 (some .int) :: ws) RmMN) (fun as_ U => as_ = #[(.int (15 : Int32)), (.int (15 : Int32))] ∧ Z.Warmed39 U.vm ∧ U.heap = h0) (fun _ _ _ _ _ => True) (fun _ U o U' => ∃ v L, o = .returned v ∧ QMN Z h0 n0 v U'.heap L ∧ FrameEnd U o U' L RmMN.cells RmMN.slots) := by
  refine MetFree.of_bodySF (by decide +kernel) hisR ?_
  intro p e s m args below meth c s₁ Bd hml0 hP hK
  obtain ⟨rfl, hZ, hh⟩ := hP
  have hx := Bd.exec
  have hby := Bd.bytes
  have D : ∀ {pc : Nat} {r : Except DecodeError (Instr × Nat)}, decode jdk_29_method_69_code pc = r → decode c.code pc = r := fun q => hb hby q
  have hml : c.maxLocals = 2 := hml0
  have hown : s.vm.findClass "java/lang/Math" = some m.cls := findClass_of_methodNamed Bd.named
  have hnm := (name_of_methodNamed Bd.named Bd.method).1
  have X0 : Stand p l e RmMN s m #[(.int (15 : Int32)), (.int (15 : Int32))] below meth c s₁ [] 0 0 := Stand.of_body Bd
  have e0 : s₁.heap = h0 := by rw [← hh, Bd.state]; rfl
  have N0 := Fr.nil n0
  obtain ⟨E0, hE0⟩ : ∃ z, z = s₁.setTop (entryFrame m #[(.int (15 : Int32)), (.int (15 : Int32))] 2) := ⟨_, rfl⟩
  rw [← hE0]
  have go0 : ∀ tgt, Steps p.tables e below (s₁.setTop (mkF m 0 #[(si 15), (si 15)] [])) tgt → Steps p.tables e below E0 tgt := fun tgt kont => by rw [hE0]; exact castTop (ef_MN m (15 : Int32) (15 : Int32)) kont
  have go1 : Go p e below E0 s₁ m 10 #[(si 15), (si 15)] [(.int 15)] := fun tgt kont => go0 tgt (by
    refine XS.iloadN X0.here hx rfl (D d14_0) rfl ?_; refine XS.iloadN X0.here hx rfl (D d14_1) rfl ?_; refine XS.icmpNo X0.here hx rfl (D d14_2) rfl (flt (by decide)).2.2.1 ?_; refine XS.iloadN X0.here hx rfl (D d14_5) rfl ?_; refine XS.goto X0.here hx rfl (pc0 := 6) (pc' := 10) rfl (D d14_6) (by decide) (by decide) ?_; exact kont)
  obtain ⟨fs, hr, hrun, hended, hW, hsame⟩ := X0.leave (v := some (.int (15 : Int32))) (fun h => by rw [Bd.returns] at h; cases h)
  refine ⟨_, _, go1 _ ?_, hrun, hended, _, _, rfl, ?_, ⟨_, rfl⟩, hW, hsame.mono (by decide) (by decide)⟩
  · show Steps p.tables e below (s₁.setTop (mkF m 10 #[(si 15), (si 15)] [(.int 15)])) _
    exact retOut X0 hx Bd.returns rfl (Or.inl ⟨rfl, Or.inl rfl, _, rfl⟩) (D d14_10) hr
  · show QMN Z h0 n0 _ s₁.heap _
    rw [e0]
    exact ⟨rfl, rfl, rfl⟩
theorem d15_0 : decode jdk_43_method_4_code 0 = .ok (.iload_n 0, 1) := by decide +kernel
theorem d15_1 : decode jdk_43_method_4_code 1 = .ok (.ifCond .lt 14, 3) := by decide +kernel
theorem d15_4 : decode jdk_43_method_4_code 4 = .ok (.iload_n 0, 1) := by decide +kernel
theorem d15_5 : decode jdk_43_method_4_code 5 = .ok (.sipush 255, 3) := by decide +kernel
theorem d15_8 : decode jdk_43_method_4_code 8 = .ok (.if_icmp .gt 7, 3) := by decide +kernel
theorem d15_11 : decode jdk_43_method_4_code 11 = .ok (.iconst 1, 1) := by decide +kernel
theorem d15_12 : decode jdk_43_method_4_code 12 = .ok (.goto 4, 3) := by decide +kernel
theorem d15_15 : decode jdk_43_method_4_code 15 = .ok (.iconst 0, 1) := by decide +kernel
theorem d15_16 : decode jdk_43_method_4_code 16 = .ok (.ireturn, 1) := by decide +kernel
theorem ef_CE (m : MethodId) (x0 : Int32) : entryFrame m #[(.int x0)] 1 = mkF m 0 #[.val (.int x0)] [] := by first | (simp [entryFrame, mkF, argsToLocals, Value.category, maxLocals]; done) | rfl
def QCE (Z : State) (cc : Int32) (h0 : Heap) (n0 : Nat) (v : Option Value) (h : Heap) (L : List Loc) : Prop := ((v = some (.int 1) ∧ ¬ (255 : Int32) < cc) ∨ (v = some (.int 0) ∧ ¬ ¬ (255 : Int32) < cc)) ∧ L = [] ∧ h = h0
abbrev RmCE : Room := ({ frames := 0, cells := 0, slots := 0, locals := 0 } : Room)
set_option maxRecDepth 65536 in
set_option maxHeartbeats 40000000 in
theorem rmCE (l : Launch) (Z : State) (a0 : Array Value) (hw : ∀ d ∈ tables_1, d.before a0 Z = true) (ws : List Jvm.Cond) (cc : Int32) (h0 : Heap) (n0 : Nat) (Z0 : n0 ≤ h0.size) (h1 : ¬ cc < 0) :
    MetFree l (⟨"java/lang/StringLatin1", "canEncode", "(I)Z"⟩ : MethodName) (head1 (Jvm.Cond.code (⟨"java/lang/StringLatin1", "canEncode", "(I)Z"⟩ : MethodName) jdk_43_method_4_code 1 (some .boolean) :: ws) RmCE) (fun as_ U => as_ = #[(.int cc)] ∧ Z.Warmed39 U.vm ∧ U.heap = h0) (fun _ _ _ _ _ => True) (fun _ U o U' => ∃ v L, o = .returned v ∧ QCE Z cc h0 n0 v U'.heap L ∧ FrameEnd U o U' L RmCE.cells RmCE.slots) := by
  refine MetFree.of_bodySF (plainFor_of_name pn_4) hisR ?_
  intro p e s m args below meth c s₁ Bd hml0 hP hK
  obtain ⟨rfl, hZ, hh⟩ := hP
  have hx := Bd.exec
  have hby := Bd.bytes
  have D : ∀ {pc : Nat} {r : Except DecodeError (Instr × Nat)}, decode jdk_43_method_4_code pc = r → decode c.code pc = r := fun q => hb hby q
  have hml : c.maxLocals = 1 := hml0
  have hown : s.vm.findClass "java/lang/StringLatin1" = some m.cls := findClass_of_methodNamed Bd.named
  have hnm := (name_of_methodNamed Bd.named Bd.method).1
  have X0 : Stand p l e RmCE s m #[(.int cc)] below meth c s₁ [] 0 0 := Stand.of_body Bd
  have e0 : s₁.heap = h0 := by rw [← hh, Bd.state]; rfl
  have N0 := Fr.nil n0
  obtain ⟨E0, hE0⟩ : ∃ z, z = s₁.setTop (entryFrame m #[(.int cc)] 1) := ⟨_, rfl⟩
  rw [← hE0]
  have go0 : ∀ tgt, Steps p.tables e below (s₁.setTop (mkF m 0 #[(si cc)] [])) tgt → Steps p.tables e below E0 tgt := fun tgt kont => by rw [hE0]; exact castTop (ef_CE m cc) kont
  have go1 : Go p e below E0 s₁ m 8 #[(si cc)] [(.int 255), (.int cc)] := fun tgt kont => go0 tgt (by
    refine XS.iloadN X0.here hx rfl (D d15_0) rfl ?_; refine XS.ifNo X0.here hx rfl (D d15_1) rfl ((if0 _ _).trans (flt h1).1) ?_; refine XS.iloadN X0.here hx rfl (D d15_4) rfl ?_; refine XS.sipush X0.here hx rfl (D d15_5) ?_; exact kont)
  by_cases u0 : (255 : Int32) < cc
  · have go2 : Go p e below E0 s₁ m 16 #[(si cc)] [(.int 0)] := fun tgt kont => go1 tgt (by
      refine XS.icmpYes X0.here hx rfl (pc0 := 8) (pc' := 15) rfl (D d15_8) rfl (tlt u0).2.2.1 (by decide) (by decide) ?_; refine XS.iconst X0.here hx rfl (D d15_15) ?_; exact kont)
    obtain ⟨fs, hr, hrun, hended, hW, hsame⟩ := X0.leave (v := some (.int (0 : Int32))) (fun h => by rw [Bd.returns] at h; cases h)
    refine ⟨_, _, go2 _ ?_, hrun, hended, _, _, rfl, ?_, ⟨_, rfl⟩, hW, hsame.mono (by decide) (by decide)⟩
    · show Steps p.tables e below (s₁.setTop (mkF m 16 #[(si cc)] [(.int 0)])) _
      exact retN X0 hx (t := .boolean) Bd.returns (by simp) (D d15_16) hr
    · show QCE Z cc h0 n0 _ s₁.heap _
      rw [e0]
      exact ⟨Or.inr ⟨rfl, (fun q => q u0)⟩, rfl, rfl⟩
  · have go3 : Go p e below E0 s₁ m 16 #[(si cc)] [(.int 1)] := fun tgt kont => go1 tgt (by
      refine XS.icmpNo X0.here hx rfl (D d15_8) rfl (flt u0).2.2.1 ?_; refine XS.iconst X0.here hx rfl (D d15_11) ?_; refine XS.goto X0.here hx rfl (pc0 := 12) (pc' := 16) rfl (D d15_12) (by decide) (by decide) ?_; exact kont)
    obtain ⟨fs, hr, hrun, hended, hW, hsame⟩ := X0.leave (v := some (.int (1 : Int32))) (fun h => by rw [Bd.returns] at h; cases h)
    refine ⟨_, _, go3 _ ?_, hrun, hended, _, _, rfl, ?_, ⟨_, rfl⟩, hW, hsame.mono (by decide) (by decide)⟩
    · show Steps p.tables e below (s₁.setTop (mkF m 16 #[(si cc)] [(.int 1)])) _
      exact retN X0 hx (t := .boolean) Bd.returns (by simp) (D d15_16) hr
    · show QCE Z cc h0 n0 _ s₁.heap _
      rw [e0]
      exact ⟨Or.inl ⟨rfl, u0⟩, rfl, rfl⟩
theorem own_b8 {c : Int32} (h1 : ¬ c < 0) (h2 : ¬ (255 : Int32) < c) {k : Int32} (hk : 0 ≤ k.toInt ∧ k.toInt < 128) : k = c.toInt8.toInt32 ↔ c = k := by
  have t : ∀ i : Fin 256, ∀ j : Fin 128, (Int32.ofNat j.val = (Int32.ofNat i.val).toInt8.toInt32) ↔ i.val = j.val := by decide +kernel
  rw [Int32.lt_iff_toInt_lt] at h1 h2
  have e1 : (0 : Int32).toInt = 0 := by decide
  have e2 : (255 : Int32).toInt = 255 := by decide
  have e : c = Int32.ofNat c.toInt.toNat := by
    apply Int32.toInt_inj.mp
    rw [Int32.toInt_ofNat_small (by omega)]
    omega
  have f : k = Int32.ofNat k.toInt.toNat := by
    apply Int32.toInt_inj.mp
    rw [Int32.toInt_ofNat_small (by omega)]
    omega
  have := t ⟨c.toInt.toNat, by omega⟩ ⟨k.toInt.toNat, by omega⟩
  rw [← e, ← f] at this
  rw [this]
  constructor
  · intro q; apply Int32.toInt_inj.mp; simp only at q; omega
  · intro q; subst q; rfl
theorem d16_0 : decode jdk_43_method_23_code 0 = .ok (.iload_n 1, 1) := by decide +kernel
theorem d16_1 : decode jdk_43_method_23_code 1 = .ok (.i2b, 1) := by decide +kernel
theorem d16_2 : decode jdk_43_method_23_code 2 = .ok (.istore 4, 2) := by decide +kernel
theorem d16_4 : decode jdk_43_method_23_code 4 = .ok (.iload_n 2, 1) := by decide +kernel
theorem d16_5 : decode jdk_43_method_23_code 5 = .ok (.istore 5, 2) := by decide +kernel
theorem d16_7 : decode jdk_43_method_23_code 7 = .ok (.iload 5, 2) := by decide +kernel
theorem d16_9 : decode jdk_43_method_23_code 9 = .ok (.iload_n 3, 1) := by decide +kernel
theorem d16_10 : decode jdk_43_method_23_code 10 = .ok (.if_icmp .ge 21, 3) := by decide +kernel
theorem d16_13 : decode jdk_43_method_23_code 13 = .ok (.aload_n 0, 1) := by decide +kernel
theorem d16_14 : decode jdk_43_method_23_code 14 = .ok (.iload 5, 2) := by decide +kernel
theorem d16_16 : decode jdk_43_method_23_code 16 = .ok (.baload, 1) := by decide +kernel
theorem d16_17 : decode jdk_43_method_23_code 17 = .ok (.iload 4, 2) := by decide +kernel
theorem d16_19 : decode jdk_43_method_23_code 19 = .ok (.if_icmp .ne 6, 3) := by decide +kernel
theorem d16_22 : decode jdk_43_method_23_code 22 = .ok (.iload 5, 2) := by decide +kernel
theorem d16_24 : decode jdk_43_method_23_code 24 = .ok (.ireturn, 1) := by decide +kernel
theorem d16_25 : decode jdk_43_method_23_code 25 = .ok (.iinc 5 1, 3) := by decide +kernel
theorem d16_28 : decode jdk_43_method_23_code 28 = .ok (.goto (-21), 3) := by decide +kernel
theorem d16_31 : decode jdk_43_method_23_code 31 = .ok (.iconst (-1), 1) := by decide +kernel
theorem d16_32 : decode jdk_43_method_23_code 32 = .ok (.ireturn, 1) := by decide +kernel
theorem ef_IC (m : MethodId) (x0 : Addr) (x1 : Int32) (x2 : Int32) (x3 : Int32) : entryFrame m #[(.ref x0), (.int x1), (.int x2), (.int x3)] 6 = mkF m 0 #[.val (.ref x0), .val (.int x1), .val (.int x2), .val (.int x3), .unset, .unset] [] := by first | (simp [entryFrame, mkF, argsToLocals, Value.category, maxLocals]; done) | rfl
def QIC (Z : State) (lb : Addr) (lk : ClassId) (cc : Int32) (h0 : Heap) (n0 : Nat) (v : Option Value) (h : Heap) (L : List Loc) : Prop := ∃ r : Int32, v = some (.int r) ∧ L = [] ∧ h = h0 ∧ ((¬ r < 0 ∧ own_sp cc) ∨ (r < 0 ∧ ¬ own_sp cc))
abbrev RmIC : Room := ({ frames := 0, cells := 0, slots := 0, locals := 0 } : Room)
set_option maxRecDepth 65536 in
set_option maxHeartbeats 40000000 in
theorem rmIC (l : Launch) (Z : State) (a0 : Array Value) (hw : ∀ d ∈ tables_1, d.before a0 Z = true) (ws : List Jvm.Cond) (lb : Addr) (lk : ClassId) (cc : Int32) (h0 : Heap) (n0 : Nat) (Z0 : n0 ≤ h0.size) (Ab : Arv Z h0 lb lk .byte (15 : Int32) own_SL (.int (0 : Int32))) (h1 : ¬ cc < 0) (h2 : ¬ (255 : Int32) < cc) :
    MetFree l (⟨"java/lang/StringLatin1", "indexOfChar", "([BIII)I"⟩ : MethodName) (head1 (Jvm.Cond.code (⟨"java/lang/StringLatin1", "indexOfChar", "([BIII)I"⟩ : MethodName) jdk_43_method_23_code 6 (some .int) :: ws) RmIC) (fun as_ U => as_ = #[(.ref lb), (.int cc), (.int (0 : Int32)), (.int (15 : Int32))] ∧ Z.Warmed39 U.vm ∧ U.heap = h0) (fun _ _ _ _ _ => True) (fun _ U o U' => ∃ v L, o = .returned v ∧ QIC Z lb lk cc h0 n0 v U'.heap L ∧ FrameEnd U o U' L RmIC.cells RmIC.slots) := by
  refine MetFree.of_bodySF (plainFor_of_name pn_4) hisR ?_
  intro p e s m args below meth c s₁ Bd hml0 hP hK
  obtain ⟨rfl, hZ, hh⟩ := hP
  have hx := Bd.exec
  have hby := Bd.bytes
  have D : ∀ {pc : Nat} {r : Except DecodeError (Instr × Nat)}, decode jdk_43_method_23_code pc = r → decode c.code pc = r := fun q => hb hby q
  have hml : c.maxLocals = 6 := hml0
  have hown : s.vm.findClass "java/lang/StringLatin1" = some m.cls := findClass_of_methodNamed Bd.named
  have hnm := (name_of_methodNamed Bd.named Bd.method).1
  have X0 : Stand p l e RmIC s m #[(.ref lb), (.int cc), (.int (0 : Int32)), (.int (15 : Int32))] below meth c s₁ [] 0 0 := Stand.of_body Bd
  have e0 : s₁.heap = h0 := by rw [← hh, Bd.state]; rfl
  have N0 := Fr.nil n0
  obtain ⟨E0, hE0⟩ : ∃ z, z = s₁.setTop (entryFrame m #[(.ref lb), (.int cc), (.int (0 : Int32)), (.int (15 : Int32))] 6) := ⟨_, rfl⟩
  rw [← hE0]
  have go0 : ∀ tgt, Steps p.tables e below (s₁.setTop (mkF m 0 #[(sr lb), (si cc), (si 0), (si 15), .unset, .unset] [])) tgt → Steps p.tables e below E0 tgt := fun tgt kont => by rw [hE0]; exact castTop (ef_IC m lb cc (0 : Int32) (15 : Int32)) kont
  have go1 : Go p e below E0 s₁ m 16 #[(sr lb), (si cc), (si 0), (si 15), (si (cc.toInt8.toInt32)), (si 0)] [(.int 0), (.ref lb)] := fun tgt kont => go0 tgt (by
    refine XS.iloadN X0.here hx rfl (D d16_0) rfl ?_; refine XS.i2b X0.here hx rfl (D d16_1) rfl ?_; refine XS.istore X0.here hx rfl (D d16_2) rfl (l' := #[(sr lb), (si cc), (si 0), (si 15), (si (cc.toInt8.toInt32)), .unset]) rfl ?_; refine XS.iloadN X0.here hx rfl (D d16_4) rfl ?_; refine XS.istore X0.here hx rfl (D d16_5) rfl (l' := #[(sr lb), (si cc), (si 0), (si 15), (si (cc.toInt8.toInt32)), (si 0)]) rfl ?_; refine XS.iload X0.here hx rfl (D d16_7) rfl ?_; refine XS.iloadN X0.here hx rfl (D d16_9) rfl ?_; refine XS.icmpNo X0.here hx rfl (D d16_10) rfl (tlt (by decide)).2.1 ?_; refine XS.aloadN X0.here hx rfl (D d16_13) rfl rfl ?_; refine XS.iload X0.here hx rfl (D d16_14) rfl ?_; exact kont)
  obtain ⟨c2, Ar2, q2, S2, M2, Hh2, G2⟩ := id Ab
  have hin2 : ¬ ((0 : Int32) < 0 ∨ c2.slots.size ≤ ((0 : Int32)).toNatClampNeg) := inb_of S2 ⟨by decide, by decide⟩
  have hat2 : c2.slots[((0 : Int32)).toNatClampNeg]? = some (.int (33 : Int32)) := Hh2.at hin2 rfl
  have go3 : Go p e below E0 s₁ m 19 #[(sr lb), (si cc), (si 0), (si 15), (si (cc.toInt8.toInt32)), (si 0)] [(.int (cc.toInt8.toInt32)), (.int 33)] := fun tgt kont => go1 tgt (by
    refine X0.baloadBytes hx (j := (0 : Int32)) (v := (.int (33 : Int32))) (by rw [e0]; exact Ar2.1) (State.isArrayOf_alike hZ.alike Ar2.2.1) Ar2.2.2 hin2 hat2 (g := (mkF m 16 #[(sr lb), (si cc), (si 0), (si 15), (si (cc.toInt8.toInt32)), (si 0)] [(.int 0), (.ref lb)])) rfl rfl (D d16_16) _ ?_; refine XS.iload X0.here hx rfl (D d16_17) rfl ?_; exact kont)
  have bk0 := own_b8 h1 h2 (k := (33 : Int32)) (by decide)
  by_cases u0 : cc = (33 : Int32)
  · have go4 : Go p e below E0 s₁ m 24 #[(sr lb), (si cc), (si 0), (si 15), (si (cc.toInt8.toInt32)), (si 0)] [(.int 0)] := fun tgt kont => go3 tgt (by
      refine XS.icmpNo X0.here hx rfl (D d16_19) rfl (teq (bk0.mpr u0)).2 ?_; refine XS.iload X0.here hx rfl (D d16_22) rfl ?_; exact kont)
    obtain ⟨fs, hr, hrun, hended, hW, hsame⟩ := X0.leave (v := some (.int (0 : Int32))) (fun h => by rw [Bd.returns] at h; cases h)
    refine ⟨_, _, go4 _ ?_, hrun, hended, _, _, rfl, ?_, ⟨_, rfl⟩, hW, hsame.mono (by decide) (by decide)⟩
    · show Steps p.tables e below (s₁.setTop (mkF m 24 #[(sr lb), (si cc), (si 0), (si 15), (si (cc.toInt8.toInt32)), (si 0)] [(.int 0)])) _
      exact retOut X0 hx Bd.returns rfl (Or.inl ⟨rfl, Or.inl rfl, _, rfl⟩) (D d16_24) hr
    · show QIC Z lb lk cc h0 n0 _ s₁.heap _
      rw [e0]
      exact ⟨_, rfl, rfl, rfl, Or.inl ⟨by decide, (by simp only [own_tc, own_an, own_sp, Int32.lt_iff_toInt_lt, ← Int32.toInt_inj, Int32.reduceToInt] at u0 ⊢; omega)⟩⟩
  · have go5 : Go p e below E0 s₁ m 16 #[(sr lb), (si cc), (si 0), (si 15), (si (cc.toInt8.toInt32)), (si 1)] [(.int 1), (.ref lb)] := fun tgt kont => go3 tgt (by
      refine XS.icmpYes X0.here hx rfl (pc0 := 19) (pc' := 25) rfl (D d16_19) rfl (feq (fun q => u0 (bk0.mp q))).2 (by decide) (by decide) ?_; refine XS.iinc X0.here hx rfl (D d16_25) rfl (l' := #[(sr lb), (si cc), (si 0), (si 15), (si (cc.toInt8.toInt32)), (si 1)]) rfl ?_; refine XS.goto X0.here hx rfl (pc0 := 28) (pc' := 7) rfl (D d16_28) (by decide) (by decide) ?_; refine XS.iload X0.here hx rfl (D d16_7) rfl ?_; refine XS.iloadN X0.here hx rfl (D d16_9) rfl ?_; refine XS.icmpNo X0.here hx rfl (D d16_10) rfl (tlt (by decide)).2.1 ?_; refine XS.aloadN X0.here hx rfl (D d16_13) rfl rfl ?_; refine XS.iload X0.here hx rfl (D d16_14) rfl ?_; exact kont)
    obtain ⟨c6, Ar6, q6, S6, M6, Hh6, G6⟩ := id Ab
    have hin6 : ¬ ((1 : Int32) < 0 ∨ c6.slots.size ≤ ((1 : Int32)).toNatClampNeg) := inb_of S6 ⟨by decide, by decide⟩
    have hat6 : c6.slots[((1 : Int32)).toNatClampNeg]? = some (.int (35 : Int32)) := Hh6.at hin6 rfl
    have go7 : Go p e below E0 s₁ m 19 #[(sr lb), (si cc), (si 0), (si 15), (si (cc.toInt8.toInt32)), (si 1)] [(.int (cc.toInt8.toInt32)), (.int 35)] := fun tgt kont => go5 tgt (by
      refine X0.baloadBytes hx (j := (1 : Int32)) (v := (.int (35 : Int32))) (by rw [e0]; exact Ar6.1) (State.isArrayOf_alike hZ.alike Ar6.2.1) Ar6.2.2 hin6 hat6 (g := (mkF m 16 #[(sr lb), (si cc), (si 0), (si 15), (si (cc.toInt8.toInt32)), (si 1)] [(.int 1), (.ref lb)])) rfl rfl (D d16_16) _ ?_; refine XS.iload X0.here hx rfl (D d16_17) rfl ?_; exact kont)
    have bk1 := own_b8 h1 h2 (k := (35 : Int32)) (by decide)
    by_cases u1 : cc = (35 : Int32)
    · have go8 : Go p e below E0 s₁ m 24 #[(sr lb), (si cc), (si 0), (si 15), (si (cc.toInt8.toInt32)), (si 1)] [(.int 1)] := fun tgt kont => go7 tgt (by
        refine XS.icmpNo X0.here hx rfl (D d16_19) rfl (teq (bk1.mpr u1)).2 ?_; refine XS.iload X0.here hx rfl (D d16_22) rfl ?_; exact kont)
      obtain ⟨fs, hr, hrun, hended, hW, hsame⟩ := X0.leave (v := some (.int (1 : Int32))) (fun h => by rw [Bd.returns] at h; cases h)
      refine ⟨_, _, go8 _ ?_, hrun, hended, _, _, rfl, ?_, ⟨_, rfl⟩, hW, hsame.mono (by decide) (by decide)⟩
      · show Steps p.tables e below (s₁.setTop (mkF m 24 #[(sr lb), (si cc), (si 0), (si 15), (si (cc.toInt8.toInt32)), (si 1)] [(.int 1)])) _
        exact retOut X0 hx Bd.returns rfl (Or.inl ⟨rfl, Or.inl rfl, _, rfl⟩) (D d16_24) hr
      · show QIC Z lb lk cc h0 n0 _ s₁.heap _
        rw [e0]
        exact ⟨_, rfl, rfl, rfl, Or.inl ⟨by decide, (by simp only [own_tc, own_an, own_sp, Int32.lt_iff_toInt_lt, ← Int32.toInt_inj, Int32.reduceToInt] at u1 ⊢; omega)⟩⟩
    · have go9 : Go p e below E0 s₁ m 16 #[(sr lb), (si cc), (si 0), (si 15), (si (cc.toInt8.toInt32)), (si 2)] [(.int 2), (.ref lb)] := fun tgt kont => go7 tgt (by
        refine XS.icmpYes X0.here hx rfl (pc0 := 19) (pc' := 25) rfl (D d16_19) rfl (feq (fun q => u1 (bk1.mp q))).2 (by decide) (by decide) ?_; refine XS.iinc X0.here hx rfl (D d16_25) rfl (l' := #[(sr lb), (si cc), (si 0), (si 15), (si (cc.toInt8.toInt32)), (si 2)]) rfl ?_; refine XS.goto X0.here hx rfl (pc0 := 28) (pc' := 7) rfl (D d16_28) (by decide) (by decide) ?_; refine XS.iload X0.here hx rfl (D d16_7) rfl ?_; refine XS.iloadN X0.here hx rfl (D d16_9) rfl ?_; refine XS.icmpNo X0.here hx rfl (D d16_10) rfl (tlt (by decide)).2.1 ?_; refine XS.aloadN X0.here hx rfl (D d16_13) rfl rfl ?_; refine XS.iload X0.here hx rfl (D d16_14) rfl ?_; exact kont)
      obtain ⟨c10, Ar10, q10, S10, M10, Hh10, G10⟩ := id Ab
      have hin10 : ¬ ((2 : Int32) < 0 ∨ c10.slots.size ≤ ((2 : Int32)).toNatClampNeg) := inb_of S10 ⟨by decide, by decide⟩
      have hat10 : c10.slots[((2 : Int32)).toNatClampNeg]? = some (.int (36 : Int32)) := Hh10.at hin10 rfl
      have go11 : Go p e below E0 s₁ m 19 #[(sr lb), (si cc), (si 0), (si 15), (si (cc.toInt8.toInt32)), (si 2)] [(.int (cc.toInt8.toInt32)), (.int 36)] := fun tgt kont => go9 tgt (by
        refine X0.baloadBytes hx (j := (2 : Int32)) (v := (.int (36 : Int32))) (by rw [e0]; exact Ar10.1) (State.isArrayOf_alike hZ.alike Ar10.2.1) Ar10.2.2 hin10 hat10 (g := (mkF m 16 #[(sr lb), (si cc), (si 0), (si 15), (si (cc.toInt8.toInt32)), (si 2)] [(.int 2), (.ref lb)])) rfl rfl (D d16_16) _ ?_; refine XS.iload X0.here hx rfl (D d16_17) rfl ?_; exact kont)
      have bk2 := own_b8 h1 h2 (k := (36 : Int32)) (by decide)
      by_cases u2 : cc = (36 : Int32)
      · have go12 : Go p e below E0 s₁ m 24 #[(sr lb), (si cc), (si 0), (si 15), (si (cc.toInt8.toInt32)), (si 2)] [(.int 2)] := fun tgt kont => go11 tgt (by
          refine XS.icmpNo X0.here hx rfl (D d16_19) rfl (teq (bk2.mpr u2)).2 ?_; refine XS.iload X0.here hx rfl (D d16_22) rfl ?_; exact kont)
        obtain ⟨fs, hr, hrun, hended, hW, hsame⟩ := X0.leave (v := some (.int (2 : Int32))) (fun h => by rw [Bd.returns] at h; cases h)
        refine ⟨_, _, go12 _ ?_, hrun, hended, _, _, rfl, ?_, ⟨_, rfl⟩, hW, hsame.mono (by decide) (by decide)⟩
        · show Steps p.tables e below (s₁.setTop (mkF m 24 #[(sr lb), (si cc), (si 0), (si 15), (si (cc.toInt8.toInt32)), (si 2)] [(.int 2)])) _
          exact retOut X0 hx Bd.returns rfl (Or.inl ⟨rfl, Or.inl rfl, _, rfl⟩) (D d16_24) hr
        · show QIC Z lb lk cc h0 n0 _ s₁.heap _
          rw [e0]
          exact ⟨_, rfl, rfl, rfl, Or.inl ⟨by decide, (by simp only [own_tc, own_an, own_sp, Int32.lt_iff_toInt_lt, ← Int32.toInt_inj, Int32.reduceToInt] at u2 ⊢; omega)⟩⟩
      · have go13 : Go p e below E0 s₁ m 16 #[(sr lb), (si cc), (si 0), (si 15), (si (cc.toInt8.toInt32)), (si 3)] [(.int 3), (.ref lb)] := fun tgt kont => go11 tgt (by
          refine XS.icmpYes X0.here hx rfl (pc0 := 19) (pc' := 25) rfl (D d16_19) rfl (feq (fun q => u2 (bk2.mp q))).2 (by decide) (by decide) ?_; refine XS.iinc X0.here hx rfl (D d16_25) rfl (l' := #[(sr lb), (si cc), (si 0), (si 15), (si (cc.toInt8.toInt32)), (si 3)]) rfl ?_; refine XS.goto X0.here hx rfl (pc0 := 28) (pc' := 7) rfl (D d16_28) (by decide) (by decide) ?_; refine XS.iload X0.here hx rfl (D d16_7) rfl ?_; refine XS.iloadN X0.here hx rfl (D d16_9) rfl ?_; refine XS.icmpNo X0.here hx rfl (D d16_10) rfl (tlt (by decide)).2.1 ?_; refine XS.aloadN X0.here hx rfl (D d16_13) rfl rfl ?_; refine XS.iload X0.here hx rfl (D d16_14) rfl ?_; exact kont)
        obtain ⟨c14, Ar14, q14, S14, M14, Hh14, G14⟩ := id Ab
        have hin14 : ¬ ((3 : Int32) < 0 ∨ c14.slots.size ≤ ((3 : Int32)).toNatClampNeg) := inb_of S14 ⟨by decide, by decide⟩
        have hat14 : c14.slots[((3 : Int32)).toNatClampNeg]? = some (.int (37 : Int32)) := Hh14.at hin14 rfl
        have go15 : Go p e below E0 s₁ m 19 #[(sr lb), (si cc), (si 0), (si 15), (si (cc.toInt8.toInt32)), (si 3)] [(.int (cc.toInt8.toInt32)), (.int 37)] := fun tgt kont => go13 tgt (by
          refine X0.baloadBytes hx (j := (3 : Int32)) (v := (.int (37 : Int32))) (by rw [e0]; exact Ar14.1) (State.isArrayOf_alike hZ.alike Ar14.2.1) Ar14.2.2 hin14 hat14 (g := (mkF m 16 #[(sr lb), (si cc), (si 0), (si 15), (si (cc.toInt8.toInt32)), (si 3)] [(.int 3), (.ref lb)])) rfl rfl (D d16_16) _ ?_; refine XS.iload X0.here hx rfl (D d16_17) rfl ?_; exact kont)
        have bk3 := own_b8 h1 h2 (k := (37 : Int32)) (by decide)
        by_cases u3 : cc = (37 : Int32)
        · have go16 : Go p e below E0 s₁ m 24 #[(sr lb), (si cc), (si 0), (si 15), (si (cc.toInt8.toInt32)), (si 3)] [(.int 3)] := fun tgt kont => go15 tgt (by
            refine XS.icmpNo X0.here hx rfl (D d16_19) rfl (teq (bk3.mpr u3)).2 ?_; refine XS.iload X0.here hx rfl (D d16_22) rfl ?_; exact kont)
          obtain ⟨fs, hr, hrun, hended, hW, hsame⟩ := X0.leave (v := some (.int (3 : Int32))) (fun h => by rw [Bd.returns] at h; cases h)
          refine ⟨_, _, go16 _ ?_, hrun, hended, _, _, rfl, ?_, ⟨_, rfl⟩, hW, hsame.mono (by decide) (by decide)⟩
          · show Steps p.tables e below (s₁.setTop (mkF m 24 #[(sr lb), (si cc), (si 0), (si 15), (si (cc.toInt8.toInt32)), (si 3)] [(.int 3)])) _
            exact retOut X0 hx Bd.returns rfl (Or.inl ⟨rfl, Or.inl rfl, _, rfl⟩) (D d16_24) hr
          · show QIC Z lb lk cc h0 n0 _ s₁.heap _
            rw [e0]
            exact ⟨_, rfl, rfl, rfl, Or.inl ⟨by decide, (by simp only [own_tc, own_an, own_sp, Int32.lt_iff_toInt_lt, ← Int32.toInt_inj, Int32.reduceToInt] at u3 ⊢; omega)⟩⟩
        · have go17 : Go p e below E0 s₁ m 16 #[(sr lb), (si cc), (si 0), (si 15), (si (cc.toInt8.toInt32)), (si 4)] [(.int 4), (.ref lb)] := fun tgt kont => go15 tgt (by
            refine XS.icmpYes X0.here hx rfl (pc0 := 19) (pc' := 25) rfl (D d16_19) rfl (feq (fun q => u3 (bk3.mp q))).2 (by decide) (by decide) ?_; refine XS.iinc X0.here hx rfl (D d16_25) rfl (l' := #[(sr lb), (si cc), (si 0), (si 15), (si (cc.toInt8.toInt32)), (si 4)]) rfl ?_; refine XS.goto X0.here hx rfl (pc0 := 28) (pc' := 7) rfl (D d16_28) (by decide) (by decide) ?_; refine XS.iload X0.here hx rfl (D d16_7) rfl ?_; refine XS.iloadN X0.here hx rfl (D d16_9) rfl ?_; refine XS.icmpNo X0.here hx rfl (D d16_10) rfl (tlt (by decide)).2.1 ?_; refine XS.aloadN X0.here hx rfl (D d16_13) rfl rfl ?_; refine XS.iload X0.here hx rfl (D d16_14) rfl ?_; exact kont)
          obtain ⟨c18, Ar18, q18, S18, M18, Hh18, G18⟩ := id Ab
          have hin18 : ¬ ((4 : Int32) < 0 ∨ c18.slots.size ≤ ((4 : Int32)).toNatClampNeg) := inb_of S18 ⟨by decide, by decide⟩
          have hat18 : c18.slots[((4 : Int32)).toNatClampNeg]? = some (.int (38 : Int32)) := Hh18.at hin18 rfl
          have go19 : Go p e below E0 s₁ m 19 #[(sr lb), (si cc), (si 0), (si 15), (si (cc.toInt8.toInt32)), (si 4)] [(.int (cc.toInt8.toInt32)), (.int 38)] := fun tgt kont => go17 tgt (by
            refine X0.baloadBytes hx (j := (4 : Int32)) (v := (.int (38 : Int32))) (by rw [e0]; exact Ar18.1) (State.isArrayOf_alike hZ.alike Ar18.2.1) Ar18.2.2 hin18 hat18 (g := (mkF m 16 #[(sr lb), (si cc), (si 0), (si 15), (si (cc.toInt8.toInt32)), (si 4)] [(.int 4), (.ref lb)])) rfl rfl (D d16_16) _ ?_; refine XS.iload X0.here hx rfl (D d16_17) rfl ?_; exact kont)
          have bk4 := own_b8 h1 h2 (k := (38 : Int32)) (by decide)
          by_cases u4 : cc = (38 : Int32)
          · have go20 : Go p e below E0 s₁ m 24 #[(sr lb), (si cc), (si 0), (si 15), (si (cc.toInt8.toInt32)), (si 4)] [(.int 4)] := fun tgt kont => go19 tgt (by
              refine XS.icmpNo X0.here hx rfl (D d16_19) rfl (teq (bk4.mpr u4)).2 ?_; refine XS.iload X0.here hx rfl (D d16_22) rfl ?_; exact kont)
            obtain ⟨fs, hr, hrun, hended, hW, hsame⟩ := X0.leave (v := some (.int (4 : Int32))) (fun h => by rw [Bd.returns] at h; cases h)
            refine ⟨_, _, go20 _ ?_, hrun, hended, _, _, rfl, ?_, ⟨_, rfl⟩, hW, hsame.mono (by decide) (by decide)⟩
            · show Steps p.tables e below (s₁.setTop (mkF m 24 #[(sr lb), (si cc), (si 0), (si 15), (si (cc.toInt8.toInt32)), (si 4)] [(.int 4)])) _
              exact retOut X0 hx Bd.returns rfl (Or.inl ⟨rfl, Or.inl rfl, _, rfl⟩) (D d16_24) hr
            · show QIC Z lb lk cc h0 n0 _ s₁.heap _
              rw [e0]
              exact ⟨_, rfl, rfl, rfl, Or.inl ⟨by decide, (by simp only [own_tc, own_an, own_sp, Int32.lt_iff_toInt_lt, ← Int32.toInt_inj, Int32.reduceToInt] at u4 ⊢; omega)⟩⟩
          · have go21 : Go p e below E0 s₁ m 16 #[(sr lb), (si cc), (si 0), (si 15), (si (cc.toInt8.toInt32)), (si 5)] [(.int 5), (.ref lb)] := fun tgt kont => go19 tgt (by
              refine XS.icmpYes X0.here hx rfl (pc0 := 19) (pc' := 25) rfl (D d16_19) rfl (feq (fun q => u4 (bk4.mp q))).2 (by decide) (by decide) ?_; refine XS.iinc X0.here hx rfl (D d16_25) rfl (l' := #[(sr lb), (si cc), (si 0), (si 15), (si (cc.toInt8.toInt32)), (si 5)]) rfl ?_; refine XS.goto X0.here hx rfl (pc0 := 28) (pc' := 7) rfl (D d16_28) (by decide) (by decide) ?_; refine XS.iload X0.here hx rfl (D d16_7) rfl ?_; refine XS.iloadN X0.here hx rfl (D d16_9) rfl ?_; refine XS.icmpNo X0.here hx rfl (D d16_10) rfl (tlt (by decide)).2.1 ?_; refine XS.aloadN X0.here hx rfl (D d16_13) rfl rfl ?_; refine XS.iload X0.here hx rfl (D d16_14) rfl ?_; exact kont)
            obtain ⟨c22, Ar22, q22, S22, M22, Hh22, G22⟩ := id Ab
            have hin22 : ¬ ((5 : Int32) < 0 ∨ c22.slots.size ≤ ((5 : Int32)).toNatClampNeg) := inb_of S22 ⟨by decide, by decide⟩
            have hat22 : c22.slots[((5 : Int32)).toNatClampNeg]? = some (.int (39 : Int32)) := Hh22.at hin22 rfl
            have go23 : Go p e below E0 s₁ m 19 #[(sr lb), (si cc), (si 0), (si 15), (si (cc.toInt8.toInt32)), (si 5)] [(.int (cc.toInt8.toInt32)), (.int 39)] := fun tgt kont => go21 tgt (by
              refine X0.baloadBytes hx (j := (5 : Int32)) (v := (.int (39 : Int32))) (by rw [e0]; exact Ar22.1) (State.isArrayOf_alike hZ.alike Ar22.2.1) Ar22.2.2 hin22 hat22 (g := (mkF m 16 #[(sr lb), (si cc), (si 0), (si 15), (si (cc.toInt8.toInt32)), (si 5)] [(.int 5), (.ref lb)])) rfl rfl (D d16_16) _ ?_; refine XS.iload X0.here hx rfl (D d16_17) rfl ?_; exact kont)
            have bk5 := own_b8 h1 h2 (k := (39 : Int32)) (by decide)
            by_cases u5 : cc = (39 : Int32)
            · have go24 : Go p e below E0 s₁ m 24 #[(sr lb), (si cc), (si 0), (si 15), (si (cc.toInt8.toInt32)), (si 5)] [(.int 5)] := fun tgt kont => go23 tgt (by
                refine XS.icmpNo X0.here hx rfl (D d16_19) rfl (teq (bk5.mpr u5)).2 ?_; refine XS.iload X0.here hx rfl (D d16_22) rfl ?_; exact kont)
              obtain ⟨fs, hr, hrun, hended, hW, hsame⟩ := X0.leave (v := some (.int (5 : Int32))) (fun h => by rw [Bd.returns] at h; cases h)
              refine ⟨_, _, go24 _ ?_, hrun, hended, _, _, rfl, ?_, ⟨_, rfl⟩, hW, hsame.mono (by decide) (by decide)⟩
              · show Steps p.tables e below (s₁.setTop (mkF m 24 #[(sr lb), (si cc), (si 0), (si 15), (si (cc.toInt8.toInt32)), (si 5)] [(.int 5)])) _
                exact retOut X0 hx Bd.returns rfl (Or.inl ⟨rfl, Or.inl rfl, _, rfl⟩) (D d16_24) hr
              · show QIC Z lb lk cc h0 n0 _ s₁.heap _
                rw [e0]
                exact ⟨_, rfl, rfl, rfl, Or.inl ⟨by decide, (by simp only [own_tc, own_an, own_sp, Int32.lt_iff_toInt_lt, ← Int32.toInt_inj, Int32.reduceToInt] at u5 ⊢; omega)⟩⟩
            · have go25 : Go p e below E0 s₁ m 16 #[(sr lb), (si cc), (si 0), (si 15), (si (cc.toInt8.toInt32)), (si 6)] [(.int 6), (.ref lb)] := fun tgt kont => go23 tgt (by
                refine XS.icmpYes X0.here hx rfl (pc0 := 19) (pc' := 25) rfl (D d16_19) rfl (feq (fun q => u5 (bk5.mp q))).2 (by decide) (by decide) ?_; refine XS.iinc X0.here hx rfl (D d16_25) rfl (l' := #[(sr lb), (si cc), (si 0), (si 15), (si (cc.toInt8.toInt32)), (si 6)]) rfl ?_; refine XS.goto X0.here hx rfl (pc0 := 28) (pc' := 7) rfl (D d16_28) (by decide) (by decide) ?_; refine XS.iload X0.here hx rfl (D d16_7) rfl ?_; refine XS.iloadN X0.here hx rfl (D d16_9) rfl ?_; refine XS.icmpNo X0.here hx rfl (D d16_10) rfl (tlt (by decide)).2.1 ?_; refine XS.aloadN X0.here hx rfl (D d16_13) rfl rfl ?_; refine XS.iload X0.here hx rfl (D d16_14) rfl ?_; exact kont)
              obtain ⟨c26, Ar26, q26, S26, M26, Hh26, G26⟩ := id Ab
              have hin26 : ¬ ((6 : Int32) < 0 ∨ c26.slots.size ≤ ((6 : Int32)).toNatClampNeg) := inb_of S26 ⟨by decide, by decide⟩
              have hat26 : c26.slots[((6 : Int32)).toNatClampNeg]? = some (.int (42 : Int32)) := Hh26.at hin26 rfl
              have go27 : Go p e below E0 s₁ m 19 #[(sr lb), (si cc), (si 0), (si 15), (si (cc.toInt8.toInt32)), (si 6)] [(.int (cc.toInt8.toInt32)), (.int 42)] := fun tgt kont => go25 tgt (by
                refine X0.baloadBytes hx (j := (6 : Int32)) (v := (.int (42 : Int32))) (by rw [e0]; exact Ar26.1) (State.isArrayOf_alike hZ.alike Ar26.2.1) Ar26.2.2 hin26 hat26 (g := (mkF m 16 #[(sr lb), (si cc), (si 0), (si 15), (si (cc.toInt8.toInt32)), (si 6)] [(.int 6), (.ref lb)])) rfl rfl (D d16_16) _ ?_; refine XS.iload X0.here hx rfl (D d16_17) rfl ?_; exact kont)
              have bk6 := own_b8 h1 h2 (k := (42 : Int32)) (by decide)
              by_cases u6 : cc = (42 : Int32)
              · have go28 : Go p e below E0 s₁ m 24 #[(sr lb), (si cc), (si 0), (si 15), (si (cc.toInt8.toInt32)), (si 6)] [(.int 6)] := fun tgt kont => go27 tgt (by
                  refine XS.icmpNo X0.here hx rfl (D d16_19) rfl (teq (bk6.mpr u6)).2 ?_; refine XS.iload X0.here hx rfl (D d16_22) rfl ?_; exact kont)
                obtain ⟨fs, hr, hrun, hended, hW, hsame⟩ := X0.leave (v := some (.int (6 : Int32))) (fun h => by rw [Bd.returns] at h; cases h)
                refine ⟨_, _, go28 _ ?_, hrun, hended, _, _, rfl, ?_, ⟨_, rfl⟩, hW, hsame.mono (by decide) (by decide)⟩
                · show Steps p.tables e below (s₁.setTop (mkF m 24 #[(sr lb), (si cc), (si 0), (si 15), (si (cc.toInt8.toInt32)), (si 6)] [(.int 6)])) _
                  exact retOut X0 hx Bd.returns rfl (Or.inl ⟨rfl, Or.inl rfl, _, rfl⟩) (D d16_24) hr
                · show QIC Z lb lk cc h0 n0 _ s₁.heap _
                  rw [e0]
                  exact ⟨_, rfl, rfl, rfl, Or.inl ⟨by decide, (by simp only [own_tc, own_an, own_sp, Int32.lt_iff_toInt_lt, ← Int32.toInt_inj, Int32.reduceToInt] at u6 ⊢; omega)⟩⟩
              · have go29 : Go p e below E0 s₁ m 16 #[(sr lb), (si cc), (si 0), (si 15), (si (cc.toInt8.toInt32)), (si 7)] [(.int 7), (.ref lb)] := fun tgt kont => go27 tgt (by
                  refine XS.icmpYes X0.here hx rfl (pc0 := 19) (pc' := 25) rfl (D d16_19) rfl (feq (fun q => u6 (bk6.mp q))).2 (by decide) (by decide) ?_; refine XS.iinc X0.here hx rfl (D d16_25) rfl (l' := #[(sr lb), (si cc), (si 0), (si 15), (si (cc.toInt8.toInt32)), (si 7)]) rfl ?_; refine XS.goto X0.here hx rfl (pc0 := 28) (pc' := 7) rfl (D d16_28) (by decide) (by decide) ?_; refine XS.iload X0.here hx rfl (D d16_7) rfl ?_; refine XS.iloadN X0.here hx rfl (D d16_9) rfl ?_; refine XS.icmpNo X0.here hx rfl (D d16_10) rfl (tlt (by decide)).2.1 ?_; refine XS.aloadN X0.here hx rfl (D d16_13) rfl rfl ?_; refine XS.iload X0.here hx rfl (D d16_14) rfl ?_; exact kont)
                obtain ⟨c30, Ar30, q30, S30, M30, Hh30, G30⟩ := id Ab
                have hin30 : ¬ ((7 : Int32) < 0 ∨ c30.slots.size ≤ ((7 : Int32)).toNatClampNeg) := inb_of S30 ⟨by decide, by decide⟩
                have hat30 : c30.slots[((7 : Int32)).toNatClampNeg]? = some (.int (43 : Int32)) := Hh30.at hin30 rfl
                have go31 : Go p e below E0 s₁ m 19 #[(sr lb), (si cc), (si 0), (si 15), (si (cc.toInt8.toInt32)), (si 7)] [(.int (cc.toInt8.toInt32)), (.int 43)] := fun tgt kont => go29 tgt (by
                  refine X0.baloadBytes hx (j := (7 : Int32)) (v := (.int (43 : Int32))) (by rw [e0]; exact Ar30.1) (State.isArrayOf_alike hZ.alike Ar30.2.1) Ar30.2.2 hin30 hat30 (g := (mkF m 16 #[(sr lb), (si cc), (si 0), (si 15), (si (cc.toInt8.toInt32)), (si 7)] [(.int 7), (.ref lb)])) rfl rfl (D d16_16) _ ?_; refine XS.iload X0.here hx rfl (D d16_17) rfl ?_; exact kont)
                have bk7 := own_b8 h1 h2 (k := (43 : Int32)) (by decide)
                by_cases u7 : cc = (43 : Int32)
                · have go32 : Go p e below E0 s₁ m 24 #[(sr lb), (si cc), (si 0), (si 15), (si (cc.toInt8.toInt32)), (si 7)] [(.int 7)] := fun tgt kont => go31 tgt (by
                    refine XS.icmpNo X0.here hx rfl (D d16_19) rfl (teq (bk7.mpr u7)).2 ?_; refine XS.iload X0.here hx rfl (D d16_22) rfl ?_; exact kont)
                  obtain ⟨fs, hr, hrun, hended, hW, hsame⟩ := X0.leave (v := some (.int (7 : Int32))) (fun h => by rw [Bd.returns] at h; cases h)
                  refine ⟨_, _, go32 _ ?_, hrun, hended, _, _, rfl, ?_, ⟨_, rfl⟩, hW, hsame.mono (by decide) (by decide)⟩
                  · show Steps p.tables e below (s₁.setTop (mkF m 24 #[(sr lb), (si cc), (si 0), (si 15), (si (cc.toInt8.toInt32)), (si 7)] [(.int 7)])) _
                    exact retOut X0 hx Bd.returns rfl (Or.inl ⟨rfl, Or.inl rfl, _, rfl⟩) (D d16_24) hr
                  · show QIC Z lb lk cc h0 n0 _ s₁.heap _
                    rw [e0]
                    exact ⟨_, rfl, rfl, rfl, Or.inl ⟨by decide, (by simp only [own_tc, own_an, own_sp, Int32.lt_iff_toInt_lt, ← Int32.toInt_inj, Int32.reduceToInt] at u7 ⊢; omega)⟩⟩
                · have go33 : Go p e below E0 s₁ m 16 #[(sr lb), (si cc), (si 0), (si 15), (si (cc.toInt8.toInt32)), (si 8)] [(.int 8), (.ref lb)] := fun tgt kont => go31 tgt (by
                    refine XS.icmpYes X0.here hx rfl (pc0 := 19) (pc' := 25) rfl (D d16_19) rfl (feq (fun q => u7 (bk7.mp q))).2 (by decide) (by decide) ?_; refine XS.iinc X0.here hx rfl (D d16_25) rfl (l' := #[(sr lb), (si cc), (si 0), (si 15), (si (cc.toInt8.toInt32)), (si 8)]) rfl ?_; refine XS.goto X0.here hx rfl (pc0 := 28) (pc' := 7) rfl (D d16_28) (by decide) (by decide) ?_; refine XS.iload X0.here hx rfl (D d16_7) rfl ?_; refine XS.iloadN X0.here hx rfl (D d16_9) rfl ?_; refine XS.icmpNo X0.here hx rfl (D d16_10) rfl (tlt (by decide)).2.1 ?_; refine XS.aloadN X0.here hx rfl (D d16_13) rfl rfl ?_; refine XS.iload X0.here hx rfl (D d16_14) rfl ?_; exact kont)
                  obtain ⟨c34, Ar34, q34, S34, M34, Hh34, G34⟩ := id Ab
                  have hin34 : ¬ ((8 : Int32) < 0 ∨ c34.slots.size ≤ ((8 : Int32)).toNatClampNeg) := inb_of S34 ⟨by decide, by decide⟩
                  have hat34 : c34.slots[((8 : Int32)).toNatClampNeg]? = some (.int (45 : Int32)) := Hh34.at hin34 rfl
                  have go35 : Go p e below E0 s₁ m 19 #[(sr lb), (si cc), (si 0), (si 15), (si (cc.toInt8.toInt32)), (si 8)] [(.int (cc.toInt8.toInt32)), (.int 45)] := fun tgt kont => go33 tgt (by
                    refine X0.baloadBytes hx (j := (8 : Int32)) (v := (.int (45 : Int32))) (by rw [e0]; exact Ar34.1) (State.isArrayOf_alike hZ.alike Ar34.2.1) Ar34.2.2 hin34 hat34 (g := (mkF m 16 #[(sr lb), (si cc), (si 0), (si 15), (si (cc.toInt8.toInt32)), (si 8)] [(.int 8), (.ref lb)])) rfl rfl (D d16_16) _ ?_; refine XS.iload X0.here hx rfl (D d16_17) rfl ?_; exact kont)
                  have bk8 := own_b8 h1 h2 (k := (45 : Int32)) (by decide)
                  by_cases u8 : cc = (45 : Int32)
                  · have go36 : Go p e below E0 s₁ m 24 #[(sr lb), (si cc), (si 0), (si 15), (si (cc.toInt8.toInt32)), (si 8)] [(.int 8)] := fun tgt kont => go35 tgt (by
                      refine XS.icmpNo X0.here hx rfl (D d16_19) rfl (teq (bk8.mpr u8)).2 ?_; refine XS.iload X0.here hx rfl (D d16_22) rfl ?_; exact kont)
                    obtain ⟨fs, hr, hrun, hended, hW, hsame⟩ := X0.leave (v := some (.int (8 : Int32))) (fun h => by rw [Bd.returns] at h; cases h)
                    refine ⟨_, _, go36 _ ?_, hrun, hended, _, _, rfl, ?_, ⟨_, rfl⟩, hW, hsame.mono (by decide) (by decide)⟩
                    · show Steps p.tables e below (s₁.setTop (mkF m 24 #[(sr lb), (si cc), (si 0), (si 15), (si (cc.toInt8.toInt32)), (si 8)] [(.int 8)])) _
                      exact retOut X0 hx Bd.returns rfl (Or.inl ⟨rfl, Or.inl rfl, _, rfl⟩) (D d16_24) hr
                    · show QIC Z lb lk cc h0 n0 _ s₁.heap _
                      rw [e0]
                      exact ⟨_, rfl, rfl, rfl, Or.inl ⟨by decide, (by simp only [own_tc, own_an, own_sp, Int32.lt_iff_toInt_lt, ← Int32.toInt_inj, Int32.reduceToInt] at u8 ⊢; omega)⟩⟩
                  · have go37 : Go p e below E0 s₁ m 16 #[(sr lb), (si cc), (si 0), (si 15), (si (cc.toInt8.toInt32)), (si 9)] [(.int 9), (.ref lb)] := fun tgt kont => go35 tgt (by
                      refine XS.icmpYes X0.here hx rfl (pc0 := 19) (pc' := 25) rfl (D d16_19) rfl (feq (fun q => u8 (bk8.mp q))).2 (by decide) (by decide) ?_; refine XS.iinc X0.here hx rfl (D d16_25) rfl (l' := #[(sr lb), (si cc), (si 0), (si 15), (si (cc.toInt8.toInt32)), (si 9)]) rfl ?_; refine XS.goto X0.here hx rfl (pc0 := 28) (pc' := 7) rfl (D d16_28) (by decide) (by decide) ?_; refine XS.iload X0.here hx rfl (D d16_7) rfl ?_; refine XS.iloadN X0.here hx rfl (D d16_9) rfl ?_; refine XS.icmpNo X0.here hx rfl (D d16_10) rfl (tlt (by decide)).2.1 ?_; refine XS.aloadN X0.here hx rfl (D d16_13) rfl rfl ?_; refine XS.iload X0.here hx rfl (D d16_14) rfl ?_; exact kont)
                    obtain ⟨c38, Ar38, q38, S38, M38, Hh38, G38⟩ := id Ab
                    have hin38 : ¬ ((9 : Int32) < 0 ∨ c38.slots.size ≤ ((9 : Int32)).toNatClampNeg) := inb_of S38 ⟨by decide, by decide⟩
                    have hat38 : c38.slots[((9 : Int32)).toNatClampNeg]? = some (.int (46 : Int32)) := Hh38.at hin38 rfl
                    have go39 : Go p e below E0 s₁ m 19 #[(sr lb), (si cc), (si 0), (si 15), (si (cc.toInt8.toInt32)), (si 9)] [(.int (cc.toInt8.toInt32)), (.int 46)] := fun tgt kont => go37 tgt (by
                      refine X0.baloadBytes hx (j := (9 : Int32)) (v := (.int (46 : Int32))) (by rw [e0]; exact Ar38.1) (State.isArrayOf_alike hZ.alike Ar38.2.1) Ar38.2.2 hin38 hat38 (g := (mkF m 16 #[(sr lb), (si cc), (si 0), (si 15), (si (cc.toInt8.toInt32)), (si 9)] [(.int 9), (.ref lb)])) rfl rfl (D d16_16) _ ?_; refine XS.iload X0.here hx rfl (D d16_17) rfl ?_; exact kont)
                    have bk9 := own_b8 h1 h2 (k := (46 : Int32)) (by decide)
                    by_cases u9 : cc = (46 : Int32)
                    · have go40 : Go p e below E0 s₁ m 24 #[(sr lb), (si cc), (si 0), (si 15), (si (cc.toInt8.toInt32)), (si 9)] [(.int 9)] := fun tgt kont => go39 tgt (by
                        refine XS.icmpNo X0.here hx rfl (D d16_19) rfl (teq (bk9.mpr u9)).2 ?_; refine XS.iload X0.here hx rfl (D d16_22) rfl ?_; exact kont)
                      obtain ⟨fs, hr, hrun, hended, hW, hsame⟩ := X0.leave (v := some (.int (9 : Int32))) (fun h => by rw [Bd.returns] at h; cases h)
                      refine ⟨_, _, go40 _ ?_, hrun, hended, _, _, rfl, ?_, ⟨_, rfl⟩, hW, hsame.mono (by decide) (by decide)⟩
                      · show Steps p.tables e below (s₁.setTop (mkF m 24 #[(sr lb), (si cc), (si 0), (si 15), (si (cc.toInt8.toInt32)), (si 9)] [(.int 9)])) _
                        exact retOut X0 hx Bd.returns rfl (Or.inl ⟨rfl, Or.inl rfl, _, rfl⟩) (D d16_24) hr
                      · show QIC Z lb lk cc h0 n0 _ s₁.heap _
                        rw [e0]
                        exact ⟨_, rfl, rfl, rfl, Or.inl ⟨by decide, (by simp only [own_tc, own_an, own_sp, Int32.lt_iff_toInt_lt, ← Int32.toInt_inj, Int32.reduceToInt] at u9 ⊢; omega)⟩⟩
                    · have go41 : Go p e below E0 s₁ m 16 #[(sr lb), (si cc), (si 0), (si 15), (si (cc.toInt8.toInt32)), (si 10)] [(.int 10), (.ref lb)] := fun tgt kont => go39 tgt (by
                        refine XS.icmpYes X0.here hx rfl (pc0 := 19) (pc' := 25) rfl (D d16_19) rfl (feq (fun q => u9 (bk9.mp q))).2 (by decide) (by decide) ?_; refine XS.iinc X0.here hx rfl (D d16_25) rfl (l' := #[(sr lb), (si cc), (si 0), (si 15), (si (cc.toInt8.toInt32)), (si 10)]) rfl ?_; refine XS.goto X0.here hx rfl (pc0 := 28) (pc' := 7) rfl (D d16_28) (by decide) (by decide) ?_; refine XS.iload X0.here hx rfl (D d16_7) rfl ?_; refine XS.iloadN X0.here hx rfl (D d16_9) rfl ?_; refine XS.icmpNo X0.here hx rfl (D d16_10) rfl (tlt (by decide)).2.1 ?_; refine XS.aloadN X0.here hx rfl (D d16_13) rfl rfl ?_; refine XS.iload X0.here hx rfl (D d16_14) rfl ?_; exact kont)
                      obtain ⟨c42, Ar42, q42, S42, M42, Hh42, G42⟩ := id Ab
                      have hin42 : ¬ ((10 : Int32) < 0 ∨ c42.slots.size ≤ ((10 : Int32)).toNatClampNeg) := inb_of S42 ⟨by decide, by decide⟩
                      have hat42 : c42.slots[((10 : Int32)).toNatClampNeg]? = some (.int (94 : Int32)) := Hh42.at hin42 rfl
                      have go43 : Go p e below E0 s₁ m 19 #[(sr lb), (si cc), (si 0), (si 15), (si (cc.toInt8.toInt32)), (si 10)] [(.int (cc.toInt8.toInt32)), (.int 94)] := fun tgt kont => go41 tgt (by
                        refine X0.baloadBytes hx (j := (10 : Int32)) (v := (.int (94 : Int32))) (by rw [e0]; exact Ar42.1) (State.isArrayOf_alike hZ.alike Ar42.2.1) Ar42.2.2 hin42 hat42 (g := (mkF m 16 #[(sr lb), (si cc), (si 0), (si 15), (si (cc.toInt8.toInt32)), (si 10)] [(.int 10), (.ref lb)])) rfl rfl (D d16_16) _ ?_; refine XS.iload X0.here hx rfl (D d16_17) rfl ?_; exact kont)
                      have bk10 := own_b8 h1 h2 (k := (94 : Int32)) (by decide)
                      by_cases u10 : cc = (94 : Int32)
                      · have go44 : Go p e below E0 s₁ m 24 #[(sr lb), (si cc), (si 0), (si 15), (si (cc.toInt8.toInt32)), (si 10)] [(.int 10)] := fun tgt kont => go43 tgt (by
                          refine XS.icmpNo X0.here hx rfl (D d16_19) rfl (teq (bk10.mpr u10)).2 ?_; refine XS.iload X0.here hx rfl (D d16_22) rfl ?_; exact kont)
                        obtain ⟨fs, hr, hrun, hended, hW, hsame⟩ := X0.leave (v := some (.int (10 : Int32))) (fun h => by rw [Bd.returns] at h; cases h)
                        refine ⟨_, _, go44 _ ?_, hrun, hended, _, _, rfl, ?_, ⟨_, rfl⟩, hW, hsame.mono (by decide) (by decide)⟩
                        · show Steps p.tables e below (s₁.setTop (mkF m 24 #[(sr lb), (si cc), (si 0), (si 15), (si (cc.toInt8.toInt32)), (si 10)] [(.int 10)])) _
                          exact retOut X0 hx Bd.returns rfl (Or.inl ⟨rfl, Or.inl rfl, _, rfl⟩) (D d16_24) hr
                        · show QIC Z lb lk cc h0 n0 _ s₁.heap _
                          rw [e0]
                          exact ⟨_, rfl, rfl, rfl, Or.inl ⟨by decide, (by simp only [own_tc, own_an, own_sp, Int32.lt_iff_toInt_lt, ← Int32.toInt_inj, Int32.reduceToInt] at u10 ⊢; omega)⟩⟩
                      · have go45 : Go p e below E0 s₁ m 16 #[(sr lb), (si cc), (si 0), (si 15), (si (cc.toInt8.toInt32)), (si 11)] [(.int 11), (.ref lb)] := fun tgt kont => go43 tgt (by
                          refine XS.icmpYes X0.here hx rfl (pc0 := 19) (pc' := 25) rfl (D d16_19) rfl (feq (fun q => u10 (bk10.mp q))).2 (by decide) (by decide) ?_; refine XS.iinc X0.here hx rfl (D d16_25) rfl (l' := #[(sr lb), (si cc), (si 0), (si 15), (si (cc.toInt8.toInt32)), (si 11)]) rfl ?_; refine XS.goto X0.here hx rfl (pc0 := 28) (pc' := 7) rfl (D d16_28) (by decide) (by decide) ?_; refine XS.iload X0.here hx rfl (D d16_7) rfl ?_; refine XS.iloadN X0.here hx rfl (D d16_9) rfl ?_; refine XS.icmpNo X0.here hx rfl (D d16_10) rfl (tlt (by decide)).2.1 ?_; refine XS.aloadN X0.here hx rfl (D d16_13) rfl rfl ?_; refine XS.iload X0.here hx rfl (D d16_14) rfl ?_; exact kont)
                        obtain ⟨c46, Ar46, q46, S46, M46, Hh46, G46⟩ := id Ab
                        have hin46 : ¬ ((11 : Int32) < 0 ∨ c46.slots.size ≤ ((11 : Int32)).toNatClampNeg) := inb_of S46 ⟨by decide, by decide⟩
                        have hat46 : c46.slots[((11 : Int32)).toNatClampNeg]? = some (.int (95 : Int32)) := Hh46.at hin46 rfl
                        have go47 : Go p e below E0 s₁ m 19 #[(sr lb), (si cc), (si 0), (si 15), (si (cc.toInt8.toInt32)), (si 11)] [(.int (cc.toInt8.toInt32)), (.int 95)] := fun tgt kont => go45 tgt (by
                          refine X0.baloadBytes hx (j := (11 : Int32)) (v := (.int (95 : Int32))) (by rw [e0]; exact Ar46.1) (State.isArrayOf_alike hZ.alike Ar46.2.1) Ar46.2.2 hin46 hat46 (g := (mkF m 16 #[(sr lb), (si cc), (si 0), (si 15), (si (cc.toInt8.toInt32)), (si 11)] [(.int 11), (.ref lb)])) rfl rfl (D d16_16) _ ?_; refine XS.iload X0.here hx rfl (D d16_17) rfl ?_; exact kont)
                        have bk11 := own_b8 h1 h2 (k := (95 : Int32)) (by decide)
                        by_cases u11 : cc = (95 : Int32)
                        · have go48 : Go p e below E0 s₁ m 24 #[(sr lb), (si cc), (si 0), (si 15), (si (cc.toInt8.toInt32)), (si 11)] [(.int 11)] := fun tgt kont => go47 tgt (by
                            refine XS.icmpNo X0.here hx rfl (D d16_19) rfl (teq (bk11.mpr u11)).2 ?_; refine XS.iload X0.here hx rfl (D d16_22) rfl ?_; exact kont)
                          obtain ⟨fs, hr, hrun, hended, hW, hsame⟩ := X0.leave (v := some (.int (11 : Int32))) (fun h => by rw [Bd.returns] at h; cases h)
                          refine ⟨_, _, go48 _ ?_, hrun, hended, _, _, rfl, ?_, ⟨_, rfl⟩, hW, hsame.mono (by decide) (by decide)⟩
                          · show Steps p.tables e below (s₁.setTop (mkF m 24 #[(sr lb), (si cc), (si 0), (si 15), (si (cc.toInt8.toInt32)), (si 11)] [(.int 11)])) _
                            exact retOut X0 hx Bd.returns rfl (Or.inl ⟨rfl, Or.inl rfl, _, rfl⟩) (D d16_24) hr
                          · show QIC Z lb lk cc h0 n0 _ s₁.heap _
                            rw [e0]
                            exact ⟨_, rfl, rfl, rfl, Or.inl ⟨by decide, (by simp only [own_tc, own_an, own_sp, Int32.lt_iff_toInt_lt, ← Int32.toInt_inj, Int32.reduceToInt] at u11 ⊢; omega)⟩⟩
                        · have go49 : Go p e below E0 s₁ m 16 #[(sr lb), (si cc), (si 0), (si 15), (si (cc.toInt8.toInt32)), (si 12)] [(.int 12), (.ref lb)] := fun tgt kont => go47 tgt (by
                            refine XS.icmpYes X0.here hx rfl (pc0 := 19) (pc' := 25) rfl (D d16_19) rfl (feq (fun q => u11 (bk11.mp q))).2 (by decide) (by decide) ?_; refine XS.iinc X0.here hx rfl (D d16_25) rfl (l' := #[(sr lb), (si cc), (si 0), (si 15), (si (cc.toInt8.toInt32)), (si 12)]) rfl ?_; refine XS.goto X0.here hx rfl (pc0 := 28) (pc' := 7) rfl (D d16_28) (by decide) (by decide) ?_; refine XS.iload X0.here hx rfl (D d16_7) rfl ?_; refine XS.iloadN X0.here hx rfl (D d16_9) rfl ?_; refine XS.icmpNo X0.here hx rfl (D d16_10) rfl (tlt (by decide)).2.1 ?_; refine XS.aloadN X0.here hx rfl (D d16_13) rfl rfl ?_; refine XS.iload X0.here hx rfl (D d16_14) rfl ?_; exact kont)
                          obtain ⟨c50, Ar50, q50, S50, M50, Hh50, G50⟩ := id Ab
                          have hin50 : ¬ ((12 : Int32) < 0 ∨ c50.slots.size ≤ ((12 : Int32)).toNatClampNeg) := inb_of S50 ⟨by decide, by decide⟩
                          have hat50 : c50.slots[((12 : Int32)).toNatClampNeg]? = some (.int (96 : Int32)) := Hh50.at hin50 rfl
                          have go51 : Go p e below E0 s₁ m 19 #[(sr lb), (si cc), (si 0), (si 15), (si (cc.toInt8.toInt32)), (si 12)] [(.int (cc.toInt8.toInt32)), (.int 96)] := fun tgt kont => go49 tgt (by
                            refine X0.baloadBytes hx (j := (12 : Int32)) (v := (.int (96 : Int32))) (by rw [e0]; exact Ar50.1) (State.isArrayOf_alike hZ.alike Ar50.2.1) Ar50.2.2 hin50 hat50 (g := (mkF m 16 #[(sr lb), (si cc), (si 0), (si 15), (si (cc.toInt8.toInt32)), (si 12)] [(.int 12), (.ref lb)])) rfl rfl (D d16_16) _ ?_; refine XS.iload X0.here hx rfl (D d16_17) rfl ?_; exact kont)
                          have bk12 := own_b8 h1 h2 (k := (96 : Int32)) (by decide)
                          by_cases u12 : cc = (96 : Int32)
                          · have go52 : Go p e below E0 s₁ m 24 #[(sr lb), (si cc), (si 0), (si 15), (si (cc.toInt8.toInt32)), (si 12)] [(.int 12)] := fun tgt kont => go51 tgt (by
                              refine XS.icmpNo X0.here hx rfl (D d16_19) rfl (teq (bk12.mpr u12)).2 ?_; refine XS.iload X0.here hx rfl (D d16_22) rfl ?_; exact kont)
                            obtain ⟨fs, hr, hrun, hended, hW, hsame⟩ := X0.leave (v := some (.int (12 : Int32))) (fun h => by rw [Bd.returns] at h; cases h)
                            refine ⟨_, _, go52 _ ?_, hrun, hended, _, _, rfl, ?_, ⟨_, rfl⟩, hW, hsame.mono (by decide) (by decide)⟩
                            · show Steps p.tables e below (s₁.setTop (mkF m 24 #[(sr lb), (si cc), (si 0), (si 15), (si (cc.toInt8.toInt32)), (si 12)] [(.int 12)])) _
                              exact retOut X0 hx Bd.returns rfl (Or.inl ⟨rfl, Or.inl rfl, _, rfl⟩) (D d16_24) hr
                            · show QIC Z lb lk cc h0 n0 _ s₁.heap _
                              rw [e0]
                              exact ⟨_, rfl, rfl, rfl, Or.inl ⟨by decide, (by simp only [own_tc, own_an, own_sp, Int32.lt_iff_toInt_lt, ← Int32.toInt_inj, Int32.reduceToInt] at u12 ⊢; omega)⟩⟩
                          · have go53 : Go p e below E0 s₁ m 16 #[(sr lb), (si cc), (si 0), (si 15), (si (cc.toInt8.toInt32)), (si 13)] [(.int 13), (.ref lb)] := fun tgt kont => go51 tgt (by
                              refine XS.icmpYes X0.here hx rfl (pc0 := 19) (pc' := 25) rfl (D d16_19) rfl (feq (fun q => u12 (bk12.mp q))).2 (by decide) (by decide) ?_; refine XS.iinc X0.here hx rfl (D d16_25) rfl (l' := #[(sr lb), (si cc), (si 0), (si 15), (si (cc.toInt8.toInt32)), (si 13)]) rfl ?_; refine XS.goto X0.here hx rfl (pc0 := 28) (pc' := 7) rfl (D d16_28) (by decide) (by decide) ?_; refine XS.iload X0.here hx rfl (D d16_7) rfl ?_; refine XS.iloadN X0.here hx rfl (D d16_9) rfl ?_; refine XS.icmpNo X0.here hx rfl (D d16_10) rfl (tlt (by decide)).2.1 ?_; refine XS.aloadN X0.here hx rfl (D d16_13) rfl rfl ?_; refine XS.iload X0.here hx rfl (D d16_14) rfl ?_; exact kont)
                            obtain ⟨c54, Ar54, q54, S54, M54, Hh54, G54⟩ := id Ab
                            have hin54 : ¬ ((13 : Int32) < 0 ∨ c54.slots.size ≤ ((13 : Int32)).toNatClampNeg) := inb_of S54 ⟨by decide, by decide⟩
                            have hat54 : c54.slots[((13 : Int32)).toNatClampNeg]? = some (.int (124 : Int32)) := Hh54.at hin54 rfl
                            have go55 : Go p e below E0 s₁ m 19 #[(sr lb), (si cc), (si 0), (si 15), (si (cc.toInt8.toInt32)), (si 13)] [(.int (cc.toInt8.toInt32)), (.int 124)] := fun tgt kont => go53 tgt (by
                              refine X0.baloadBytes hx (j := (13 : Int32)) (v := (.int (124 : Int32))) (by rw [e0]; exact Ar54.1) (State.isArrayOf_alike hZ.alike Ar54.2.1) Ar54.2.2 hin54 hat54 (g := (mkF m 16 #[(sr lb), (si cc), (si 0), (si 15), (si (cc.toInt8.toInt32)), (si 13)] [(.int 13), (.ref lb)])) rfl rfl (D d16_16) _ ?_; refine XS.iload X0.here hx rfl (D d16_17) rfl ?_; exact kont)
                            have bk13 := own_b8 h1 h2 (k := (124 : Int32)) (by decide)
                            by_cases u13 : cc = (124 : Int32)
                            · have go56 : Go p e below E0 s₁ m 24 #[(sr lb), (si cc), (si 0), (si 15), (si (cc.toInt8.toInt32)), (si 13)] [(.int 13)] := fun tgt kont => go55 tgt (by
                                refine XS.icmpNo X0.here hx rfl (D d16_19) rfl (teq (bk13.mpr u13)).2 ?_; refine XS.iload X0.here hx rfl (D d16_22) rfl ?_; exact kont)
                              obtain ⟨fs, hr, hrun, hended, hW, hsame⟩ := X0.leave (v := some (.int (13 : Int32))) (fun h => by rw [Bd.returns] at h; cases h)
                              refine ⟨_, _, go56 _ ?_, hrun, hended, _, _, rfl, ?_, ⟨_, rfl⟩, hW, hsame.mono (by decide) (by decide)⟩
                              · show Steps p.tables e below (s₁.setTop (mkF m 24 #[(sr lb), (si cc), (si 0), (si 15), (si (cc.toInt8.toInt32)), (si 13)] [(.int 13)])) _
                                exact retOut X0 hx Bd.returns rfl (Or.inl ⟨rfl, Or.inl rfl, _, rfl⟩) (D d16_24) hr
                              · show QIC Z lb lk cc h0 n0 _ s₁.heap _
                                rw [e0]
                                exact ⟨_, rfl, rfl, rfl, Or.inl ⟨by decide, (by simp only [own_tc, own_an, own_sp, Int32.lt_iff_toInt_lt, ← Int32.toInt_inj, Int32.reduceToInt] at u13 ⊢; omega)⟩⟩
                            · have go57 : Go p e below E0 s₁ m 16 #[(sr lb), (si cc), (si 0), (si 15), (si (cc.toInt8.toInt32)), (si 14)] [(.int 14), (.ref lb)] := fun tgt kont => go55 tgt (by
                                refine XS.icmpYes X0.here hx rfl (pc0 := 19) (pc' := 25) rfl (D d16_19) rfl (feq (fun q => u13 (bk13.mp q))).2 (by decide) (by decide) ?_; refine XS.iinc X0.here hx rfl (D d16_25) rfl (l' := #[(sr lb), (si cc), (si 0), (si 15), (si (cc.toInt8.toInt32)), (si 14)]) rfl ?_; refine XS.goto X0.here hx rfl (pc0 := 28) (pc' := 7) rfl (D d16_28) (by decide) (by decide) ?_; refine XS.iload X0.here hx rfl (D d16_7) rfl ?_; refine XS.iloadN X0.here hx rfl (D d16_9) rfl ?_; refine XS.icmpNo X0.here hx rfl (D d16_10) rfl (tlt (by decide)).2.1 ?_; refine XS.aloadN X0.here hx rfl (D d16_13) rfl rfl ?_; refine XS.iload X0.here hx rfl (D d16_14) rfl ?_; exact kont)
                              obtain ⟨c58, Ar58, q58, S58, M58, Hh58, G58⟩ := id Ab
                              have hin58 : ¬ ((14 : Int32) < 0 ∨ c58.slots.size ≤ ((14 : Int32)).toNatClampNeg) := inb_of S58 ⟨by decide, by decide⟩
                              have hat58 : c58.slots[((14 : Int32)).toNatClampNeg]? = some (.int (126 : Int32)) := Hh58.at hin58 rfl
                              have go59 : Go p e below E0 s₁ m 19 #[(sr lb), (si cc), (si 0), (si 15), (si (cc.toInt8.toInt32)), (si 14)] [(.int (cc.toInt8.toInt32)), (.int 126)] := fun tgt kont => go57 tgt (by
                                refine X0.baloadBytes hx (j := (14 : Int32)) (v := (.int (126 : Int32))) (by rw [e0]; exact Ar58.1) (State.isArrayOf_alike hZ.alike Ar58.2.1) Ar58.2.2 hin58 hat58 (g := (mkF m 16 #[(sr lb), (si cc), (si 0), (si 15), (si (cc.toInt8.toInt32)), (si 14)] [(.int 14), (.ref lb)])) rfl rfl (D d16_16) _ ?_; refine XS.iload X0.here hx rfl (D d16_17) rfl ?_; exact kont)
                              have bk14 := own_b8 h1 h2 (k := (126 : Int32)) (by decide)
                              by_cases u14 : cc = (126 : Int32)
                              · have go60 : Go p e below E0 s₁ m 24 #[(sr lb), (si cc), (si 0), (si 15), (si (cc.toInt8.toInt32)), (si 14)] [(.int 14)] := fun tgt kont => go59 tgt (by
                                  refine XS.icmpNo X0.here hx rfl (D d16_19) rfl (teq (bk14.mpr u14)).2 ?_; refine XS.iload X0.here hx rfl (D d16_22) rfl ?_; exact kont)
                                obtain ⟨fs, hr, hrun, hended, hW, hsame⟩ := X0.leave (v := some (.int (14 : Int32))) (fun h => by rw [Bd.returns] at h; cases h)
                                refine ⟨_, _, go60 _ ?_, hrun, hended, _, _, rfl, ?_, ⟨_, rfl⟩, hW, hsame.mono (by decide) (by decide)⟩
                                · show Steps p.tables e below (s₁.setTop (mkF m 24 #[(sr lb), (si cc), (si 0), (si 15), (si (cc.toInt8.toInt32)), (si 14)] [(.int 14)])) _
                                  exact retOut X0 hx Bd.returns rfl (Or.inl ⟨rfl, Or.inl rfl, _, rfl⟩) (D d16_24) hr
                                · show QIC Z lb lk cc h0 n0 _ s₁.heap _
                                  rw [e0]
                                  exact ⟨_, rfl, rfl, rfl, Or.inl ⟨by decide, (by simp only [own_tc, own_an, own_sp, Int32.lt_iff_toInt_lt, ← Int32.toInt_inj, Int32.reduceToInt] at u14 ⊢; omega)⟩⟩
                              · have go61 : Go p e below E0 s₁ m 32 #[(sr lb), (si cc), (si 0), (si 15), (si (cc.toInt8.toInt32)), (si 15)] [(.int (-1))] := fun tgt kont => go59 tgt (by
                                  refine XS.icmpYes X0.here hx rfl (pc0 := 19) (pc' := 25) rfl (D d16_19) rfl (feq (fun q => u14 (bk14.mp q))).2 (by decide) (by decide) ?_; refine XS.iinc X0.here hx rfl (D d16_25) rfl (l' := #[(sr lb), (si cc), (si 0), (si 15), (si (cc.toInt8.toInt32)), (si 15)]) rfl ?_; refine XS.goto X0.here hx rfl (pc0 := 28) (pc' := 7) rfl (D d16_28) (by decide) (by decide) ?_; refine XS.iload X0.here hx rfl (D d16_7) rfl ?_; refine XS.iloadN X0.here hx rfl (D d16_9) rfl ?_; refine XS.icmpYes X0.here hx rfl (pc0 := 10) (pc' := 31) rfl (D d16_10) rfl (flt (by decide)).2.1 (by decide) (by decide) ?_; refine XS.iconst X0.here hx rfl (D d16_31) ?_; exact kont)
                                obtain ⟨fs, hr, hrun, hended, hW, hsame⟩ := X0.leave (v := some (.int (-1 : Int32))) (fun h => by rw [Bd.returns] at h; cases h)
                                refine ⟨_, _, go61 _ ?_, hrun, hended, _, _, rfl, ?_, ⟨_, rfl⟩, hW, hsame.mono (by decide) (by decide)⟩
                                · show Steps p.tables e below (s₁.setTop (mkF m 32 #[(sr lb), (si cc), (si 0), (si 15), (si (cc.toInt8.toInt32)), (si 15)] [(.int (-1))])) _
                                  exact retOut X0 hx Bd.returns rfl (Or.inl ⟨rfl, Or.inl rfl, _, rfl⟩) (D d16_32) hr
                                · show QIC Z lb lk cc h0 n0 _ s₁.heap _
                                  rw [e0]
                                  exact ⟨_, rfl, rfl, rfl, Or.inr ⟨by decide, (by simp only [own_tc, own_an, own_sp, Int32.lt_iff_toInt_lt, ← Int32.toInt_inj, Int32.reduceToInt] at u0 u1 u2 u3 u4 u5 u6 u7 u8 u9 u10 u11 u12 u13 u14 ⊢; omega)⟩⟩
theorem pd_12 : parseMethodDescriptor "(I)Z" = some ⟨[.int], some .boolean⟩ := by decide +kernel
theorem pd_13 : parseMethodDescriptor "(II)I" = some ⟨[.int, .int], some .int⟩ := by decide +kernel
theorem pd_14 : parseMethodDescriptor "([BIII)I" = some ⟨[(.array .byte), .int, .int, .int], some .int⟩ := by decide +kernel
theorem d17_0 : decode jdk_43_method_22_code 0 = .ok (.iload_n 1, 1) := by decide +kernel
theorem d17_1 : decode jdk_43_method_22_code 1 = .ok (.invokestatic 88, 3) := by decide +kernel
theorem d17_4 : decode jdk_43_method_22_code 4 = .ok (.ifCond .ne 5, 3) := by decide +kernel
theorem d17_7 : decode jdk_43_method_22_code 7 = .ok (.iconst (-1), 1) := by decide +kernel
theorem d17_8 : decode jdk_43_method_22_code 8 = .ok (.ireturn, 1) := by decide +kernel
theorem d17_9 : decode jdk_43_method_22_code 9 = .ok (.iload_n 2, 1) := by decide +kernel
theorem d17_10 : decode jdk_43_method_22_code 10 = .ok (.iconst 0, 1) := by decide +kernel
theorem d17_11 : decode jdk_43_method_22_code 11 = .ok (.invokestatic 92, 3) := by decide +kernel
theorem d17_14 : decode jdk_43_method_22_code 14 = .ok (.istore_n 2, 1) := by decide +kernel
theorem d17_15 : decode jdk_43_method_22_code 15 = .ok (.iload_n 3, 1) := by decide +kernel
theorem d17_16 : decode jdk_43_method_22_code 16 = .ok (.aload_n 0, 1) := by decide +kernel
theorem d17_17 : decode jdk_43_method_22_code 17 = .ok (.arraylength, 1) := by decide +kernel
theorem d17_18 : decode jdk_43_method_22_code 18 = .ok (.invokestatic 38, 3) := by decide +kernel
theorem d17_21 : decode jdk_43_method_22_code 21 = .ok (.istore_n 3, 1) := by decide +kernel
theorem d17_22 : decode jdk_43_method_22_code 22 = .ok (.iload_n 2, 1) := by decide +kernel
theorem d17_23 : decode jdk_43_method_22_code 23 = .ok (.iload_n 3, 1) := by decide +kernel
theorem d17_24 : decode jdk_43_method_22_code 24 = .ok (.if_icmp .lt 5, 3) := by decide +kernel
theorem d17_29 : decode jdk_43_method_22_code 29 = .ok (.aload_n 0, 1) := by decide +kernel
theorem d17_30 : decode jdk_43_method_22_code 30 = .ok (.iload_n 1, 1) := by decide +kernel
theorem d17_31 : decode jdk_43_method_22_code 31 = .ok (.iload_n 2, 1) := by decide +kernel
theorem d17_32 : decode jdk_43_method_22_code 32 = .ok (.iload_n 3, 1) := by decide +kernel
theorem d17_33 : decode jdk_43_method_22_code 33 = .ok (.invokestatic 95, 3) := by decide +kernel
theorem d17_36 : decode jdk_43_method_22_code 36 = .ok (.ireturn, 1) := by decide +kernel
theorem ef_LI (m : MethodId) (x0 : Addr) (x1 : Int32) (x2 : Int32) (x3 : Int32) : entryFrame m #[(.ref x0), (.int x1), (.int x2), (.int x3)] 4 = mkF m 0 #[.val (.ref x0), .val (.int x1), .val (.int x2), .val (.int x3)] [] := by first | (simp [entryFrame, mkF, argsToLocals, Value.category, maxLocals]; done) | rfl
def QLI (Z : State) (lb : Addr) (lk : ClassId) (cc : Int32) (h0 : Heap) (n0 : Nat) (v : Option Value) (h : Heap) (L : List Loc) : Prop := ∃ r : Int32, v = some (.int r) ∧ L = [] ∧ h = h0 ∧ ((¬ r < 0 ∧ own_sp cc) ∨ (r < 0 ∧ ¬ own_sp cc))
abbrev RmLI : Room := ({ frames := 1, cells := 0, slots := 0, locals := 17 } : Room)
set_option maxRecDepth 65536 in
set_option maxHeartbeats 40000000 in
theorem rmLI (l : Launch) (Z : State) (a0 : Array Value) (hw : ∀ d ∈ tables_1, d.before a0 Z = true) (ws : List Jvm.Cond) (lb : Addr) (lk : ClassId) (cc : Int32) (h0 : Heap) (n0 : Nat) (Z0 : n0 ≤ h0.size) (Ab : Arv Z h0 lb lk .byte (15 : Int32) own_SL (.int (0 : Int32))) (h1 : ¬ cc < 0) :
    MetFree l (⟨"java/lang/StringLatin1", "indexOf", "([BIII)I"⟩ : MethodName) (head1 (Jvm.Cond.code (⟨"java/lang/StringLatin1", "indexOf", "([BIII)I"⟩ : MethodName) jdk_43_method_22_code 4 (some .int) :: ws) RmLI) (fun as_ U => as_ = #[(.ref lb), (.int cc), (.int (0 : Int32)), (.int (15 : Int32))] ∧ Z.Warmed39 U.vm ∧ U.heap = h0) (fun _ _ _ _ _ => True) (fun _ U o U' => ∃ v L, o = .returned v ∧ QLI Z lb lk cc h0 n0 v U'.heap L ∧ FrameEnd U o U' L RmLI.cells RmLI.slots) := by
  refine MetFree.of_bodySF (plainFor_of_name pn_4) hisR ?_
  intro p e s m args below meth c s₁ Bd hml0 hP hK
  obtain ⟨rfl, hZ, hh⟩ := hP
  have hx := Bd.exec
  have hby := Bd.bytes
  have D : ∀ {pc : Nat} {r : Except DecodeError (Instr × Nat)}, decode jdk_43_method_22_code pc = r → decode c.code pc = r := fun q => hb hby q
  have hml : c.maxLocals = 4 := hml0
  have hown : s.vm.findClass "java/lang/StringLatin1" = some m.cls := findClass_of_methodNamed Bd.named
  have hnm := (name_of_methodNamed Bd.named Bd.method).1
  have X0 : Stand p l e RmLI s m #[(.ref lb), (.int cc), (.int (0 : Int32)), (.int (15 : Int32))] below meth c s₁ [] 0 0 := Stand.of_body Bd
  have e0 : s₁.heap = h0 := by rw [← hh, Bd.state]; rfl
  have N0 := Fr.nil n0
  obtain ⟨E0, hE0⟩ : ∃ z, z = s₁.setTop (entryFrame m #[(.ref lb), (.int cc), (.int (0 : Int32)), (.int (15 : Int32))] 4) := ⟨_, rfl⟩
  rw [← hE0]
  have go0 : ∀ tgt, Steps p.tables e below (s₁.setTop (mkF m 0 #[(sr lb), (si cc), (si 0), (si 15)] [])) tgt → Steps p.tables e below E0 tgt := fun tgt kont => by rw [hE0]; exact castTop (ef_LI m lb cc (0 : Int32) (15 : Int32)) kont
  have go1 : Go p e below E0 s₁ m 1 #[(sr lb), (si cc), (si 0), (si 15)] [(.int cc)] := fun tgt kont => go0 tgt (by
    refine XS.iloadN X0.here hx rfl (D d17_0) rfl ?_; exact kont)
  obtain ⟨vv2, _, ⟨T2, L2, k2, n2⟩, -, X2, ⟨Lc2, hQ2, l2, y2, z2⟩, st2⟩ := Jvm.LawKit.callS X0 hx (y := (⟨"java/lang/StringLatin1", "canEncode", "(I)Z"⟩ : MethodName)) hown (mvT hZ (wd hw 94 rfl)) (mvT hZ (wd hw 95 rfl)) (mvT hZ (wd hw 69 rfl)) (mvT hZ (wd hw 96 rfl)) (by decide) (backOf (W := 0) (rmCE l Z a0 hw [] cc h0 n0 Z0 h1) hZ (wd hw 96 rfl) (wd hw 69 rfl) (by decide) (by decide)) (g := (mkF m 1 #[(sr lb), (si cc), (si 0), (si 15)] [(.int cc)])) rfl (by rw [hml]; rfl) (argsL := [(.int cc)]) (rest := []) (lenOf pd_12 rfl) rfl (by show 2 * 0 + _ ≤ _; exact Nat.le_of_eq rfl) (D d17_1) (fun _ _ => ⟨rfl, e0, (by decide : 0 + 0 ≤ _), (by decide : 0 + 0 ≤ _)⟩)
  dsimp only [Pt.U, Pt.locs, Pt.cells, Pt.slots] at X2 l2 y2 z2 st2 hQ2
  subst l2 y2 z2
  obtain ⟨hv2, rfl, e2⟩ := hQ2
  have N2q : Fr n0 ([] : List Loc) := Fr.nil n0
  obtain ⟨r, rfl, hr⟩ : ∃ r : Int32, vv2 = some (.int r) ∧ ((r = 1 ∧ ¬ (255 : Int32) < cc) ∨ (r = 0 ∧ ¬ (¬ (255 : Int32) < cc))) := by
    rcases hv2 with ⟨q, u⟩ | ⟨q, u⟩
    · exact ⟨1, q, Or.inl ⟨rfl, u⟩⟩
    · exact ⟨0, q, Or.inr ⟨rfl, u⟩⟩
  have N2 := Fr.app N0 N2q
  have go2 : Go p e below E0 T2 m 4 #[(sr lb), (si cc), (si 0), (si 15)] [(.int r)] := fun tgt kont => go1 tgt (st2 tgt kont)
  rcases hr with ⟨rfl, hle⟩ | ⟨rfl, hlt⟩
  · have go3 : Go p e below E0 T2 m 11 #[(sr lb), (si cc), (si 0), (si 15)] [(.int 0), (.int 0)] := fun tgt kont => go2 tgt (by
      refine XS.ifYes X2.here hx rfl (pc0 := 4) (pc' := 9) rfl (D d17_4) rfl ((if0 _ _).trans (feq (by decide)).2) (by decide) (by decide) ?_; refine XS.iloadN X2.here hx rfl (D d17_9) rfl ?_; refine XS.iconst X2.here hx rfl (D d17_10) ?_; exact kont)
    obtain ⟨_, _, ⟨T4, L4, k4, n4⟩, -, X4, ⟨Lc4, hQ4, l4, y4, z4⟩, st4⟩ := Jvm.LawKit.callS X2 hx (y := (⟨"java/lang/Math", "max", "(II)I"⟩ : MethodName)) hown (mvT hZ (wd hw 97 rfl)) (mvT hZ (wd hw 98 rfl)) (mvT hZ (wd hw 99 rfl)) (mvT hZ (wd hw 100 rfl)) (by decide) (backOf (W := 0) (rmMX l Z a0 hw []  h0 n0 Z0 ) hZ (wd hw 100 rfl) (wd hw 99 rfl) (by decide) (by decide)) (g := (mkF m 11 #[(sr lb), (si cc), (si 0), (si 15)] [(.int 0), (.int 0)])) rfl (by rw [hml]; rfl) (argsL := [(.int (0 : Int32)), (.int (0 : Int32))]) (rest := []) (lenOf pd_13 rfl) rfl (by show 2 * 0 + _ ≤ _; exact Nat.le_of_eq rfl) (D d17_11) (fun _ _ => ⟨rfl, e2, (by decide : 0 + 0 ≤ _), (by decide : 0 + 0 ≤ _)⟩)
    dsimp only [Pt.U, Pt.locs, Pt.cells, Pt.slots] at X4 l4 y4 z4 st4 hQ4
    subst l4 y4 z4
    obtain ⟨rfl, rfl, e4⟩ := hQ4
    have N4 := Fr.app N2 (Fr.nil n0)
    have go4 : Go p e below E0 T4 m 14 #[(sr lb), (si cc), (si 0), (si 15)] [(.int 0)] := fun tgt kont => go3 tgt (st4 tgt kont)
    have go5 : Go p e below E0 T4 m 17 #[(sr lb), (si cc), (si 0), (si 15)] [(.ref lb), (.int 15)] := fun tgt kont => go4 tgt (by
      refine XS.istoreN X4.here hx rfl (D d17_14) rfl (l' := #[(sr lb), (si cc), (si 0), (si 15)]) rfl ?_; refine XS.iloadN X4.here hx rfl (D d17_15) rfl ?_; refine XS.aloadN X4.here hx rfl (D d17_16) rfl rfl ?_; exact kont)
    obtain ⟨c6, Ar6, q6, S6, M6, -, -⟩ := id Ab
    have go7 : Go p e below E0 T4 m 18 #[(sr lb), (si cc), (si 0), (si 15)] [(.int 15), (.int 15)] := fun tgt kont => go5 tgt (by
      refine X4.arraylength hx (by rw [e4]; exact Ar6.1) (State.isArrayOf_alike hZ.alike Ar6.2.1) (g := (mkF m 17 #[(sr lb), (si cc), (si 0), (si 15)] [(.ref lb), (.int 15)])) rfl rfl (D d17_17) _ ?_; rw [len_of S6 M6]; exact kont)
    obtain ⟨_, _, ⟨T8, L8, k8, n8⟩, -, X8, ⟨Lc8, hQ8, l8, y8, z8⟩, st8⟩ := Jvm.LawKit.callS X4 hx (y := (⟨"java/lang/Math", "min", "(II)I"⟩ : MethodName)) hown (mvT hZ (wd hw 101 rfl)) (mvT hZ (wd hw 102 rfl)) (mvT hZ (wd hw 99 rfl)) (mvT hZ (wd hw 103 rfl)) (by decide) (backOf (W := 0) (rmMN l Z a0 hw []  h0 n0 Z0 ) hZ (wd hw 103 rfl) (wd hw 99 rfl) (by decide) (by decide)) (g := (mkF m 18 #[(sr lb), (si cc), (si 0), (si 15)] [(.int 15), (.int 15)])) rfl (by rw [hml]; rfl) (argsL := [(.int (15 : Int32)), (.int (15 : Int32))]) (rest := []) (lenOf pd_13 rfl) rfl (by show 2 * 0 + _ ≤ _; exact Nat.le_of_eq rfl) (D d17_18) (fun _ _ => ⟨rfl, e4, (by decide : 0 + 0 ≤ _), (by decide : 0 + 0 ≤ _)⟩)
    dsimp only [Pt.U, Pt.locs, Pt.cells, Pt.slots] at X8 l8 y8 z8 st8 hQ8
    subst l8 y8 z8
    obtain ⟨rfl, rfl, e8⟩ := hQ8
    have N8 := Fr.app N4 (Fr.nil n0)
    have go8 : Go p e below E0 T8 m 21 #[(sr lb), (si cc), (si 0), (si 15)] [(.int 15)] := fun tgt kont => go7 tgt (st8 tgt kont)
    have go9 : Go p e below E0 T8 m 33 #[(sr lb), (si cc), (si 0), (si 15)] [(.int 15), (.int 0), (.int cc), (.ref lb)] := fun tgt kont => go8 tgt (by
      refine XS.istoreN X8.here hx rfl (D d17_21) rfl (l' := #[(sr lb), (si cc), (si 0), (si 15)]) rfl ?_; refine XS.iloadN X8.here hx rfl (D d17_22) rfl ?_; refine XS.iloadN X8.here hx rfl (D d17_23) rfl ?_; refine XS.icmpYes X8.here hx rfl (pc0 := 24) (pc' := 29) rfl (D d17_24) rfl (tlt (by decide)).1 (by decide) (by decide) ?_; refine XS.aloadN X8.here hx rfl (D d17_29) rfl rfl ?_; refine XS.iloadN X8.here hx rfl (D d17_30) rfl ?_; refine XS.iloadN X8.here hx rfl (D d17_31) rfl ?_; refine XS.iloadN X8.here hx rfl (D d17_32) rfl ?_; exact kont)
    obtain ⟨_, _, ⟨T10, L10, k10, n10⟩, -, X10, ⟨Lc10, hQ10, l10, y10, z10⟩, st10⟩ := Jvm.LawKit.callS X8 hx (y := (⟨"java/lang/StringLatin1", "indexOfChar", "([BIII)I"⟩ : MethodName)) hown (mvT hZ (wd hw 104 rfl)) (mvT hZ (wd hw 105 rfl)) (mvT hZ (wd hw 69 rfl)) (mvT hZ (wd hw 106 rfl)) (by decide) (backOf (W := 0) (rmIC l Z a0 hw [] lb lk cc h0 n0 Z0 Ab h1 hle) hZ (wd hw 106 rfl) (wd hw 69 rfl) (by decide) (by decide)) (g := (mkF m 33 #[(sr lb), (si cc), (si 0), (si 15)] [(.int 15), (.int 0), (.int cc), (.ref lb)])) rfl (by rw [hml]; rfl) (argsL := [(.ref lb), (.int cc), (.int (0 : Int32)), (.int (15 : Int32))]) (rest := []) (lenOf pd_14 rfl) rfl (by show 2 * 0 + _ ≤ _; exact Nat.le_of_eq rfl) (D d17_33) (fun _ _ => ⟨rfl, e8, (by decide : 0 + 0 ≤ _), (by decide : 0 + 0 ≤ _)⟩)
    dsimp only [Pt.U, Pt.locs, Pt.cells, Pt.slots] at X10 l10 y10 z10 st10 hQ10
    subst l10 y10 z10
    obtain ⟨z, rfl, rfl, e10, hz⟩ := hQ10
    have N10 := Fr.app N8 (Fr.nil n0)
    have go10 : Go p e below E0 T10 m 36 #[(sr lb), (si cc), (si 0), (si 15)] [(.int z)] := fun tgt kont => go9 tgt (st10 tgt kont)
    obtain ⟨fs, hr, hrun, hended, hW, hsame⟩ := X10.leave (v := some (.int z)) (fun h => by rw [Bd.returns] at h; cases h)
    refine ⟨_, _, go10 _ ?_, hrun, hended, _, _, rfl, ?_, ⟨_, rfl⟩, hW, hsame.mono (by decide) (by decide)⟩
    · show Steps p.tables e below (T10.setTop (mkF m 36 #[(sr lb), (si cc), (si 0), (si 15)] [(.int z)])) _
      exact retOut X10 hx Bd.returns rfl (Or.inl ⟨rfl, Or.inl rfl, _, rfl⟩) (D d17_36) hr
    · show QLI Z lb lk cc h0 n0 _ T10.heap _
      rw [e10]
      exact ⟨_, rfl, rfl, rfl, hz⟩
  · have go11 : Go p e below E0 T2 m 8 #[(sr lb), (si cc), (si 0), (si 15)] [(.int (-1))] := fun tgt kont => go2 tgt (by
      refine XS.ifNo X2.here hx rfl (D d17_4) rfl ((if0 _ _).trans (teq rfl).2) ?_; refine XS.iconst X2.here hx rfl (D d17_7) ?_; exact kont)
    obtain ⟨fs, hr, hrun, hended, hW, hsame⟩ := X2.leave (v := some (.int (-1 : Int32))) (fun h => by rw [Bd.returns] at h; cases h)
    refine ⟨_, _, go11 _ ?_, hrun, hended, _, _, rfl, ?_, ⟨_, rfl⟩, hW, hsame.mono (by decide) (by decide)⟩
    · show Steps p.tables e below (T2.setTop (mkF m 8 #[(sr lb), (si cc), (si 0), (si 15)] [(.int (-1))])) _
      exact retOut X2 hx Bd.returns rfl (Or.inl ⟨rfl, Or.inl rfl, _, rfl⟩) (D d17_8) hr
    · show QLI Z lb lk cc h0 n0 _ T2.heap _
      rw [e2]
      exact ⟨_, rfl, rfl, rfl, Or.inr ⟨by decide, fun q => hlt (fun y => by simp only [own_sp, Int32.lt_iff_toInt_lt, Int32.reduceToInt] at q y; omega)⟩⟩
theorem pd_15 : parseMethodDescriptor "()I" = some ⟨[], some .int⟩ := by decide +kernel
theorem d18_0 : decode jdk_42_method_80_code 0 = .ok (.aload_n 0, 1) := by decide +kernel
theorem d18_1 : decode jdk_42_method_80_code 1 = .ok (.invokevirtual 492, 3) := by decide +kernel
theorem d18_4 : decode jdk_42_method_80_code 4 = .ok (.ifCond .eq 19, 3) := by decide +kernel
theorem d18_7 : decode jdk_42_method_80_code 7 = .ok (.aload_n 0, 1) := by decide +kernel
theorem d18_8 : decode jdk_42_method_80_code 8 = .ok (.getfield 9, 3) := by decide +kernel
theorem d18_11 : decode jdk_42_method_80_code 11 = .ok (.iload_n 1, 1) := by decide +kernel
theorem d18_12 : decode jdk_42_method_80_code 12 = .ok (.iload_n 2, 1) := by decide +kernel
theorem d18_13 : decode jdk_42_method_80_code 13 = .ok (.aload_n 0, 1) := by decide +kernel
theorem d18_14 : decode jdk_42_method_80_code 14 = .ok (.invokevirtual 505, 3) := by decide +kernel
theorem d18_17 : decode jdk_42_method_80_code 17 = .ok (.invokestatic 637, 3) := by decide +kernel
theorem d18_20 : decode jdk_42_method_80_code 20 = .ok (.goto 16, 3) := by decide +kernel
theorem d18_36 : decode jdk_42_method_80_code 36 = .ok (.ireturn, 1) := by decide +kernel
theorem ef_I2 (m : MethodId) (x0 : Addr) (x1 : Int32) (x2 : Int32) : entryFrame m #[(.ref x0), (.int x1), (.int x2)] 3 = mkF m 0 #[.val (.ref x0), .val (.int x1), .val (.int x2)] [] := by first | (simp [entryFrame, mkF, argsToLocals, Value.category, maxLocals]; done) | rfl
def QI2 (Z : State) (la : Addr) (lb : Addr) (lk : ClassId) (cc : Int32) (G : Int32) (fv : Value) (h0 : Heap) (n0 : Nat) (v : Option Value) (h : Heap) (L : List Loc) : Prop := ∃ r : Int32, v = some (.int r) ∧ L = [] ∧ h = h0 ∧ ((¬ r < 0 ∧ own_sp cc) ∨ (r < 0 ∧ ¬ own_sp cc))
abbrev RmI2 : Room := ({ frames := 2, cells := 0, slots := 0, locals := 32 } : Room)
set_option maxRecDepth 65536 in
set_option maxHeartbeats 40000000 in
theorem rmI2 (l : Launch) (Z : State) (a0 : Array Value) (hw : ∀ d ∈ tables_1, d.before a0 Z = true) (ws : List Jvm.Cond) (la : Addr) (lb : Addr) (lk : ClassId) (cc : Int32) (G : Int32) (fv : Value) (h0 : Heap) (n0 : Nat) (Z0 : n0 ≤ h0.size) (Ea : Exa Z h0 la "java/lang/String") (Ca : Fld Z h0 la "java/lang/String" "coder" "B" (.int (0 : Int32))) (Va : Fld Z h0 la "java/lang/String" "value" "[B" (.ref lb)) (Ab : Arv Z h0 lb lk .byte (15 : Int32) own_SL (.int (0 : Int32))) (h1 : ¬ cc < 0) (W0 : own_W Z G fv) (O0 : Old Z n0 h0) :
    MetFree l (⟨"java/lang/String", "indexOf", "(II)I"⟩ : MethodName) (head1 (Jvm.Cond.code (⟨"java/lang/String", "indexOf", "(II)I"⟩ : MethodName) jdk_42_method_80_code 3 (some .int) :: ws) RmI2) (fun as_ U => as_ = #[(.ref la), (.int cc), (.int (0 : Int32))] ∧ Z.Warmed39 U.vm ∧ U.heap = h0) (fun _ _ _ _ _ => True) (fun _ U o U' => ∃ v L, o = .returned v ∧ QI2 Z la lb lk cc G fv h0 n0 v U'.heap L ∧ FrameEnd U o U' L RmI2.cells RmI2.slots) := by
  refine MetFree.of_bodySF (plainFor_of_name pn_2) hisR ?_
  intro p e s m args below meth c s₁ Bd hml0 hP hK
  obtain ⟨rfl, hZ, hh⟩ := hP
  have hx := Bd.exec
  have hby := Bd.bytes
  have D : ∀ {pc : Nat} {r : Except DecodeError (Instr × Nat)}, decode jdk_42_method_80_code pc = r → decode c.code pc = r := fun q => hb hby q
  have hml : c.maxLocals = 3 := hml0
  have hown : s.vm.findClass "java/lang/String" = some m.cls := findClass_of_methodNamed Bd.named
  have hnm := (name_of_methodNamed Bd.named Bd.method).1
  have X0 : Stand p l e RmI2 s m #[(.ref la), (.int cc), (.int (0 : Int32))] below meth c s₁ [] 0 0 := Stand.of_body Bd
  have e0 : s₁.heap = h0 := by rw [← hh, Bd.state]; rfl
  have N0 := Fr.nil n0
  obtain ⟨E0, hE0⟩ : ∃ z, z = s₁.setTop (entryFrame m #[(.ref la), (.int cc), (.int (0 : Int32))] 3) := ⟨_, rfl⟩
  rw [← hE0]
  have go0 : ∀ tgt, Steps p.tables e below (s₁.setTop (mkF m 0 #[(sr la), (si cc), (si 0)] [])) tgt → Steps p.tables e below E0 tgt := fun tgt kont => by rw [hE0]; exact castTop (ef_I2 m la cc (0 : Int32)) kont
  have go1 : Go p e below E0 s₁ m 1 #[(sr la), (si cc), (si 0)] [(.ref la)] := fun tgt kont => go0 tgt (by
    refine XS.aloadN X0.here hx rfl (D d18_0) rfl rfl ?_; exact kont)
  obtain ⟨cq2, kq2, q2a, q2b, q2c⟩ := isOf hZ e0 Ea
  obtain ⟨_, _, ⟨T2, L2, k2, n2⟩, -, X2, ⟨Lc2, hQ2, l2, y2, z2⟩, st2⟩ := X0.virtualBack hx (y := (⟨"java/lang/String", "isLatin1", "()Z"⟩ : MethodName)) (z := (⟨"java/lang/String", "isLatin1", "()Z"⟩ : MethodName)) hown (mvT hZ (wd hw 62 rfl)) (mvT hZ (wd hw 63 rfl)) (notFace_of_selects (args := #[]) (mvT hZ (wd hw 65 rfl))) (mvT hZ (wd hw 65 rfl)) (mvT hZ (wd hw 64 rfl)) (by decide) (backOf (W := 0) (rmIL0 l Z a0 hw [] la G fv h0 n0 Z0 Ca W0 O0) hZ (wd hw 66 rfl) (wd hw 4 rfl) (by decide) (by decide)) q2a q2c (g := (mkF m 1 #[(sr la), (si cc), (si 0)] [(.ref la)])) rfl (by rw [hml]; rfl) (Steps.refl _) (argsL := []) (rest := []) (lenOf pd_10 rfl) rfl (by show 2 * 0 + _ ≤ _; exact Nat.le_of_eq rfl) (D d18_1) (fun _ _ => ⟨rfl, e0, (by decide : 0 + 0 ≤ _), (by decide : 0 + 0 ≤ _)⟩)
  dsimp only [Pt.U, Pt.locs, Pt.cells, Pt.slots] at X2 l2 y2 z2 st2 hQ2
  subst l2 y2 z2
  obtain ⟨rfl, rfl, e2⟩ := hQ2
  have N2 := Fr.app N0 (Fr.nil n0)
  have go2 : Go p e below E0 T2 m 4 #[(sr la), (si cc), (si 0)] [(.int 1)] := fun tgt kont => go1 tgt (st2.trans kont)
  have go3 : Go p e below E0 T2 m 8 #[(sr la), (si cc), (si 0)] [(.ref la)] := fun tgt kont => go2 tgt (by
    refine XS.ifNo X2.here hx rfl (D d18_4) rfl ((if0 _ _).trans (feq (by decide)).1) ?_; refine XS.aloadN X2.here hx rfl (D d18_7) rfl rfl ?_; exact kont)
  obtain ⟨T4, X4, e4, st4⟩ := getF X2 hx hZ hown (host := "") (Or.inl (wd hw 21 rfl)) Via.refl e2 Va (g := (mkF m 8 #[(sr la), (si cc), (si 0)] [(.ref la)])) rfl rfl (D d18_8)
  have go4 : Go p e below E0 T4 m 11 #[(sr la), (si cc), (si 0)] [(.ref lb)] := fun tgt kont => go3 tgt (st4 tgt kont)
  have go5 : Go p e below E0 T4 m 14 #[(sr la), (si cc), (si 0)] [(.ref la), (.int 0), (.int cc), (.ref lb)] := fun tgt kont => go4 tgt (by
    refine XS.iloadN X4.here hx rfl (D d18_11) rfl ?_; refine XS.iloadN X4.here hx rfl (D d18_12) rfl ?_; refine XS.aloadN X4.here hx rfl (D d18_13) rfl rfl ?_; exact kont)
  obtain ⟨cq6, kq6, q6a, q6b, q6c⟩ := isOf hZ e4 Ea
  obtain ⟨_, _, ⟨T6, L6, k6, n6⟩, -, X6, ⟨Lc6, hQ6, l6, y6, z6⟩, st6⟩ := X4.virtualBack hx (y := (⟨"java/lang/String", "length", "()I"⟩ : MethodName)) (z := (⟨"java/lang/String", "length", "()I"⟩ : MethodName)) hown (mvT hZ (wd hw 90 rfl)) (mvT hZ (wd hw 28 rfl)) (notFace_of_selects (args := #[]) (mvT hZ (wd hw 30 rfl))) (mvT hZ (wd hw 30 rfl)) (mvT hZ (wd hw 29 rfl)) (by decide) (backOf (W := 3) (rmLN l Z a0 hw [] la lb lk (15 : Int32) own_SL (0 : Int32) (15 : Int32) G fv h0 n0 Z0 Ea Va Ca (by decide) Ab (by decide) W0 O0) hZ (wd hw 31 rfl) (wd hw 4 rfl) (by decide) (by decide)) q6a q6c (g := (mkF m 14 #[(sr la), (si cc), (si 0)] [(.ref la), (.int 0), (.int cc), (.ref lb)])) rfl (by rw [hml]; rfl) (Steps.refl _) (argsL := []) (rest := [(.int (0 : Int32)), (.int cc), (.ref lb)]) (lenOf pd_15 rfl) rfl (by show 2 * 0 + _ ≤ _; exact Nat.le_of_eq rfl) (D d18_14) (fun _ _ => ⟨rfl, e4, (by decide : 0 + 0 ≤ _), (by decide : 0 + 0 ≤ _)⟩)
  dsimp only [Pt.U, Pt.locs, Pt.cells, Pt.slots] at X6 l6 y6 z6 st6 hQ6
  subst l6 y6 z6
  obtain ⟨rfl, rfl, e6⟩ := hQ6
  have N6 := Fr.app N2 (Fr.nil n0)
  have go6 : Go p e below E0 T6 m 17 #[(sr la), (si cc), (si 0)] [(.int 15), (.int 0), (.int cc), (.ref lb)] := fun tgt kont => go5 tgt (st6.trans kont)
  obtain ⟨_, _, ⟨T7, L7, k7, n7⟩, -, X7, ⟨Lc7, hQ7, l7, y7, z7⟩, st7⟩ := Jvm.LawKit.callS X6 hx (y := (⟨"java/lang/StringLatin1", "indexOf", "([BIII)I"⟩ : MethodName)) hown (mvT hZ (wd hw 91 rfl)) (mvT hZ (wd hw 92 rfl)) (mvT hZ (wd hw 69 rfl)) (mvT hZ (wd hw 93 rfl)) (by decide) (backOf (W := 0) (rmLI l Z a0 hw [] lb lk cc h0 n0 Z0 Ab h1) hZ (wd hw 93 rfl) (wd hw 69 rfl) (by decide) (by decide)) (g := (mkF m 17 #[(sr la), (si cc), (si 0)] [(.int 15), (.int 0), (.int cc), (.ref lb)])) rfl (by rw [hml]; rfl) (argsL := [(.ref lb), (.int cc), (.int (0 : Int32)), (.int (15 : Int32))]) (rest := []) (lenOf pd_14 rfl) rfl (by show 2 * 0 + _ ≤ _; exact Nat.le_of_eq rfl) (D d18_17) (fun _ _ => ⟨rfl, e6, (by decide : 0 + 0 ≤ _), (by decide : 0 + 0 ≤ _)⟩)
  dsimp only [Pt.U, Pt.locs, Pt.cells, Pt.slots] at X7 l7 y7 z7 st7 hQ7
  subst l7 y7 z7
  obtain ⟨z, rfl, rfl, e7, hz⟩ := hQ7
  have N7 := Fr.app N6 (Fr.nil n0)
  have go7 : Go p e below E0 T7 m 20 #[(sr la), (si cc), (si 0)] [(.int z)] := fun tgt kont => go6 tgt (st7 tgt kont)
  have go8 : Go p e below E0 T7 m 36 #[(sr la), (si cc), (si 0)] [(.int z)] := fun tgt kont => go7 tgt (by
    refine XS.goto X7.here hx rfl (pc0 := 20) (pc' := 36) rfl (D d18_20) (by decide) (by decide) ?_; exact kont)
  obtain ⟨fs, hr, hrun, hended, hW, hsame⟩ := X7.leave (v := some (.int z)) (fun h => by rw [Bd.returns] at h; cases h)
  refine ⟨_, _, go8 _ ?_, hrun, hended, _, _, rfl, ?_, ⟨_, rfl⟩, hW, hsame.mono (by decide) (by decide)⟩
  · show Steps p.tables e below (T7.setTop (mkF m 36 #[(sr la), (si cc), (si 0)] [(.int z)])) _
    exact retOut X7 hx Bd.returns rfl (Or.inl ⟨rfl, Or.inl rfl, _, rfl⟩) (D d18_36) hr
  · show QI2 Z la lb lk cc G fv h0 n0 _ T7.heap _
    rw [e7]
    exact ⟨_, rfl, rfl, rfl, hz⟩
theorem d19_0 : decode jdk_42_method_79_code 0 = .ok (.aload_n 0, 1) := by decide +kernel
theorem d19_1 : decode jdk_42_method_79_code 1 = .ok (.iload_n 1, 1) := by decide +kernel
theorem d19_2 : decode jdk_42_method_79_code 2 = .ok (.iconst 0, 1) := by decide +kernel
theorem d19_3 : decode jdk_42_method_79_code 3 = .ok (.invokevirtual 633, 3) := by decide +kernel
theorem d19_6 : decode jdk_42_method_79_code 6 = .ok (.ireturn, 1) := by decide +kernel
theorem ef_I1 (m : MethodId) (x0 : Addr) (x1 : Int32) : entryFrame m #[(.ref x0), (.int x1)] 2 = mkF m 0 #[.val (.ref x0), .val (.int x1)] [] := by first | (simp [entryFrame, mkF, argsToLocals, Value.category, maxLocals]; done) | rfl
def QI1 (Z : State) (la : Addr) (lb : Addr) (lk : ClassId) (cc : Int32) (G : Int32) (fv : Value) (h0 : Heap) (n0 : Nat) (v : Option Value) (h : Heap) (L : List Loc) : Prop := ∃ r : Int32, v = some (.int r) ∧ L = [] ∧ h = h0 ∧ ((¬ r < 0 ∧ own_sp cc) ∨ (r < 0 ∧ ¬ own_sp cc))
abbrev RmI1 : Room := ({ frames := 3, cells := 0, slots := 0, locals := 46 } : Room)
set_option maxRecDepth 65536 in
set_option maxHeartbeats 40000000 in
theorem rmI1 (l : Launch) (Z : State) (a0 : Array Value) (hw : ∀ d ∈ tables_1, d.before a0 Z = true) (ws : List Jvm.Cond) (la : Addr) (lb : Addr) (lk : ClassId) (cc : Int32) (G : Int32) (fv : Value) (h0 : Heap) (n0 : Nat) (Z0 : n0 ≤ h0.size) (Ea : Exa Z h0 la "java/lang/String") (Ca : Fld Z h0 la "java/lang/String" "coder" "B" (.int (0 : Int32))) (Va : Fld Z h0 la "java/lang/String" "value" "[B" (.ref lb)) (Ab : Arv Z h0 lb lk .byte (15 : Int32) own_SL (.int (0 : Int32))) (h1 : ¬ cc < 0) (W0 : own_W Z G fv) (O0 : Old Z n0 h0) :
    MetFree l (⟨"java/lang/String", "indexOf", "(I)I"⟩ : MethodName) (head1 (Jvm.Cond.code (⟨"java/lang/String", "indexOf", "(I)I"⟩ : MethodName) jdk_42_method_79_code 2 (some .int) :: ws) RmI1) (fun as_ U => as_ = #[(.ref la), (.int cc)] ∧ Z.Warmed39 U.vm ∧ U.heap = h0) (fun _ _ _ _ _ => True) (fun _ U o U' => ∃ v L, o = .returned v ∧ QI1 Z la lb lk cc G fv h0 n0 v U'.heap L ∧ FrameEnd U o U' L RmI1.cells RmI1.slots) := by
  refine MetFree.of_bodySF (plainFor_of_name pn_2) hisR ?_
  intro p e s m args below meth c s₁ Bd hml0 hP hK
  obtain ⟨rfl, hZ, hh⟩ := hP
  have hx := Bd.exec
  have hby := Bd.bytes
  have D : ∀ {pc : Nat} {r : Except DecodeError (Instr × Nat)}, decode jdk_42_method_79_code pc = r → decode c.code pc = r := fun q => hb hby q
  have hml : c.maxLocals = 2 := hml0
  have hown : s.vm.findClass "java/lang/String" = some m.cls := findClass_of_methodNamed Bd.named
  have hnm := (name_of_methodNamed Bd.named Bd.method).1
  have X0 : Stand p l e RmI1 s m #[(.ref la), (.int cc)] below meth c s₁ [] 0 0 := Stand.of_body Bd
  have e0 : s₁.heap = h0 := by rw [← hh, Bd.state]; rfl
  have N0 := Fr.nil n0
  obtain ⟨E0, hE0⟩ : ∃ z, z = s₁.setTop (entryFrame m #[(.ref la), (.int cc)] 2) := ⟨_, rfl⟩
  rw [← hE0]
  have go0 : ∀ tgt, Steps p.tables e below (s₁.setTop (mkF m 0 #[(sr la), (si cc)] [])) tgt → Steps p.tables e below E0 tgt := fun tgt kont => by rw [hE0]; exact castTop (ef_I1 m la cc) kont
  have go1 : Go p e below E0 s₁ m 3 #[(sr la), (si cc)] [(.int 0), (.int cc), (.ref la)] := fun tgt kont => go0 tgt (by
    refine XS.aloadN X0.here hx rfl (D d19_0) rfl rfl ?_; refine XS.iloadN X0.here hx rfl (D d19_1) rfl ?_; refine XS.iconst X0.here hx rfl (D d19_2) ?_; exact kont)
  obtain ⟨cq2, kq2, q2a, q2b, q2c⟩ := isOf hZ e0 Ea
  obtain ⟨_, _, ⟨T2, L2, k2, n2⟩, -, X2, ⟨Lc2, hQ2, l2, y2, z2⟩, st2⟩ := X0.virtualBack hx (y := (⟨"java/lang/String", "indexOf", "(II)I"⟩ : MethodName)) (z := (⟨"java/lang/String", "indexOf", "(II)I"⟩ : MethodName)) hown (mvT hZ (wd hw 85 rfl)) (mvT hZ (wd hw 86 rfl)) (notFace_of_selects (args := #[]) (mvT hZ (wd hw 88 rfl))) (mvT hZ (wd hw 88 rfl)) (mvT hZ (wd hw 87 rfl)) (by decide) (backOf (W := 0) (rmI2 l Z a0 hw [] la lb lk cc G fv h0 n0 Z0 Ea Ca Va Ab h1 W0 O0) hZ (wd hw 89 rfl) (wd hw 4 rfl) (by decide) (by decide)) q2a q2c (g := (mkF m 3 #[(sr la), (si cc)] [(.int 0), (.int cc), (.ref la)])) rfl (by rw [hml]; rfl) (Steps.refl _) (argsL := [(.int cc), (.int (0 : Int32))]) (rest := []) (lenOf pd_13 rfl) rfl (by show 2 * 0 + _ ≤ _; exact Nat.le_of_eq rfl) (D d19_3) (fun _ _ => ⟨rfl, e0, (by decide : 0 + 0 ≤ _), (by decide : 0 + 0 ≤ _)⟩)
  dsimp only [Pt.U, Pt.locs, Pt.cells, Pt.slots] at X2 l2 y2 z2 st2 hQ2
  subst l2 y2 z2
  obtain ⟨z, rfl, rfl, e2, hz⟩ := hQ2
  have N2 := Fr.app N0 (Fr.nil n0)
  have go2 : Go p e below E0 T2 m 6 #[(sr la), (si cc)] [(.int z)] := fun tgt kont => go1 tgt (st2.trans kont)
  obtain ⟨fs, hr, hrun, hended, hW, hsame⟩ := X2.leave (v := some (.int z)) (fun h => by rw [Bd.returns] at h; cases h)
  refine ⟨_, _, go2 _ ?_, hrun, hended, _, _, rfl, ?_, ⟨_, rfl⟩, hW, hsame.mono (by decide) (by decide)⟩
  · show Steps p.tables e below (T2.setTop (mkF m 6 #[(sr la), (si cc)] [(.int z)])) _
    exact retOut X2 hx Bd.returns rfl (Or.inl ⟨rfl, Or.inl rfl, _, rfl⟩) (D d19_6) hr
  · show QI1 Z la lb lk cc G fv h0 n0 _ T2.heap _
    rw [e2]
    exact ⟨_, rfl, rfl, rfl, hz⟩
theorem d20_0 : decode jdk_52_method_15_code 0 = .ok (.iload_n 1, 1) := by decide +kernel
theorem d20_1 : decode jdk_52_method_15_code 1 = .ok (.aload_n 0, 1) := by decide +kernel
theorem d20_2 : decode jdk_52_method_15_code 2 = .ok (.arraylength, 1) := by decide +kernel
theorem d20_3 : decode jdk_52_method_15_code 3 = .ok (.isub, 1) := by decide +kernel
theorem d20_4 : decode jdk_52_method_15_code 4 = .ok (.bipush 31, 2) := by decide +kernel
theorem d20_6 : decode jdk_52_method_15_code 6 = .ok (.iushr, 1) := by decide +kernel
theorem d20_7 : decode jdk_52_method_15_code 7 = .ok (.i2b, 1) := by decide +kernel
theorem d20_8 : decode jdk_52_method_15_code 8 = .ok (.ireturn, 1) := by decide +kernel
theorem ef_CF (m : MethodId) (x0 : Addr) (x1 : Int32) : entryFrame m #[(.ref x0), (.int x1)] 2 = mkF m 0 #[.val (.ref x0), .val (.int x1)] [] := by first | (simp [entryFrame, mkF, argsToLocals, Value.category, maxLocals]; done) | rfl
def QCF (Z : State) (t : Addr) (kb : ClassId) (zl : Int32) (bs : List Value) (n : Int32) (zn : Int32) (h0 : Heap) (n0 : Nat) (v : Option Value) (h : Heap) (L : List Loc) : Prop := v = some (.int zn) ∧ L = [] ∧ h = h0
abbrev RmCF : Room := ({ frames := 0, cells := 0, slots := 0, locals := 0 } : Room)
set_option maxRecDepth 65536 in
set_option maxHeartbeats 40000000 in
theorem rmCF (l : Launch) (Z : State) (a0 : Array Value) (hw : ∀ d ∈ tables_1, d.before a0 Z = true) (ws : List Jvm.Cond) (t : Addr) (kb : ClassId) (zl : Int32) (bs : List Value) (n : Int32) (zn : Int32) (h0 : Heap) (n0 : Nat) (Z0 : n0 ≤ h0.size) (A0 : Arv Z h0 t kb .byte zl bs (.int (0 : Int32))) (hz : nar .byte ((((n - zl).toUInt32 >>> ((31 : Int32) &&& 31).toUInt32).toInt32).toInt8.toInt32) = zn) :
    MetFree l (⟨"java/lang/StringUTF16", "coderFromArrayLen", "([BI)B"⟩ : MethodName) (head1 (Jvm.Cond.code (⟨"java/lang/StringUTF16", "coderFromArrayLen", "([BI)B"⟩ : MethodName) jdk_52_method_15_code 2 (some .byte) :: ws) RmCF) (fun as_ U => as_ = #[(.ref t), (.int n)] ∧ Z.Warmed39 U.vm ∧ U.heap = h0) (fun _ _ _ _ _ => True) (fun _ U o U' => ∃ v L, o = .returned v ∧ QCF Z t kb zl bs n zn h0 n0 v U'.heap L ∧ FrameEnd U o U' L RmCF.cells RmCF.slots) := by
  refine MetFree.of_bodySF (plainFor_of_name pn_5) hisR ?_
  intro p e s m args below meth c s₁ Bd hml0 hP hK
  obtain ⟨rfl, hZ, hh⟩ := hP
  have hx := Bd.exec
  have hby := Bd.bytes
  have D : ∀ {pc : Nat} {r : Except DecodeError (Instr × Nat)}, decode jdk_52_method_15_code pc = r → decode c.code pc = r := fun q => hb hby q
  have hml : c.maxLocals = 2 := hml0
  have hown : s.vm.findClass "java/lang/StringUTF16" = some m.cls := findClass_of_methodNamed Bd.named
  have hnm := (name_of_methodNamed Bd.named Bd.method).1
  have X0 : Stand p l e RmCF s m #[(.ref t), (.int n)] below meth c s₁ [] 0 0 := Stand.of_body Bd
  have e0 : s₁.heap = h0 := by rw [← hh, Bd.state]; rfl
  have N0 := Fr.nil n0
  obtain ⟨E0, hE0⟩ : ∃ z, z = s₁.setTop (entryFrame m #[(.ref t), (.int n)] 2) := ⟨_, rfl⟩
  rw [← hE0]
  have go0 : ∀ tgt, Steps p.tables e below (s₁.setTop (mkF m 0 #[(sr t), (si n)] [])) tgt → Steps p.tables e below E0 tgt := fun tgt kont => by rw [hE0]; exact castTop (ef_CF m t n) kont
  have go1 : Go p e below E0 s₁ m 2 #[(sr t), (si n)] [(.ref t), (.int n)] := fun tgt kont => go0 tgt (by
    refine XS.iloadN X0.here hx rfl (D d20_0) rfl ?_; refine XS.aloadN X0.here hx rfl (D d20_1) rfl rfl ?_; exact kont)
  obtain ⟨c2, Ar2, q2, S2, M2, -, -⟩ := id A0
  have go3 : Go p e below E0 s₁ m 8 #[(sr t), (si n)] [(.int ((((n - zl).toUInt32 >>> ((31 : Int32) &&& 31).toUInt32).toInt32).toInt8.toInt32))] := fun tgt kont => go1 tgt (by
    refine X0.arraylength hx (by rw [e0]; exact Ar2.1) (State.isArrayOf_alike hZ.alike Ar2.2.1) (g := (mkF m 2 #[(sr t), (si n)] [(.ref t), (.int n)])) rfl rfl (D d20_2) _ ?_; rw [len_of S2 M2]; refine XS.isub X0.here hx rfl (D d20_3) rfl ?_; refine XS.bipush X0.here hx rfl (D d20_4) ?_; refine XS.iushr X0.here hx rfl (D d20_6) rfl ?_; refine XS.i2b X0.here hx rfl (D d20_7) rfl ?_; exact kont)
  obtain ⟨fs, hr, hrun, hended, hW, hsame⟩ := X0.leave (v := some (.int (nar .byte ((((n - zl).toUInt32 >>> ((31 : Int32) &&& 31).toUInt32).toInt32).toInt8.toInt32)))) (fun h => by rw [Bd.returns] at h; cases h)
  refine ⟨_, _, go3 _ ?_, hrun, hended, _, _, rfl, ?_, ⟨_, rfl⟩, hW, hsame.mono (by decide) (by decide)⟩
  · show Steps p.tables e below (s₁.setTop (mkF m 8 #[(sr t), (si n)] [(.int ((((n - zl).toUInt32 >>> ((31 : Int32) &&& 31).toUInt32).toInt32).toInt8.toInt32))])) _
    exact retN X0 hx (t := .byte) Bd.returns (by simp) (D d20_8) hr
  · show QCF Z t kb zl bs n zn h0 n0 _ s₁.heap _
    rw [e0]
    exact ⟨by rw [← hz], rfl, rfl⟩
theorem d21_0 : decode jdk_52_method_3_code 0 = .ok (.iload_n 0, 1) := by decide +kernel
theorem d21_1 : decode jdk_52_method_3_code 1 = .ok (.ifCond .ge 11, 3) := by decide +kernel
theorem d21_12 : decode jdk_52_method_3_code 12 = .ok (.iload_n 0, 1) := by decide +kernel
theorem d21_13 : decode jdk_52_method_3_code 13 = .ok (.ldc 20, 2) := by decide +kernel
theorem d21_15 : decode jdk_52_method_3_code 15 = .ok (.if_icmp .lt 40, 3) := by decide +kernel
theorem d21_55 : decode jdk_52_method_3_code 55 = .ok (.iload_n 0, 1) := by decide +kernel
theorem d21_56 : decode jdk_52_method_3_code 56 = .ok (.iconst 1, 1) := by decide +kernel
theorem d21_57 : decode jdk_52_method_3_code 57 = .ok (.ishl, 1) := by decide +kernel
theorem d21_58 : decode jdk_52_method_3_code 58 = .ok (.ireturn, 1) := by decide +kernel
theorem ef_NL1 (m : MethodId) (x0 : Int32) : entryFrame m #[(.int x0)] 1 = mkF m 0 #[.val (.int x0)] [] := by first | (simp [entryFrame, mkF, argsToLocals, Value.category, maxLocals]; done) | rfl
def QNL1 (Z : State) (h0 : Heap) (n0 : Nat) (v : Option Value) (h : Heap) (L : List Loc) : Prop := v = some (.int (2 : Int32)) ∧ L = [] ∧ h = h0
abbrev RmNL1 : Room := ({ frames := 0, cells := 0, slots := 0, locals := 0 } : Room)
set_option maxRecDepth 65536 in
set_option maxHeartbeats 40000000 in
theorem rmNL1 (l : Launch) (Z : State) (a0 : Array Value) (hw : ∀ d ∈ tables_1, d.before a0 Z = true) (ws : List Jvm.Cond) (h0 : Heap) (n0 : Nat) (Z0 : n0 ≤ h0.size) :
    MetFree l (⟨"java/lang/StringUTF16", "newBytesLength", "(I)I"⟩ : MethodName) (head1 (Jvm.Cond.code (⟨"java/lang/StringUTF16", "newBytesLength", "(I)I"⟩ : MethodName) jdk_52_method_3_code 1 (some .int) :: ws) RmNL1) (fun as_ U => as_ = #[(.int (1 : Int32))] ∧ Z.Warmed39 U.vm ∧ U.heap = h0) (fun _ _ _ _ _ => True) (fun _ U o U' => ∃ v L, o = .returned v ∧ QNL1 Z h0 n0 v U'.heap L ∧ FrameEnd U o U' L RmNL1.cells RmNL1.slots) := by
  refine MetFree.of_bodySF (plainFor_of_name pn_5) hisR ?_
  intro p e s m args below meth c s₁ Bd hml0 hP hK
  obtain ⟨rfl, hZ, hh⟩ := hP
  have hx := Bd.exec
  have hby := Bd.bytes
  have D : ∀ {pc : Nat} {r : Except DecodeError (Instr × Nat)}, decode jdk_52_method_3_code pc = r → decode c.code pc = r := fun q => hb hby q
  have hml : c.maxLocals = 1 := hml0
  have hown : s.vm.findClass "java/lang/StringUTF16" = some m.cls := findClass_of_methodNamed Bd.named
  have hnm := (name_of_methodNamed Bd.named Bd.method).1
  have X0 : Stand p l e RmNL1 s m #[(.int (1 : Int32))] below meth c s₁ [] 0 0 := Stand.of_body Bd
  have e0 : s₁.heap = h0 := by rw [← hh, Bd.state]; rfl
  have N0 := Fr.nil n0
  obtain ⟨E0, hE0⟩ : ∃ z, z = s₁.setTop (entryFrame m #[(.int (1 : Int32))] 1) := ⟨_, rfl⟩
  rw [← hE0]
  have go0 : ∀ tgt, Steps p.tables e below (s₁.setTop (mkF m 0 #[(si 1)] [])) tgt → Steps p.tables e below E0 tgt := fun tgt kont => by rw [hE0]; exact castTop (ef_NL1 m (1 : Int32)) kont
  have go1 : Go p e below E0 s₁ m 58 #[(si 1)] [(.int ((1 : Int32) <<< ((1 : Int32) &&& 31)))] := fun tgt kont => go0 tgt (by
    refine XS.iloadN X0.here hx rfl (D d21_0) rfl ?_; refine XS.ifYes X0.here hx rfl (pc0 := 1) (pc' := 12) rfl (D d21_1) rfl ((if0 _ _).trans (flt (by decide)).2.1) (by decide) (by decide) ?_; refine XS.iloadN X0.here hx rfl (D d21_12) rfl ?_; refine X0.ldcInt hx hown (mvT hZ (wd hw 116 rfl)) (g := (mkF m 13 #[(si 1)] [(.int 1)])) rfl (D d21_13) _ ?_; refine XS.icmpYes X0.here hx rfl (pc0 := 15) (pc' := 55) rfl (D d21_15) rfl (tlt (by decide)).1 (by decide) (by decide) ?_; refine XS.iloadN X0.here hx rfl (D d21_55) rfl ?_; refine XS.iconst X0.here hx rfl (D d21_56) ?_; refine XS.ishl X0.here hx rfl (D d21_57) rfl ?_; exact kont)
  obtain ⟨fs, hr, hrun, hended, hW, hsame⟩ := X0.leave (v := some (.int ((1 : Int32) <<< ((1 : Int32) &&& 31)))) (fun h => by rw [Bd.returns] at h; cases h)
  refine ⟨_, _, go1 _ ?_, hrun, hended, _, _, rfl, ?_, ⟨_, rfl⟩, hW, hsame.mono (by decide) (by decide)⟩
  · show Steps p.tables e below (s₁.setTop (mkF m 58 #[(si 1)] [(.int ((1 : Int32) <<< ((1 : Int32) &&& 31)))])) _
    exact retOut X0 hx Bd.returns rfl (Or.inl ⟨rfl, Or.inl rfl, _, rfl⟩) (D d21_58) hr
  · show QNL1 Z h0 n0 _ s₁.heap _
    rw [e0]
    exact ⟨congrArg (fun q => some (Value.int q)) (by decide : ((1 : Int32) <<< ((1 : Int32) &&& 31)) = (2 : Int32)), rfl, rfl⟩
theorem pd_16 : parseMethodDescriptor "(I)I" = some ⟨[.int], some .int⟩ := by decide +kernel
theorem d22_0 : decode jdk_52_method_2_code 0 = .ok (.iload_n 0, 1) := by decide +kernel
theorem d22_1 : decode jdk_52_method_2_code 1 = .ok (.invokestatic 11, 3) := by decide +kernel
theorem d22_4 : decode jdk_52_method_2_code 4 = .ok (.newarray .byte, 2) := by decide +kernel
theorem d22_6 : decode jdk_52_method_2_code 6 = .ok (.areturn, 1) := by decide +kernel
theorem ef_NF1 (m : MethodId) (x0 : Int32) : entryFrame m #[(.int x0)] 1 = mkF m 0 #[.val (.int x0)] [] := by first | (simp [entryFrame, mkF, argsToLocals, Value.category, maxLocals]; done) | rfl
def QNF1 (Z : State) (h0 : Heap) (n0 : Nat) (v : Option Value) (h : Heap) (L : List Loc) : Prop := ∃ kb : ClassId, v = some (.ref h0.size) ∧ Fr n0 L ∧ Keep h0 h [] ∧ Arv Z h h0.size kb .byte (2 : Int32) [] (.int (0 : Int32))
abbrev RmNF1 : Room := ({ frames := 1, cells := 1, slots := 2, locals := 12 } : Room)
set_option maxRecDepth 65536 in
set_option maxHeartbeats 40000000 in
theorem rmNF1 (l : Launch) (Z : State) (a0 : Array Value) (hw : ∀ d ∈ tables_1, d.before a0 Z = true) (ws : List Jvm.Cond) (h0 : Heap) (n0 : Nat) (Z0 : n0 ≤ h0.size) :
    MetFree l (⟨"java/lang/StringUTF16", "newBytesFor", "(I)[B"⟩ : MethodName) (head1 (Jvm.Cond.code (⟨"java/lang/StringUTF16", "newBytesFor", "(I)[B"⟩ : MethodName) jdk_52_method_2_code 1 (some (.array .byte)) :: ws) RmNF1) (fun as_ U => as_ = #[(.int (1 : Int32))] ∧ Z.Warmed39 U.vm ∧ U.heap = h0) (fun _ _ _ _ _ => True) (fun _ U o U' => ∃ v L, o = .returned v ∧ QNF1 Z h0 n0 v U'.heap L ∧ FrameEnd U o U' L RmNF1.cells RmNF1.slots) := by
  refine MetFree.of_bodySF (plainFor_of_name pn_5) hisR ?_
  intro p e s m args below meth c s₁ Bd hml0 hP hK
  obtain ⟨rfl, hZ, hh⟩ := hP
  have hx := Bd.exec
  have hby := Bd.bytes
  have D : ∀ {pc : Nat} {r : Except DecodeError (Instr × Nat)}, decode jdk_52_method_2_code pc = r → decode c.code pc = r := fun q => hb hby q
  have hml : c.maxLocals = 1 := hml0
  have hown : s.vm.findClass "java/lang/StringUTF16" = some m.cls := findClass_of_methodNamed Bd.named
  have hnm := (name_of_methodNamed Bd.named Bd.method).1
  have X0 : Stand p l e RmNF1 s m #[(.int (1 : Int32))] below meth c s₁ [] 0 0 := Stand.of_body Bd
  have e0 : s₁.heap = h0 := by rw [← hh, Bd.state]; rfl
  have N0 := Fr.nil n0
  obtain ⟨E0, hE0⟩ : ∃ z, z = s₁.setTop (entryFrame m #[(.int (1 : Int32))] 1) := ⟨_, rfl⟩
  rw [← hE0]
  have go0 : ∀ tgt, Steps p.tables e below (s₁.setTop (mkF m 0 #[(si 1)] [])) tgt → Steps p.tables e below E0 tgt := fun tgt kont => by rw [hE0]; exact castTop (ef_NF1 m (1 : Int32)) kont
  have go1 : Go p e below E0 s₁ m 1 #[(si 1)] [(.int 1)] := fun tgt kont => go0 tgt (by
    refine XS.iloadN X0.here hx rfl (D d22_0) rfl ?_; exact kont)
  obtain ⟨_, _, ⟨T2, L2, k2, n2⟩, -, X2, ⟨Lc2, hQ2, l2, y2, z2⟩, st2⟩ := Jvm.LawKit.callS X0 hx (y := (⟨"java/lang/StringUTF16", "newBytesLength", "(I)I"⟩ : MethodName)) hown (mvT hZ (wd hw 113 rfl)) (mvT hZ (wd hw 114 rfl)) (mvT hZ (wd hw 45 rfl)) (mvT hZ (wd hw 115 rfl)) (by decide) (backOf (W := 0) (rmNL1 l Z a0 hw []  h0 n0 Z0 ) hZ (wd hw 115 rfl) (wd hw 45 rfl) (by decide) (by decide)) (g := (mkF m 1 #[(si 1)] [(.int 1)])) rfl (by rw [hml]; rfl) (argsL := [(.int (1 : Int32))]) (rest := []) (lenOf pd_16 rfl) rfl (by show 2 * 0 + _ ≤ _; exact Nat.le_of_eq rfl) (D d22_1) (fun _ _ => ⟨rfl, e0, (by decide : 0 + 0 ≤ _), (by decide : 0 + 0 ≤ _)⟩)
  dsimp only [Pt.U, Pt.locs, Pt.cells, Pt.slots] at X2 l2 y2 z2 st2 hQ2
  subst l2 y2 z2
  obtain ⟨rfl, rfl, e2⟩ := hQ2
  have N2 := Fr.app N0 (Fr.nil n0)
  have go2 : Go p e below E0 T2 m 4 #[(si 1)] [(.int 2)] := fun tgt kont => go1 tgt (st2 tgt kont)
  obtain ⟨T3, h3, k3, X3, e3, E3, A3, st3⟩ := newP X2 hx hZ (wd hw 16 rfl) e2 (g := (mkF m 4 #[(si 1)] [(.int 2)])) rfl (D d22_4) rfl (by decide) (cap := 2) (by decide) (by decide) (by decide) (by decide)
  obtain ⟨t, g3⟩ : ∃ z, z = h0.size := ⟨_, rfl⟩
  rw [← g3] at A3 st3
  have ge_t : n0 ≤ t := Nat.le_trans Z0 (Nat.le_of_eq g3.symm)
  have hz_t : h0.size ≤ t := Nat.le_trans (Keep.refl h0 []).1 (Nat.le_of_eq g3.symm)
  have z4 : n0 ≤ h3.size := Nat.le_trans Z0 E3.1
  have K5 : Keep h0 h3 [] := (Keep.refl h0 []).ext E3
  have V3 : Arv Z h3 t k3 .byte (2 : Int32) [] (.int (0 : Int32)) := Arv.new A3 (by decide)
  have go3 : Go p e below E0 T3 m 6 #[(si 1)] [(.ref t)] := fun tgt kont => go2 tgt (st3 tgt kont)
  subst g3
  obtain ⟨fs, hr, hrun, hended, hW, hsame⟩ := X3.leave (v := some (.ref h0.size)) (fun h => by rw [Bd.returns] at h; cases h)
  refine ⟨_, _, go3 _ ?_, hrun, hended, _, _, rfl, ?_, ⟨_, rfl⟩, hW, hsame.mono (by decide) (by decide)⟩
  · show Steps p.tables e below (T3.setTop (mkF m 6 #[(si 1)] [(.ref h0.size)])) _
    exact retOut X3 hx Bd.returns rfl (Or.inr (Or.inr (Or.inr (Or.inr ⟨rfl, rfl, rfl⟩)))) (D d22_6) hr
  · show QNF1 Z h0 n0 _ T3.heap _
    rw [e3]
    exact ⟨_, rfl, N2, K5, V3⟩
theorem d23_0 : decode jdk_52_method_4_code 0 = .ok (.getstatic 44, 3) := by decide +kernel
theorem d23_3 : decode jdk_52_method_4_code 3 = .ok (.ifCond .ne 25, 3) := by decide +kernel
theorem d23_28 : decode jdk_52_method_4_code 28 = .ok (.iload_n 1, 1) := by decide +kernel
theorem d23_29 : decode jdk_52_method_4_code 29 = .ok (.iconst 1, 1) := by decide +kernel
theorem d23_30 : decode jdk_52_method_4_code 30 = .ok (.ishl, 1) := by decide +kernel
theorem d23_31 : decode jdk_52_method_4_code 31 = .ok (.istore_n 1, 1) := by decide +kernel
theorem d23_32 : decode jdk_52_method_4_code 32 = .ok (.aload_n 0, 1) := by decide +kernel
theorem d23_33 : decode jdk_52_method_4_code 33 = .ok (.iload_n 1, 1) := by decide +kernel
theorem d23_34 : decode jdk_52_method_4_code 34 = .ok (.iinc 1 1, 3) := by decide +kernel
theorem d23_37 : decode jdk_52_method_4_code 37 = .ok (.iload_n 2, 1) := by decide +kernel
theorem d23_38 : decode jdk_52_method_4_code 38 = .ok (.getstatic 59, 3) := by decide +kernel
theorem d23_41 : decode jdk_52_method_4_code 41 = .ok (.ishr, 1) := by decide +kernel
theorem d23_42 : decode jdk_52_method_4_code 42 = .ok (.i2b, 1) := by decide +kernel
theorem d23_43 : decode jdk_52_method_4_code 43 = .ok (.bastore, 1) := by decide +kernel
theorem d23_44 : decode jdk_52_method_4_code 44 = .ok (.aload_n 0, 1) := by decide +kernel
theorem d23_45 : decode jdk_52_method_4_code 45 = .ok (.iload_n 1, 1) := by decide +kernel
theorem d23_46 : decode jdk_52_method_4_code 46 = .ok (.iload_n 2, 1) := by decide +kernel
theorem d23_47 : decode jdk_52_method_4_code 47 = .ok (.getstatic 63, 3) := by decide +kernel
theorem d23_50 : decode jdk_52_method_4_code 50 = .ok (.ishr, 1) := by decide +kernel
theorem d23_51 : decode jdk_52_method_4_code 51 = .ok (.i2b, 1) := by decide +kernel
theorem d23_52 : decode jdk_52_method_4_code 52 = .ok (.bastore, 1) := by decide +kernel
theorem d23_53 : decode jdk_52_method_4_code 53 = .ok (.return_, 1) := by decide +kernel
theorem ef_PU10 (m : MethodId) (x0 : Addr) (x1 : Int32) (x2 : Int32) : entryFrame m #[(.ref x0), (.int x1), (.int x2)] 3 = mkF m 0 #[.val (.ref x0), .val (.int x1), .val (.int x2)] [] := by first | (simp [entryFrame, mkF, argsToLocals, Value.category, maxLocals]; done) | rfl
def QPU10 (Z : State) (t : Addr) (kb : ClassId) (ch0 : Int32) (G : Int32) (fv : Value) (h0 : Heap) (n0 : Nat) (v : Option Value) (h : Heap) (L : List Loc) : Prop := v = none ∧ Fr n0 L ∧ Keep h0 h [t] ∧ Arv Z h t kb .byte (2 : Int32) [(.int (own_b0 ch0)), (.int (own_b1 ch0))] (.int (0 : Int32))
abbrev RmPU10 : Room := ({ frames := 0, cells := 0, slots := 0, locals := 0 } : Room)
set_option maxRecDepth 65536 in
set_option maxHeartbeats 40000000 in
theorem rmPU10 (l : Launch) (Z : State) (a0 : Array Value) (hw : ∀ d ∈ tables_1, d.before a0 Z = true) (ws : List Jvm.Cond) (t : Addr) (kb : ClassId) (ch0 : Int32) (G : Int32) (fv : Value) (h0 : Heap) (n0 : Nat) (Z0 : n0 ≤ h0.size) (A0 : Arv Z h0 t kb .byte (2 : Int32) [] (.int (0 : Int32))) (gt : n0 ≤ t) (W0 : own_W Z G fv) (O0 : Old Z n0 h0) :
    MetFree l (⟨"java/lang/StringUTF16", "putChar", "([BII)V"⟩ : MethodName) (head1 (Jvm.Cond.code (⟨"java/lang/StringUTF16", "putChar", "([BII)V"⟩ : MethodName) jdk_52_method_4_code 3 none :: ws) RmPU10) (fun as_ U => as_ = #[(.ref t), (.int (0 : Int32)), (.int ch0)] ∧ Z.Warmed39 U.vm ∧ U.heap = h0) (fun _ _ _ _ _ => True) (fun _ U o U' => ∃ v L, o = .returned v ∧ QPU10 Z t kb ch0 G fv h0 n0 v U'.heap L ∧ FrameEnd U o U' L RmPU10.cells RmPU10.slots) := by
  refine MetFree.of_bodySF (plainFor_of_name pn_5) hisR ?_
  intro p e s m args below meth c s₁ Bd hml0 hP hK
  obtain ⟨rfl, hZ, hh⟩ := hP
  have hx := Bd.exec
  have hby := Bd.bytes
  have D : ∀ {pc : Nat} {r : Except DecodeError (Instr × Nat)}, decode jdk_52_method_4_code pc = r → decode c.code pc = r := fun q => hb hby q
  have hml : c.maxLocals = 3 := hml0
  have hown : s.vm.findClass "java/lang/StringUTF16" = some m.cls := findClass_of_methodNamed Bd.named
  have hnm := (name_of_methodNamed Bd.named Bd.method).1
  have X0 : Stand p l e RmPU10 s m #[(.ref t), (.int (0 : Int32)), (.int ch0)] below meth c s₁ [] 0 0 := Stand.of_body Bd
  have e0 : s₁.heap = h0 := by rw [← hh, Bd.state]; rfl
  have N0 := Fr.nil n0
  obtain ⟨E0, hE0⟩ : ∃ z, z = s₁.setTop (entryFrame m #[(.ref t), (.int (0 : Int32)), (.int ch0)] 3) := ⟨_, rfl⟩
  rw [← hE0]
  have go0 : ∀ tgt, Steps p.tables e below (s₁.setTop (mkF m 0 #[(sr t), (si 0), (si ch0)] [])) tgt → Steps p.tables e below E0 tgt := fun tgt kont => by rw [hE0]; exact castTop (ef_PU10 m t (0 : Int32) ch0) kont
  obtain ⟨T1, X1, e1, st1⟩ := getS2 X0 hx hZ hown (host := "") (Or.inl (wd hw 120 rfl)) Via.refl e0 (W0.2.2.2.2.1.ext O0.2) (g := (mkF m 0 #[(sr t), (si 0), (si ch0)] [])) rfl (D d23_0)
  have go1 : Go p e below E0 T1 m 3 #[(sr t), (si 0), (si ch0)] [(.int 1)] := fun tgt kont => go0 tgt (st1 tgt kont)
  have go2 : Go p e below E0 T1 m 38 #[(sr t), (si (((0 : Int32) <<< ((1 : Int32) &&& 31)) + (1 : Int32))), (si ch0)] [(.int ch0), (.int ((0 : Int32) <<< ((1 : Int32) &&& 31))), (.ref t)] := fun tgt kont => go1 tgt (by
    refine XS.ifYes X1.here hx rfl (pc0 := 3) (pc' := 28) rfl (D d23_3) rfl ((if0 _ _).trans (feq (by decide)).2) (by decide) (by decide) ?_; refine XS.iloadN X1.here hx rfl (D d23_28) rfl ?_; refine XS.iconst X1.here hx rfl (D d23_29) ?_; refine XS.ishl X1.here hx rfl (D d23_30) rfl ?_; refine XS.istoreN X1.here hx rfl (D d23_31) rfl (l' := #[(sr t), (si ((0 : Int32) <<< ((1 : Int32) &&& 31))), (si ch0)]) rfl ?_; refine XS.aloadN X1.here hx rfl (D d23_32) rfl rfl ?_; refine XS.iloadN X1.here hx rfl (D d23_33) rfl ?_; refine XS.iinc X1.here hx rfl (D d23_34) rfl (l' := #[(sr t), (si (((0 : Int32) <<< ((1 : Int32) &&& 31)) + (1 : Int32))), (si ch0)]) rfl ?_; refine XS.iloadN X1.here hx rfl (D d23_37) rfl ?_; exact kont)
  obtain ⟨T3, X3, e3, st3⟩ := getS2 X1 hx hZ hown (host := "") (Or.inl (wd hw 121 rfl)) Via.refl e1 (W0.2.2.2.2.2.1.ext O0.2) (g := (mkF m 38 #[(sr t), (si (((0 : Int32) <<< ((1 : Int32) &&& 31)) + (1 : Int32))), (si ch0)] [(.int ch0), (.int ((0 : Int32) <<< ((1 : Int32) &&& 31))), (.ref t)])) rfl (D d23_38)
  have go3 : Go p e below E0 T3 m 41 #[(sr t), (si (((0 : Int32) <<< ((1 : Int32) &&& 31)) + (1 : Int32))), (si ch0)] [(.int 0), (.int ch0), (.int ((0 : Int32) <<< ((1 : Int32) &&& 31))), (.ref t)] := fun tgt kont => go2 tgt (st3 tgt kont)
  have go4 : Go p e below E0 T3 m 43 #[(sr t), (si (((0 : Int32) <<< ((1 : Int32) &&& 31)) + (1 : Int32))), (si ch0)] [(.int ((ch0 >>> ((0 : Int32) &&& 31)).toInt8.toInt32)), (.int ((0 : Int32) <<< ((1 : Int32) &&& 31))), (.ref t)] := fun tgt kont => go3 tgt (by
    refine XS.ishr X3.here hx rfl (D d23_41) rfl ?_; refine XS.i2b X3.here hx rfl (D d23_42) rfl ?_; exact kont)
  have p5 : Arv Z h0 t kb .byte (2 : Int32) [(.int (0 : Int32))] (.int (0 : Int32)) := A0.pad (pad_rep [] (.int (0 : Int32)) 1)
  obtain ⟨c6, Ar6, q6, S6, M6, Hh6, G6⟩ := id p5
  obtain ⟨T6, h6, X6, e6, W6, st6⟩ := stB X3 hx hZ e3 Ar6 (j := ((0 : Int32) <<< ((1 : Int32) &&& 31))) (inb_of S6 ⟨by decide, by decide⟩) (g := (mkF m 43 #[(sr t), (si (((0 : Int32) <<< ((1 : Int32) &&& 31)) + (1 : Int32))), (si ch0)] [(.int ((ch0 >>> ((0 : Int32) &&& 31)).toInt8.toInt32)), (.int ((0 : Int32) <<< ((1 : Int32) &&& 31))), (.ref t)])) rfl rfl (D d23_43)
  have z7 : n0 ≤ h6.size := Nat.le_trans Z0 (Keep.of_wr W6).1
  have K8 : Keep h0 h6 [t] := (Keep.refl h0 [t]).wr W6 (Or.inl (List.mem_of_getElem? (i := 0) rfl))
  have N6 := Fr.snoc X6 N0 gt
  have f9 : Arv Z h6 t kb .byte (2 : Int32) [(.int (nar .byte ((ch0 >>> ((0 : Int32) &&& 31)).toInt8.toInt32)))] (.int (0 : Int32)) := Arv.set Ar6 q6 S6 M6 Hh6 G6 (fits_nar_byte _) W6 0 (by decide) (Nat.le_of_ble_eq_true rfl)
  have go6 : Go p e below E0 T6 m 44 #[(sr t), (si (((0 : Int32) <<< ((1 : Int32) &&& 31)) + (1 : Int32))), (si ch0)] [] := fun tgt kont => go4 tgt (st6 tgt kont)
  have f10 : Old Z n0 h6 := (O0.wr W6 gt)
  have go11 : Go p e below E0 T6 m 47 #[(sr t), (si (((0 : Int32) <<< ((1 : Int32) &&& 31)) + (1 : Int32))), (si ch0)] [(.int ch0), (.int (((0 : Int32) <<< ((1 : Int32) &&& 31)) + (1 : Int32))), (.ref t)] := fun tgt kont => go6 tgt (by
    refine XS.aloadN X6.here hx rfl (D d23_44) rfl rfl ?_; refine XS.iloadN X6.here hx rfl (D d23_45) rfl ?_; refine XS.iloadN X6.here hx rfl (D d23_46) rfl ?_; exact kont)
  obtain ⟨T12, X12, e12, st12⟩ := getS2 X6 hx hZ hown (host := "") (Or.inl (wd hw 122 rfl)) Via.refl e6 (W0.2.2.2.2.2.2.ext f10.2) (g := (mkF m 47 #[(sr t), (si (((0 : Int32) <<< ((1 : Int32) &&& 31)) + (1 : Int32))), (si ch0)] [(.int ch0), (.int (((0 : Int32) <<< ((1 : Int32) &&& 31)) + (1 : Int32))), (.ref t)])) rfl (D d23_47)
  have go12 : Go p e below E0 T12 m 50 #[(sr t), (si (((0 : Int32) <<< ((1 : Int32) &&& 31)) + (1 : Int32))), (si ch0)] [(.int 8), (.int ch0), (.int (((0 : Int32) <<< ((1 : Int32) &&& 31)) + (1 : Int32))), (.ref t)] := fun tgt kont => go11 tgt (st12 tgt kont)
  have go13 : Go p e below E0 T12 m 52 #[(sr t), (si (((0 : Int32) <<< ((1 : Int32) &&& 31)) + (1 : Int32))), (si ch0)] [(.int ((ch0 >>> ((8 : Int32) &&& 31)).toInt8.toInt32)), (.int (((0 : Int32) <<< ((1 : Int32) &&& 31)) + (1 : Int32))), (.ref t)] := fun tgt kont => go12 tgt (by
    refine XS.ishr X12.here hx rfl (D d23_50) rfl ?_; refine XS.i2b X12.here hx rfl (D d23_51) rfl ?_; exact kont)
  have p14 : Arv Z h6 t kb .byte (2 : Int32) [(.int (nar .byte ((ch0 >>> ((0 : Int32) &&& 31)).toInt8.toInt32))), (.int (0 : Int32))] (.int (0 : Int32)) := f9.pad (pad_rep [(.int (nar .byte ((ch0 >>> ((0 : Int32) &&& 31)).toInt8.toInt32)))] (.int (0 : Int32)) 1)
  obtain ⟨c15, Ar15, q15, S15, M15, Hh15, G15⟩ := id p14
  obtain ⟨T15, h15, X15, e15, W15, st15⟩ := stB X12 hx hZ e12 Ar15 (j := (((0 : Int32) <<< ((1 : Int32) &&& 31)) + (1 : Int32))) (inb_of S15 ⟨by decide, by decide⟩) (g := (mkF m 52 #[(sr t), (si (((0 : Int32) <<< ((1 : Int32) &&& 31)) + (1 : Int32))), (si ch0)] [(.int ((ch0 >>> ((8 : Int32) &&& 31)).toInt8.toInt32)), (.int (((0 : Int32) <<< ((1 : Int32) &&& 31)) + (1 : Int32))), (.ref t)])) rfl rfl (D d23_52)
  have z16 : n0 ≤ h15.size := Nat.le_trans z7 (Keep.of_wr W15).1
  have K17 : Keep h0 h15 [t] := K8.wr W15 (Or.inl (List.mem_of_getElem? (i := 0) rfl))
  have N15 := Fr.snoc X15 N6 gt
  have f18 : Arv Z h15 t kb .byte (2 : Int32) [(.int (nar .byte ((ch0 >>> ((0 : Int32) &&& 31)).toInt8.toInt32))), (.int (nar .byte ((ch0 >>> ((8 : Int32) &&& 31)).toInt8.toInt32)))] (.int (0 : Int32)) := Arv.set Ar15 q15 S15 M15 Hh15 G15 (fits_nar_byte _) W15 1 (by decide) (Nat.le_of_ble_eq_true rfl)
  have go15 : Go p e below E0 T15 m 53 #[(sr t), (si (((0 : Int32) <<< ((1 : Int32) &&& 31)) + (1 : Int32))), (si ch0)] [] := fun tgt kont => go13 tgt (st15 tgt kont)
  obtain ⟨fs, hr, hrun, hended, hW, hsame⟩ := X15.leave (v := none) (fun _ => rfl)
  refine ⟨_, _, go15 _ ?_, hrun, hended, _, _, rfl, ?_, ⟨_, rfl⟩, hW, hsame.mono (by decide) (by decide)⟩
  · show Steps p.tables e below (T15.setTop (mkF m 53 #[(sr t), (si (((0 : Int32) <<< ((1 : Int32) &&& 31)) + (1 : Int32))), (si ch0)] [])) _
    exact X15.returnOut hx Bd.returns (D d23_53) hr
  · show QPU10 Z t kb ch0 G fv h0 n0 _ T15.heap _
    rw [e15]
    exact ⟨rfl, N15, K17, f18⟩
theorem pd_17 : parseMethodDescriptor "(I)[B" = some ⟨[.int], some (.array .byte)⟩ := by decide +kernel
theorem pd_18 : parseMethodDescriptor "([BII)V" = some ⟨[(.array .byte), .int, .int], none⟩ := by decide +kernel
theorem d24_0 : decode jdk_52_method_14_code 0 = .ok (.iload_n 2, 1) := by decide +kernel
theorem d24_1 : decode jdk_52_method_14_code 1 = .ok (.invokestatic 107, 3) := by decide +kernel
theorem d24_4 : decode jdk_52_method_14_code 4 = .ok (.astore_n 3, 1) := by decide +kernel
theorem d24_5 : decode jdk_52_method_14_code 5 = .ok (.iconst 0, 1) := by decide +kernel
theorem d24_6 : decode jdk_52_method_14_code 6 = .ok (.istore 4, 2) := by decide +kernel
theorem d24_8 : decode jdk_52_method_14_code 8 = .ok (.iload 4, 2) := by decide +kernel
theorem d24_10 : decode jdk_52_method_14_code 10 = .ok (.iload_n 2, 1) := by decide +kernel
theorem d24_11 : decode jdk_52_method_14_code 11 = .ok (.if_icmp .ge 21, 3) := by decide +kernel
theorem d24_14 : decode jdk_52_method_14_code 14 = .ok (.aload_n 3, 1) := by decide +kernel
theorem d24_15 : decode jdk_52_method_14_code 15 = .ok (.iload 4, 2) := by decide +kernel
theorem d24_17 : decode jdk_52_method_14_code 17 = .ok (.aload_n 0, 1) := by decide +kernel
theorem d24_18 : decode jdk_52_method_14_code 18 = .ok (.iload_n 1, 1) := by decide +kernel
theorem d24_19 : decode jdk_52_method_14_code 19 = .ok (.caload, 1) := by decide +kernel
theorem d24_20 : decode jdk_52_method_14_code 20 = .ok (.invokestatic 111, 3) := by decide +kernel
theorem d24_23 : decode jdk_52_method_14_code 23 = .ok (.iinc 1 1, 3) := by decide +kernel
theorem d24_26 : decode jdk_52_method_14_code 26 = .ok (.iinc 4 1, 3) := by decide +kernel
theorem d24_29 : decode jdk_52_method_14_code 29 = .ok (.goto (-21), 3) := by decide +kernel
theorem d24_32 : decode jdk_52_method_14_code 32 = .ok (.aload_n 3, 1) := by decide +kernel
theorem d24_33 : decode jdk_52_method_14_code 33 = .ok (.areturn, 1) := by decide +kernel
theorem ef_TB1 (m : MethodId) (x0 : Addr) (x1 : Int32) (x2 : Int32) : entryFrame m #[(.ref x0), (.int x1), (.int x2)] 5 = mkF m 0 #[.val (.ref x0), .val (.int x1), .val (.int x2), .unset, .unset] [] := by first | (simp [entryFrame, mkF, argsToLocals, Value.category, maxLocals]; done) | rfl
def QTB1 (Z : State) (ca : Addr) (kc : ClassId) (ch0 : Int32) (G : Int32) (fv : Value) (h0 : Heap) (n0 : Nat) (v : Option Value) (h : Heap) (L : List Loc) : Prop := ∃ kb : ClassId, v = some (.ref h0.size) ∧ Fr n0 L ∧ Keep h0 h [] ∧ Arv Z h h0.size kb .byte (2 : Int32) [(.int (own_b0 ch0)), (.int (own_b1 ch0))] (.int (0 : Int32))
abbrev RmTB1 : Room := ({ frames := 2, cells := 1, slots := 2, locals := 24 } : Room)
set_option maxRecDepth 65536 in
set_option maxHeartbeats 40000000 in
theorem rmTB1 (l : Launch) (Z : State) (a0 : Array Value) (hw : ∀ d ∈ tables_1, d.before a0 Z = true) (ws : List Jvm.Cond) (ca : Addr) (kc : ClassId) (ch0 : Int32) (G : Int32) (fv : Value) (h0 : Heap) (n0 : Nat) (Z0 : n0 ≤ h0.size) (Ac : Arv Z h0 ca kc .char (1 : Int32) [(.int ch0)] (.int (0 : Int32))) (W0 : own_W Z G fv) (O0 : Old Z n0 h0) :
    MetFree l (⟨"java/lang/StringUTF16", "toBytes", "([CII)[B"⟩ : MethodName) (head1 (Jvm.Cond.code (⟨"java/lang/StringUTF16", "toBytes", "([CII)[B"⟩ : MethodName) jdk_52_method_14_code 5 (some (.array .byte)) :: ws) RmTB1) (fun as_ U => as_ = #[(.ref ca), (.int (0 : Int32)), (.int (1 : Int32))] ∧ Z.Warmed39 U.vm ∧ U.heap = h0) (fun _ _ _ _ _ => True) (fun _ U o U' => ∃ v L, o = .returned v ∧ QTB1 Z ca kc ch0 G fv h0 n0 v U'.heap L ∧ FrameEnd U o U' L RmTB1.cells RmTB1.slots) := by
  refine MetFree.of_bodySF (plainFor_of_name pn_5) hisR ?_
  intro p e s m args below meth c s₁ Bd hml0 hP hK
  obtain ⟨rfl, hZ, hh⟩ := hP
  have hx := Bd.exec
  have hby := Bd.bytes
  have D : ∀ {pc : Nat} {r : Except DecodeError (Instr × Nat)}, decode jdk_52_method_14_code pc = r → decode c.code pc = r := fun q => hb hby q
  have hml : c.maxLocals = 5 := hml0
  have hown : s.vm.findClass "java/lang/StringUTF16" = some m.cls := findClass_of_methodNamed Bd.named
  have hnm := (name_of_methodNamed Bd.named Bd.method).1
  have X0 : Stand p l e RmTB1 s m #[(.ref ca), (.int (0 : Int32)), (.int (1 : Int32))] below meth c s₁ [] 0 0 := Stand.of_body Bd
  have e0 : s₁.heap = h0 := by rw [← hh, Bd.state]; rfl
  have N0 := Fr.nil n0
  obtain ⟨E0, hE0⟩ : ∃ z, z = s₁.setTop (entryFrame m #[(.ref ca), (.int (0 : Int32)), (.int (1 : Int32))] 5) := ⟨_, rfl⟩
  rw [← hE0]
  have go0 : ∀ tgt, Steps p.tables e below (s₁.setTop (mkF m 0 #[(sr ca), (si 0), (si 1), .unset, .unset] [])) tgt → Steps p.tables e below E0 tgt := fun tgt kont => by rw [hE0]; exact castTop (ef_TB1 m ca (0 : Int32) (1 : Int32)) kont
  have go1 : Go p e below E0 s₁ m 1 #[(sr ca), (si 0), (si 1), .unset, .unset] [(.int 1)] := fun tgt kont => go0 tgt (by
    refine XS.iloadN X0.here hx rfl (D d24_0) rfl ?_; exact kont)
  obtain ⟨_, _, ⟨T2, L2, k2, n2⟩, -, X2, ⟨Lc2, hQ2, l2, y2, z2⟩, st2⟩ := Jvm.LawKit.callS X0 hx (y := (⟨"java/lang/StringUTF16", "newBytesFor", "(I)[B"⟩ : MethodName)) hown (mvT hZ (wd hw 110 rfl)) (mvT hZ (wd hw 111 rfl)) (mvT hZ (wd hw 45 rfl)) (mvT hZ (wd hw 112 rfl)) (by decide) (backOf (W := 0) (rmNF1 l Z a0 hw []  h0 n0 Z0 ) hZ (wd hw 112 rfl) (wd hw 45 rfl) (by decide) (by decide)) (g := (mkF m 1 #[(sr ca), (si 0), (si 1), .unset, .unset] [(.int 1)])) rfl (by rw [hml]; rfl) (argsL := [(.int (1 : Int32))]) (rest := []) (lenOf pd_17 rfl) rfl (by show 2 * 0 + _ ≤ _; exact Nat.le_of_eq rfl) (D d24_1) (fun _ _ => ⟨rfl, e0, (by decide : 0 + 1 ≤ _), (by decide : 0 + 2 ≤ _)⟩)
  dsimp only [Pt.U, Pt.locs, Pt.cells, Pt.slots] at X2 l2 y2 z2 st2 hQ2
  subst l2 y2 z2
  obtain ⟨kb, rfl, N2q, K1, A1⟩ := hQ2
  have N2 := Fr.app N0 N2q
  obtain ⟨t, g2⟩ : ∃ z, z = h0.size := ⟨_, rfl⟩
  rw [← g2] at st2 A1
  have ne_ca_t : ca ≠ t := Nat.ne_of_lt (Nat.lt_of_lt_of_le Ac.lt (Nat.le_of_eq g2.symm))
  have ge_t : n0 ≤ t := Nat.le_trans Z0 (Nat.le_of_eq g2.symm)
  have hz_t : h0.size ≤ t := Nat.le_trans (Keep.refl h0 []).1 (Nat.le_of_eq g2.symm)
  have z3 : n0 ≤ T2.heap.size := Nat.le_trans Z0 K1.1
  have K4 : Keep h0 T2.heap [] := (Keep.refl h0 []).trans K1 all0
  have go2 : Go p e below E0 T2 m 4 #[(sr ca), (si 0), (si 1), .unset, .unset] [(.ref t)] := fun tgt kont => go1 tgt (st2 tgt kont)
  have go5 : Go p e below E0 T2 m 19 #[(sr ca), (si 0), (si 1), (sr t), (si 0)] [(.int 0), (.ref ca), (.int 0), (.ref t)] := fun tgt kont => go2 tgt (by
    refine XS.astoreN X2.here hx rfl (D d24_4) rfl rfl (l' := #[(sr ca), (si 0), (si 1), (sr t), .unset]) rfl ?_; refine XS.iconst X2.here hx rfl (D d24_5) ?_; refine XS.istore X2.here hx rfl (D d24_6) rfl (l' := #[(sr ca), (si 0), (si 1), (sr t), (si 0)]) rfl ?_; refine XS.iload X2.here hx rfl (D d24_8) rfl ?_; refine XS.iloadN X2.here hx rfl (D d24_10) rfl ?_; refine XS.icmpNo X2.here hx rfl (D d24_11) rfl (tlt (by decide)).2.1 ?_; refine XS.aloadN X2.here hx rfl (D d24_14) rfl rfl ?_; refine XS.iload X2.here hx rfl (D d24_15) rfl ?_; refine XS.aloadN X2.here hx rfl (D d24_17) rfl rfl ?_; refine XS.iloadN X2.here hx rfl (D d24_18) rfl ?_; exact kont)
  have f6 : Arv Z T2.heap ca kc .char (1 : Int32) [(.int ch0)] (.int (0 : Int32)) := (Ac.keep K1 nin0)
  obtain ⟨c7, Ar7, q7, S7, M7, Hh7, G7⟩ := id f6
  have hin7 : ¬ ((0 : Int32) < 0 ∨ c7.slots.size ≤ ((0 : Int32)).toNatClampNeg) := inb_of S7 ⟨by decide, by decide⟩
  have hat7 : c7.slots[((0 : Int32)).toNatClampNeg]? = some (.int ch0) := Hh7.at hin7 rfl
  have f8 : Old Z n0 T2.heap := (O0.keep K1 all0)
  have go9 : Go p e below E0 T2 m 20 #[(sr ca), (si 0), (si 1), (sr t), (si 0)] [(.int ch0), (.int 0), (.ref t)] := fun tgt kont => go5 tgt (by
    refine X2.caload hx (j := (0 : Int32)) (v := (.int ch0)) Ar7.1 (State.isArrayOf_alike hZ.alike Ar7.2.1) Ar7.2.2 hin7 hat7 (g := (mkF m 19 #[(sr ca), (si 0), (si 1), (sr t), (si 0)] [(.int 0), (.ref ca), (.int 0), (.ref t)])) rfl rfl (D d24_19) _ ?_; exact kont)
  obtain ⟨_, _, ⟨T10, L10, k10, n10⟩, -, X10, ⟨Lc10, hQ10, l10, y10, z10⟩, st10⟩ := Jvm.LawKit.callS X2 hx (y := (⟨"java/lang/StringUTF16", "putChar", "([BII)V"⟩ : MethodName)) hown (mvT hZ (wd hw 117 rfl)) (mvT hZ (wd hw 118 rfl)) (mvT hZ (wd hw 45 rfl)) (mvT hZ (wd hw 119 rfl)) (by decide) (backOf (W := 0) (rmPU10 l Z a0 hw [] t kb ch0 G fv T2.heap n0 z3 A1 ge_t W0 f8) hZ (wd hw 119 rfl) (wd hw 45 rfl) (by decide) (by decide)) (g := (mkF m 20 #[(sr ca), (si 0), (si 1), (sr t), (si 0)] [(.int ch0), (.int 0), (.ref t)])) rfl (by rw [hml]; rfl) (argsL := [(.ref t), (.int (0 : Int32)), (.int ch0)]) (rest := []) (lenOf pd_18 rfl) rfl (by show 2 * 0 + _ ≤ _; exact Nat.le_of_eq rfl) (D d24_20) (fun _ _ => ⟨rfl, rfl, (by decide : 1 + 0 ≤ _), (by decide : 2 + 0 ≤ _)⟩)
  dsimp only [Pt.U, Pt.locs, Pt.cells, Pt.slots] at X10 l10 y10 z10 st10 hQ10
  subst l10 y10 z10
  obtain ⟨rfl, N10q, Kp0, Ap0⟩ := hQ10
  have N10 := Fr.app N2 N10q
  have z11 : n0 ≤ T10.heap.size := Nat.le_trans z3 Kp0.1
  have K12 : Keep h0 T10.heap [] := K4.trans Kp0 (allS (Or.inr hz_t) all0)
  have go10 : Go p e below E0 T10 m 23 #[(sr ca), (si 0), (si 1), (sr t), (si 0)] [] := fun tgt kont => go9 tgt (st10 tgt kont)
  have go13 : Go p e below E0 T10 m 33 #[(sr ca), (si 1), (si 1), (sr t), (si 1)] [(.ref t)] := fun tgt kont => go10 tgt (by
    refine XS.iinc X10.here hx rfl (D d24_23) rfl (l' := #[(sr ca), (si 1), (si 1), (sr t), (si 0)]) rfl ?_; refine XS.iinc X10.here hx rfl (D d24_26) rfl (l' := #[(sr ca), (si 1), (si 1), (sr t), (si 1)]) rfl ?_; refine XS.goto X10.here hx rfl (pc0 := 29) (pc' := 8) rfl (D d24_29) (by decide) (by decide) ?_; refine XS.iload X10.here hx rfl (D d24_8) rfl ?_; refine XS.iloadN X10.here hx rfl (D d24_10) rfl ?_; refine XS.icmpYes X10.here hx rfl (pc0 := 11) (pc' := 32) rfl (D d24_11) rfl (flt (by decide)).2.1 (by decide) (by decide) ?_; refine XS.aloadN X10.here hx rfl (D d24_32) rfl rfl ?_; exact kont)
  subst g2
  obtain ⟨fs, hr, hrun, hended, hW, hsame⟩ := X10.leave (v := some (.ref h0.size)) (fun h => by rw [Bd.returns] at h; cases h)
  refine ⟨_, _, go13 _ ?_, hrun, hended, _, _, rfl, ?_, ⟨_, rfl⟩, hW, hsame.mono (by decide) (by decide)⟩
  · show Steps p.tables e below (T10.setTop (mkF m 33 #[(sr ca), (si 1), (si 1), (sr h0.size), (si 1)] [(.ref h0.size)])) _
    exact retOut X10 hx Bd.returns rfl (Or.inr (Or.inr (Or.inr (Or.inr ⟨rfl, rfl, rfl⟩)))) (D d24_33) hr
  · show QTB1 Z ca kc ch0 G fv h0 n0 _ T10.heap _
    exact ⟨_, rfl, N10, K12, Ap0⟩
theorem d25_0 : decode jdk_52_method_21_code 0 = .ok (.iconst 0, 1) := by decide +kernel
theorem d25_1 : decode jdk_52_method_21_code 1 = .ok (.istore 5, 2) := by decide +kernel
theorem d25_3 : decode jdk_52_method_21_code 3 = .ok (.iload 5, 2) := by decide +kernel
theorem d25_5 : decode jdk_52_method_21_code 5 = .ok (.iload 4, 2) := by decide +kernel
theorem d25_7 : decode jdk_52_method_21_code 7 = .ok (.if_icmp .ge 37, 3) := by decide +kernel
theorem d25_10 : decode jdk_52_method_21_code 10 = .ok (.aload_n 0, 1) := by decide +kernel
theorem d25_11 : decode jdk_52_method_21_code 11 = .ok (.iload_n 1, 1) := by decide +kernel
theorem d25_12 : decode jdk_52_method_21_code 12 = .ok (.caload, 1) := by decide +kernel
theorem d25_13 : decode jdk_52_method_21_code 13 = .ok (.istore 6, 2) := by decide +kernel
theorem d25_15 : decode jdk_52_method_21_code 15 = .ok (.iload 6, 2) := by decide +kernel
theorem d25_17 : decode jdk_52_method_21_code 17 = .ok (.sipush 255, 3) := by decide +kernel
theorem d25_20 : decode jdk_52_method_21_code 20 = .ok (.if_icmp .le 6, 3) := by decide +kernel
theorem d25_23 : decode jdk_52_method_21_code 23 = .ok (.iload 5, 2) := by decide +kernel
theorem d25_25 : decode jdk_52_method_21_code 25 = .ok (.ireturn, 1) := by decide +kernel
theorem d25_26 : decode jdk_52_method_21_code 26 = .ok (.aload_n 2, 1) := by decide +kernel
theorem d25_27 : decode jdk_52_method_21_code 27 = .ok (.iload_n 3, 1) := by decide +kernel
theorem d25_28 : decode jdk_52_method_21_code 28 = .ok (.iload 6, 2) := by decide +kernel
theorem d25_30 : decode jdk_52_method_21_code 30 = .ok (.i2b, 1) := by decide +kernel
theorem d25_31 : decode jdk_52_method_21_code 31 = .ok (.bastore, 1) := by decide +kernel
theorem d25_32 : decode jdk_52_method_21_code 32 = .ok (.iinc 1 1, 3) := by decide +kernel
theorem d25_35 : decode jdk_52_method_21_code 35 = .ok (.iinc 3 1, 3) := by decide +kernel
theorem d25_38 : decode jdk_52_method_21_code 38 = .ok (.iinc 5 1, 3) := by decide +kernel
theorem d25_41 : decode jdk_52_method_21_code 41 = .ok (.goto (-38), 3) := by decide +kernel
theorem d25_44 : decode jdk_52_method_21_code 44 = .ok (.iload 4, 2) := by decide +kernel
theorem d25_46 : decode jdk_52_method_21_code 46 = .ok (.ireturn, 1) := by decide +kernel
theorem ef_CM1 (m : MethodId) (x0 : Addr) (x1 : Int32) (x2 : Addr) (x3 : Int32) (x4 : Int32) : entryFrame m #[(.ref x0), (.int x1), (.ref x2), (.int x3), (.int x4)] 7 = mkF m 0 #[.val (.ref x0), .val (.int x1), .val (.ref x2), .val (.int x3), .val (.int x4), .unset, .unset] [] := by first | (simp [entryFrame, mkF, argsToLocals, Value.category, maxLocals]; done) | rfl
def QCM1 (Z : State) (ca : Addr) (kc : ClassId) (ba : Addr) (kb : ClassId) (ch0 : Int32) (h0 : Heap) (n0 : Nat) (v : Option Value) (h : Heap) (L : List Loc) : Prop := ∃ r : Int32, v = some (.int r) ∧ Fr n0 L ∧ Keep h0 h [ba] ∧ ((r = (1 : Int32) ∧ (¬ (255 : Int32) < ch0) ∧ Arv Z h ba kb .byte (1 : Int32) [(.int (own_lo ch0))] (.int (0 : Int32))) ∨ (r = (0 : Int32) ∧ (255 : Int32) < ch0))
abbrev RmCM1 : Room := ({ frames := 0, cells := 0, slots := 0, locals := 0 } : Room)
set_option maxRecDepth 65536 in
set_option maxHeartbeats 40000000 in
theorem rmCM1 (l : Launch) (Z : State) (a0 : Array Value) (hw : ∀ d ∈ tables_1, d.before a0 Z = true) (ws : List Jvm.Cond) (ca : Addr) (kc : ClassId) (ba : Addr) (kb : ClassId) (ch0 : Int32) (h0 : Heap) (n0 : Nat) (Z0 : n0 ≤ h0.size) (Ac : Arv Z h0 ca kc .char (1 : Int32) [(.int ch0)] (.int (0 : Int32))) (A0 : Arv Z h0 ba kb .byte (1 : Int32) [] (.int (0 : Int32))) (gb : n0 ≤ ba) (nab : ca ≠ ba) :
    MetFree l (⟨"java/lang/StringUTF16", "compress", "([CI[BII)I"⟩ : MethodName) (head1 (Jvm.Cond.code (⟨"java/lang/StringUTF16", "compress", "([CI[BII)I"⟩ : MethodName) jdk_52_method_21_code 7 (some .int) :: ws) RmCM1) (fun as_ U => as_ = #[(.ref ca), (.int (0 : Int32)), (.ref ba), (.int (0 : Int32)), (.int (1 : Int32))] ∧ Z.Warmed39 U.vm ∧ U.heap = h0) (fun _ _ _ _ _ => True) (fun _ U o U' => ∃ v L, o = .returned v ∧ QCM1 Z ca kc ba kb ch0 h0 n0 v U'.heap L ∧ FrameEnd U o U' L RmCM1.cells RmCM1.slots) := by
  refine MetFree.of_bodySF (plainFor_of_name pn_5) hisR ?_
  intro p e s m args below meth c s₁ Bd hml0 hP hK
  obtain ⟨rfl, hZ, hh⟩ := hP
  have hx := Bd.exec
  have hby := Bd.bytes
  have D : ∀ {pc : Nat} {r : Except DecodeError (Instr × Nat)}, decode jdk_52_method_21_code pc = r → decode c.code pc = r := fun q => hb hby q
  have hml : c.maxLocals = 7 := hml0
  have hown : s.vm.findClass "java/lang/StringUTF16" = some m.cls := findClass_of_methodNamed Bd.named
  have hnm := (name_of_methodNamed Bd.named Bd.method).1
  have X0 : Stand p l e RmCM1 s m #[(.ref ca), (.int (0 : Int32)), (.ref ba), (.int (0 : Int32)), (.int (1 : Int32))] below meth c s₁ [] 0 0 := Stand.of_body Bd
  have e0 : s₁.heap = h0 := by rw [← hh, Bd.state]; rfl
  have N0 := Fr.nil n0
  obtain ⟨E0, hE0⟩ : ∃ z, z = s₁.setTop (entryFrame m #[(.ref ca), (.int (0 : Int32)), (.ref ba), (.int (0 : Int32)), (.int (1 : Int32))] 7) := ⟨_, rfl⟩
  rw [← hE0]
  have go0 : ∀ tgt, Steps p.tables e below (s₁.setTop (mkF m 0 #[(sr ca), (si 0), (sr ba), (si 0), (si 1), .unset, .unset] [])) tgt → Steps p.tables e below E0 tgt := fun tgt kont => by rw [hE0]; exact castTop (ef_CM1 m ca (0 : Int32) ba (0 : Int32) (1 : Int32)) kont
  have go1 : Go p e below E0 s₁ m 12 #[(sr ca), (si 0), (sr ba), (si 0), (si 1), (si 0), .unset] [(.int 0), (.ref ca)] := fun tgt kont => go0 tgt (by
    refine XS.iconst X0.here hx rfl (D d25_0) ?_; refine XS.istore X0.here hx rfl (D d25_1) rfl (l' := #[(sr ca), (si 0), (sr ba), (si 0), (si 1), (si 0), .unset]) rfl ?_; refine XS.iload X0.here hx rfl (D d25_3) rfl ?_; refine XS.iload X0.here hx rfl (D d25_5) rfl ?_; refine XS.icmpNo X0.here hx rfl (D d25_7) rfl (tlt (by decide)).2.1 ?_; refine XS.aloadN X0.here hx rfl (D d25_10) rfl rfl ?_; refine XS.iloadN X0.here hx rfl (D d25_11) rfl ?_; exact kont)
  obtain ⟨c2, Ar2, q2, S2, M2, Hh2, G2⟩ := id Ac
  have hin2 : ¬ ((0 : Int32) < 0 ∨ c2.slots.size ≤ ((0 : Int32)).toNatClampNeg) := inb_of S2 ⟨by decide, by decide⟩
  have hat2 : c2.slots[((0 : Int32)).toNatClampNeg]? = some (.int ch0) := Hh2.at hin2 rfl
  have go3 : Go p e below E0 s₁ m 20 #[(sr ca), (si 0), (sr ba), (si 0), (si 1), (si 0), (si ch0)] [(.int 255), (.int ch0)] := fun tgt kont => go1 tgt (by
    refine X0.caload hx (j := (0 : Int32)) (v := (.int ch0)) (by rw [e0]; exact Ar2.1) (State.isArrayOf_alike hZ.alike Ar2.2.1) Ar2.2.2 hin2 hat2 (g := (mkF m 12 #[(sr ca), (si 0), (sr ba), (si 0), (si 1), (si 0), .unset] [(.int 0), (.ref ca)])) rfl rfl (D d25_12) _ ?_; refine XS.istore X0.here hx rfl (D d25_13) rfl (l' := #[(sr ca), (si 0), (sr ba), (si 0), (si 1), (si 0), (si ch0)]) rfl ?_; refine XS.iload X0.here hx rfl (D d25_15) rfl ?_; refine XS.sipush X0.here hx rfl (D d25_17) ?_; exact kont)
  by_cases u0 : (255 : Int32) < ch0
  · have go4 : Go p e below E0 s₁ m 25 #[(sr ca), (si 0), (sr ba), (si 0), (si 1), (si 0), (si ch0)] [(.int 0)] := fun tgt kont => go3 tgt (by
      refine XS.icmpNo X0.here hx rfl (D d25_20) rfl (tlt u0).2.2.2 ?_; refine XS.iload X0.here hx rfl (D d25_23) rfl ?_; exact kont)
    obtain ⟨fs, hr, hrun, hended, hW, hsame⟩ := X0.leave (v := some (.int (0 : Int32))) (fun h => by rw [Bd.returns] at h; cases h)
    refine ⟨_, _, go4 _ ?_, hrun, hended, _, _, rfl, ?_, ⟨_, rfl⟩, hW, hsame.mono (by decide) (by decide)⟩
    · show Steps p.tables e below (s₁.setTop (mkF m 25 #[(sr ca), (si 0), (sr ba), (si 0), (si 1), (si 0), (si ch0)] [(.int 0)])) _
      exact retOut X0 hx Bd.returns rfl (Or.inl ⟨rfl, Or.inl rfl, _, rfl⟩) (D d25_25) hr
    · show QCM1 Z ca kc ba kb ch0 h0 n0 _ s₁.heap _
      rw [e0]
      exact ⟨_, rfl, N0, (Keep.refl h0 [ba]), Or.inr (⟨rfl, u0⟩)⟩
  · have go5 : Go p e below E0 s₁ m 31 #[(sr ca), (si 0), (sr ba), (si 0), (si 1), (si 0), (si ch0)] [(.int (ch0.toInt8.toInt32)), (.int 0), (.ref ba)] := fun tgt kont => go3 tgt (by
      refine XS.icmpYes X0.here hx rfl (pc0 := 20) (pc' := 26) rfl (D d25_20) rfl (flt u0).2.2.2 (by decide) (by decide) ?_; refine XS.aloadN X0.here hx rfl (D d25_26) rfl rfl ?_; refine XS.iloadN X0.here hx rfl (D d25_27) rfl ?_; refine XS.iload X0.here hx rfl (D d25_28) rfl ?_; refine XS.i2b X0.here hx rfl (D d25_30) rfl ?_; exact kont)
    have p6 : Arv Z h0 ba kb .byte (1 : Int32) [(.int (0 : Int32))] (.int (0 : Int32)) := A0.pad (pad_rep [] (.int (0 : Int32)) 1)
    obtain ⟨c7, Ar7, q7, S7, M7, Hh7, G7⟩ := id p6
    obtain ⟨T7, h7, X7, e7, W7, st7⟩ := stB X0 hx hZ e0 Ar7 (j := (0 : Int32)) (inb_of S7 ⟨by decide, by decide⟩) (g := (mkF m 31 #[(sr ca), (si 0), (sr ba), (si 0), (si 1), (si 0), (si ch0)] [(.int (ch0.toInt8.toInt32)), (.int 0), (.ref ba)])) rfl rfl (D d25_31)
    have z8 : n0 ≤ h7.size := Nat.le_trans Z0 (Keep.of_wr W7).1
    have K9 : Keep h0 h7 [ba] := (Keep.refl h0 [ba]).wr W7 (Or.inl (List.mem_of_getElem? (i := 0) rfl))
    have N7 := Fr.snoc X7 N0 gb
    have f10 : Arv Z h7 ba kb .byte (1 : Int32) [(.int (nar .byte (ch0.toInt8.toInt32)))] (.int (0 : Int32)) := Arv.set Ar7 q7 S7 M7 Hh7 G7 (fits_nar_byte _) W7 0 rfl (Nat.le_of_ble_eq_true rfl)
    have go7 : Go p e below E0 T7 m 32 #[(sr ca), (si 0), (sr ba), (si 0), (si 1), (si 0), (si ch0)] [] := fun tgt kont => go5 tgt (st7 tgt kont)
    have go11 : Go p e below E0 T7 m 46 #[(sr ca), (si 1), (sr ba), (si 1), (si 1), (si 1), (si ch0)] [(.int 1)] := fun tgt kont => go7 tgt (by
      refine XS.iinc X7.here hx rfl (D d25_32) rfl (l' := #[(sr ca), (si 1), (sr ba), (si 0), (si 1), (si 0), (si ch0)]) rfl ?_; refine XS.iinc X7.here hx rfl (D d25_35) rfl (l' := #[(sr ca), (si 1), (sr ba), (si 1), (si 1), (si 0), (si ch0)]) rfl ?_; refine XS.iinc X7.here hx rfl (D d25_38) rfl (l' := #[(sr ca), (si 1), (sr ba), (si 1), (si 1), (si 1), (si ch0)]) rfl ?_; refine XS.goto X7.here hx rfl (pc0 := 41) (pc' := 3) rfl (D d25_41) (by decide) (by decide) ?_; refine XS.iload X7.here hx rfl (D d25_3) rfl ?_; refine XS.iload X7.here hx rfl (D d25_5) rfl ?_; refine XS.icmpYes X7.here hx rfl (pc0 := 7) (pc' := 44) rfl (D d25_7) rfl (flt (by decide)).2.1 (by decide) (by decide) ?_; refine XS.iload X7.here hx rfl (D d25_44) rfl ?_; exact kont)
    obtain ⟨fs, hr, hrun, hended, hW, hsame⟩ := X7.leave (v := some (.int (1 : Int32))) (fun h => by rw [Bd.returns] at h; cases h)
    refine ⟨_, _, go11 _ ?_, hrun, hended, _, _, rfl, ?_, ⟨_, rfl⟩, hW, hsame.mono (by decide) (by decide)⟩
    · show Steps p.tables e below (T7.setTop (mkF m 46 #[(sr ca), (si 1), (sr ba), (si 1), (si 1), (si 1), (si ch0)] [(.int 1)])) _
      exact retOut X7 hx Bd.returns rfl (Or.inl ⟨rfl, Or.inl rfl, _, rfl⟩) (D d25_46) hr
    · show QCM1 Z ca kc ba kb ch0 h0 n0 _ T7.heap _
      rw [e7]
      exact ⟨_, rfl, N7, K9, Or.inl ⟨rfl, u0, f10⟩⟩
theorem pd_19 : parseMethodDescriptor "([CI[BII)I" = some ⟨[(.array .char), .int, (.array .byte), .int, .int], some .int⟩ := by decide +kernel
theorem pd_20 : parseMethodDescriptor "([CII)[B" = some ⟨[(.array .char), .int, .int], some (.array .byte)⟩ := by decide +kernel
theorem d26_0 : decode jdk_52_method_16_code 0 = .ok (.iload_n 2, 1) := by decide +kernel
theorem d26_1 : decode jdk_52_method_16_code 1 = .ok (.newarray .byte, 2) := by decide +kernel
theorem d26_3 : decode jdk_52_method_16_code 3 = .ok (.astore_n 3, 1) := by decide +kernel
theorem d26_4 : decode jdk_52_method_16_code 4 = .ok (.aload_n 0, 1) := by decide +kernel
theorem d26_5 : decode jdk_52_method_16_code 5 = .ok (.iload_n 1, 1) := by decide +kernel
theorem d26_6 : decode jdk_52_method_16_code 6 = .ok (.aload_n 3, 1) := by decide +kernel
theorem d26_7 : decode jdk_52_method_16_code 7 = .ok (.iconst 0, 1) := by decide +kernel
theorem d26_8 : decode jdk_52_method_16_code 8 = .ok (.iload_n 2, 1) := by decide +kernel
theorem d26_9 : decode jdk_52_method_16_code 9 = .ok (.invokestatic 115, 3) := by decide +kernel
theorem d26_12 : decode jdk_52_method_16_code 12 = .ok (.istore 4, 2) := by decide +kernel
theorem d26_14 : decode jdk_52_method_16_code 14 = .ok (.iload 4, 2) := by decide +kernel
theorem d26_16 : decode jdk_52_method_16_code 16 = .ok (.iload_n 2, 1) := by decide +kernel
theorem d26_17 : decode jdk_52_method_16_code 17 = .ok (.if_icmp .eq 40, 3) := by decide +kernel
theorem d26_20 : decode jdk_52_method_16_code 20 = .ok (.aload_n 0, 1) := by decide +kernel
theorem d26_21 : decode jdk_52_method_16_code 21 = .ok (.iload_n 1, 1) := by decide +kernel
theorem d26_22 : decode jdk_52_method_16_code 22 = .ok (.iload_n 2, 1) := by decide +kernel
theorem d26_23 : decode jdk_52_method_16_code 23 = .ok (.invokestatic 119, 3) := by decide +kernel
theorem d26_26 : decode jdk_52_method_16_code 26 = .ok (.astore 5, 2) := by decide +kernel
theorem d26_28 : decode jdk_52_method_16_code 28 = .ok (.aload 5, 2) := by decide +kernel
theorem d26_30 : decode jdk_52_method_16_code 30 = .ok (.iload 4, 2) := by decide +kernel
theorem d26_32 : decode jdk_52_method_16_code 32 = .ok (.invokestatic 71, 3) := by decide +kernel
theorem d26_35 : decode jdk_52_method_16_code 35 = .ok (.sipush 255, 3) := by decide +kernel
theorem d26_38 : decode jdk_52_method_16_code 38 = .ok (.if_icmp .gt 16, 3) := by decide +kernel
theorem d26_54 : decode jdk_52_method_16_code 54 = .ok (.aload 5, 2) := by decide +kernel
theorem d26_56 : decode jdk_52_method_16_code 56 = .ok (.areturn, 1) := by decide +kernel
theorem d26_57 : decode jdk_52_method_16_code 57 = .ok (.aload_n 3, 1) := by decide +kernel
theorem d26_58 : decode jdk_52_method_16_code 58 = .ok (.areturn, 1) := by decide +kernel
theorem ef_CP1 (m : MethodId) (x0 : Addr) (x1 : Int32) (x2 : Int32) : entryFrame m #[(.ref x0), (.int x1), (.int x2)] 6 = mkF m 0 #[.val (.ref x0), .val (.int x1), .val (.int x2), .unset, .unset, .unset] [] := by first | (simp [entryFrame, mkF, argsToLocals, Value.category, maxLocals]; done) | rfl
def QCP1 (Z : State) (ca : Addr) (kc : ClassId) (ch0 : Int32) (G : Int32) (fv : Value) (h0 : Heap) (n0 : Nat) (v : Option Value) (h : Heap) (L : List Loc) : Prop := ∃ (t : Addr) (kb : ClassId), v = some (.ref t) ∧ Fr n0 L ∧ Keep h0 h [] ∧ n0 ≤ t ∧ h0.size ≤ t ∧ (((¬ (255 : Int32) < ch0) ∧ Arv Z h t kb .byte (1 : Int32) [(.int (own_lo ch0))] (.int (0 : Int32))) ∨ Arv Z h t kb .byte (2 : Int32) [(.int (own_b0 ch0)), (.int (own_b1 ch0))] (.int (0 : Int32)))
abbrev RmCP1 : Room := ({ frames := 3, cells := 2, slots := 3, locals := 40 } : Room)
set_option maxRecDepth 65536 in
set_option maxHeartbeats 40000000 in
theorem rmCP1 (l : Launch) (Z : State) (a0 : Array Value) (hw : ∀ d ∈ tables_1, d.before a0 Z = true) (ws : List Jvm.Cond) (ca : Addr) (kc : ClassId) (ch0 : Int32) (G : Int32) (fv : Value) (h0 : Heap) (n0 : Nat) (Z0 : n0 ≤ h0.size) (Ac : Arv Z h0 ca kc .char (1 : Int32) [(.int ch0)] (.int (0 : Int32))) (kch0 : own_ch ch0) (W0 : own_W Z G fv) (O0 : Old Z n0 h0) :
    MetFree l (⟨"java/lang/StringUTF16", "compress", "([CII)[B"⟩ : MethodName) (head1 (Jvm.Cond.code (⟨"java/lang/StringUTF16", "compress", "([CII)[B"⟩ : MethodName) jdk_52_method_16_code 6 (some (.array .byte)) :: ws) RmCP1) (fun as_ U => as_ = #[(.ref ca), (.int (0 : Int32)), (.int (1 : Int32))] ∧ Z.Warmed39 U.vm ∧ U.heap = h0) (fun _ _ _ _ _ => True) (fun _ U o U' => ∃ v L, o = .returned v ∧ QCP1 Z ca kc ch0 G fv h0 n0 v U'.heap L ∧ FrameEnd U o U' L RmCP1.cells RmCP1.slots) := by
  refine MetFree.of_bodySF (plainFor_of_name pn_5) hisR ?_
  intro p e s m args below meth c s₁ Bd hml0 hP hK
  obtain ⟨rfl, hZ, hh⟩ := hP
  have hx := Bd.exec
  have hby := Bd.bytes
  have D : ∀ {pc : Nat} {r : Except DecodeError (Instr × Nat)}, decode jdk_52_method_16_code pc = r → decode c.code pc = r := fun q => hb hby q
  have hml : c.maxLocals = 6 := hml0
  have hown : s.vm.findClass "java/lang/StringUTF16" = some m.cls := findClass_of_methodNamed Bd.named
  have hnm := (name_of_methodNamed Bd.named Bd.method).1
  have X0 : Stand p l e RmCP1 s m #[(.ref ca), (.int (0 : Int32)), (.int (1 : Int32))] below meth c s₁ [] 0 0 := Stand.of_body Bd
  have e0 : s₁.heap = h0 := by rw [← hh, Bd.state]; rfl
  have N0 := Fr.nil n0
  obtain ⟨E0, hE0⟩ : ∃ z, z = s₁.setTop (entryFrame m #[(.ref ca), (.int (0 : Int32)), (.int (1 : Int32))] 6) := ⟨_, rfl⟩
  rw [← hE0]
  have go0 : ∀ tgt, Steps p.tables e below (s₁.setTop (mkF m 0 #[(sr ca), (si 0), (si 1), .unset, .unset, .unset] [])) tgt → Steps p.tables e below E0 tgt := fun tgt kont => by rw [hE0]; exact castTop (ef_CP1 m ca (0 : Int32) (1 : Int32)) kont
  have go1 : Go p e below E0 s₁ m 1 #[(sr ca), (si 0), (si 1), .unset, .unset, .unset] [(.int 1)] := fun tgt kont => go0 tgt (by
    refine XS.iloadN X0.here hx rfl (D d26_0) rfl ?_; exact kont)
  obtain ⟨T2, h2, k2, X2, e2, E2, A2, st2⟩ := newP X0 hx hZ (wd hw 16 rfl) e0 (g := (mkF m 1 #[(sr ca), (si 0), (si 1), .unset, .unset, .unset] [(.int 1)])) rfl (D d26_1) rfl (by decide) (cap := 1) (by decide) (by decide) (by decide) (by decide)
  obtain ⟨ba, g2⟩ : ∃ z, z = h0.size := ⟨_, rfl⟩
  rw [← g2] at A2 st2
  have ne_ca_ba : ca ≠ ba := Nat.ne_of_lt (Nat.lt_of_lt_of_le Ac.lt (Nat.le_of_eq g2.symm))
  have ge_ba : n0 ≤ ba := Nat.le_trans Z0 (Nat.le_of_eq g2.symm)
  have hz_ba : h0.size ≤ ba := Nat.le_trans (Keep.refl h0 []).1 (Nat.le_of_eq g2.symm)
  have z3 : n0 ≤ h2.size := Nat.le_trans Z0 E2.1
  have K4 : Keep h0 h2 [] := (Keep.refl h0 []).ext E2
  have V2 : Arv Z h2 ba k2 .byte (1 : Int32) [] (.int (0 : Int32)) := Arv.new A2 (by decide)
  have go2 : Go p e below E0 T2 m 3 #[(sr ca), (si 0), (si 1), .unset, .unset, .unset] [(.ref ba)] := fun tgt kont => go1 tgt (st2 tgt kont)
  have f5 : Arv Z h2 ca kc .char (1 : Int32) [(.int ch0)] (.int (0 : Int32)) := (Ac.ext E2)
  have go6 : Go p e below E0 T2 m 9 #[(sr ca), (si 0), (si 1), (sr ba), .unset, .unset] [(.int 1), (.int 0), (.ref ba), (.int 0), (.ref ca)] := fun tgt kont => go2 tgt (by
    refine XS.astoreN X2.here hx rfl (D d26_3) rfl rfl (l' := #[(sr ca), (si 0), (si 1), (sr ba), .unset, .unset]) rfl ?_; refine XS.aloadN X2.here hx rfl (D d26_4) rfl rfl ?_; refine XS.iloadN X2.here hx rfl (D d26_5) rfl ?_; refine XS.aloadN X2.here hx rfl (D d26_6) rfl rfl ?_; refine XS.iconst X2.here hx rfl (D d26_7) ?_; refine XS.iloadN X2.here hx rfl (D d26_8) rfl ?_; exact kont)
  obtain ⟨_, _, ⟨T7, L7, k7, n7⟩, -, X7, ⟨Lc7, hQ7, l7, y7, z7⟩, st7⟩ := Jvm.LawKit.callS X2 hx (y := (⟨"java/lang/StringUTF16", "compress", "([CI[BII)I"⟩ : MethodName)) hown (mvT hZ (wd hw 47 rfl)) (mvT hZ (wd hw 48 rfl)) (mvT hZ (wd hw 45 rfl)) (mvT hZ (wd hw 49 rfl)) (by decide) (backOf (W := 0) (rmCM1 l Z a0 hw [] ca kc ba k2 ch0 h2 n0 z3 f5 V2 ge_ba ne_ca_ba) hZ (wd hw 49 rfl) (wd hw 45 rfl) (by decide) (by decide)) (g := (mkF m 9 #[(sr ca), (si 0), (si 1), (sr ba), .unset, .unset] [(.int 1), (.int 0), (.ref ba), (.int 0), (.ref ca)])) rfl (by rw [hml]; rfl) (argsL := [(.ref ca), (.int (0 : Int32)), (.ref ba), (.int (0 : Int32)), (.int (1 : Int32))]) (rest := []) (lenOf pd_19 rfl) rfl (by show 2 * 0 + _ ≤ _; exact Nat.le_of_eq rfl) (D d26_9) (fun _ _ => ⟨rfl, e2, (by decide : 1 + 0 ≤ _), (by decide : 1 + 0 ≤ _)⟩)
  dsimp only [Pt.U, Pt.locs, Pt.cells, Pt.slots] at X7 l7 y7 z7 st7 hQ7
  subst l7 y7 z7
  obtain ⟨r, rfl, N7q, Kc, hr⟩ := hQ7
  have N7 := Fr.app N0 N7q
  have z8 : n0 ≤ T7.heap.size := Nat.le_trans z3 Kc.1
  have K9 : Keep h0 T7.heap [] := K4.trans Kc (allS (Or.inr hz_ba) all0)
  have go7 : Go p e below E0 T7 m 12 #[(sr ca), (si 0), (si 1), (sr ba), .unset, .unset] [(.int r)] := fun tgt kont => go6 tgt (st7 tgt kont)
  have go10 : Go p e below E0 T7 m 17 #[(sr ca), (si 0), (si 1), (sr ba), (si r), .unset] [(.int 1), (.int r)] := fun tgt kont => go7 tgt (by
    refine XS.istore X7.here hx rfl (D d26_12) rfl (l' := #[(sr ca), (si 0), (si 1), (sr ba), (si r), .unset]) rfl ?_; refine XS.iload X7.here hx rfl (D d26_14) rfl ?_; refine XS.iloadN X7.here hx rfl (D d26_16) rfl ?_; exact kont)
  rcases hr with ⟨rfl, hall, Ab⟩ | ⟨rfl, hbig⟩
  · have go11 : Go p e below E0 T7 m 58 #[(sr ca), (si 0), (si 1), (sr ba), (si 1), .unset] [(.ref ba)] := fun tgt kont => go10 tgt (by
      refine XS.icmpYes X7.here hx rfl (pc0 := 17) (pc' := 57) rfl (D d26_17) rfl (teq rfl).1 (by decide) (by decide) ?_; refine XS.aloadN X7.here hx rfl (D d26_57) rfl rfl ?_; exact kont)
    obtain ⟨fs, hr, hrun, hended, hW, hsame⟩ := X7.leave (v := some (.ref ba)) (fun h => by rw [Bd.returns] at h; cases h)
    refine ⟨_, _, go11 _ ?_, hrun, hended, _, _, rfl, ?_, ⟨_, rfl⟩, hW, hsame.mono (by decide) (by decide)⟩
    · show Steps p.tables e below (T7.setTop (mkF m 58 #[(sr ca), (si 0), (si 1), (sr ba), (si 1), .unset] [(.ref ba)])) _
      exact retOut X7 hx Bd.returns rfl (Or.inr (Or.inr (Or.inr (Or.inr ⟨rfl, rfl, rfl⟩)))) (D d26_58) hr
    · show QCP1 Z ca kc ch0 G fv h0 n0 _ T7.heap _
      exact ⟨ba, k2, rfl, N7, K9, ge_ba, hz_ba, Or.inl ⟨hall, Ab⟩⟩
  · have f12 : Arv Z T7.heap ca kc .char (1 : Int32) [(.int ch0)] (.int (0 : Int32)) := (f5.keep Kc (ninS ne_ca_ba nin0))
    have f13 : Old Z n0 T7.heap := ((O0.ext E2).keep Kc (allS ge_ba all0))
    have go14 : Go p e below E0 T7 m 23 #[(sr ca), (si 0), (si 1), (sr ba), (si 0), .unset] [(.int 1), (.int 0), (.ref ca)] := fun tgt kont => go10 tgt (by
      refine XS.icmpNo X7.here hx rfl (D d26_17) rfl (feq (by decide)).1 ?_; refine XS.aloadN X7.here hx rfl (D d26_20) rfl rfl ?_; refine XS.iloadN X7.here hx rfl (D d26_21) rfl ?_; refine XS.iloadN X7.here hx rfl (D d26_22) rfl ?_; exact kont)
    obtain ⟨_, _, ⟨T15, L15, k15, n15⟩, -, X15, ⟨Lc15, hQ15, l15, y15, z15⟩, st15⟩ := Jvm.LawKit.callS X7 hx (y := (⟨"java/lang/StringUTF16", "toBytes", "([CII)[B"⟩ : MethodName)) hown (mvT hZ (wd hw 107 rfl)) (mvT hZ (wd hw 108 rfl)) (mvT hZ (wd hw 45 rfl)) (mvT hZ (wd hw 109 rfl)) (by decide) (backOf (W := 0) (rmTB1 l Z a0 hw [] ca kc ch0 G fv T7.heap n0 z8 f12 W0 f13) hZ (wd hw 109 rfl) (wd hw 45 rfl) (by decide) (by decide)) (g := (mkF m 23 #[(sr ca), (si 0), (si 1), (sr ba), (si 0), .unset] [(.int 1), (.int 0), (.ref ca)])) rfl (by rw [hml]; rfl) (argsL := [(.ref ca), (.int (0 : Int32)), (.int (1 : Int32))]) (rest := []) (lenOf pd_20 rfl) rfl (by show 2 * 0 + _ ≤ _; exact Nat.le_of_eq rfl) (D d26_23) (fun _ _ => ⟨rfl, rfl, (by decide : 1 + 1 ≤ _), (by decide : 1 + 2 ≤ _)⟩)
    dsimp only [Pt.U, Pt.locs, Pt.cells, Pt.slots] at X15 l15 y15 z15 st15 hQ15
    subst l15 y15 z15
    obtain ⟨kt, rfl, N15q, Kt, At⟩ := hQ15
    have N15 := Fr.app N7 N15q
    obtain ⟨t, g15⟩ : ∃ z, z = T7.heap.size := ⟨_, rfl⟩
    rw [← g15] at st15 At
    have ne_ca_t : ca ≠ t := Nat.ne_of_lt (Nat.lt_of_lt_of_le (Nat.lt_of_lt_of_le Ac.lt (Nat.le_trans E2.1 Kc.1)) (Nat.le_of_eq g15.symm))
    have ne_ba_t : ba ≠ t := Nat.ne_of_lt (Nat.lt_of_lt_of_le (Nat.lt_of_lt_of_le V2.lt Kc.1) (Nat.le_of_eq g15.symm))
    have ge_t : n0 ≤ t := Nat.le_trans z8 (Nat.le_of_eq g15.symm)
    have hz_t : h0.size ≤ t := Nat.le_trans K9.1 (Nat.le_of_eq g15.symm)
    have z16 : n0 ≤ T15.heap.size := Nat.le_trans z8 Kt.1
    have K17 : Keep h0 T15.heap [] := K9.trans Kt all0
    have go15 : Go p e below E0 T15 m 26 #[(sr ca), (si 0), (si 1), (sr ba), (si 0), .unset] [(.ref t)] := fun tgt kont => go14 tgt (st15 tgt kont)
    have f18 : Old Z n0 T15.heap := (f13.keep Kt all0)
    have go19 : Go p e below E0 T15 m 32 #[(sr ca), (si 0), (si 1), (sr ba), (si 0), (sr t)] [(.int 0), (.ref t)] := fun tgt kont => go15 tgt (by
      refine XS.astore X15.here hx rfl (D d26_26) rfl rfl (l' := #[(sr ca), (si 0), (si 1), (sr ba), (si 0), (sr t)]) rfl ?_; refine XS.aload X15.here hx rfl (D d26_28) rfl rfl ?_; refine XS.iload X15.here hx rfl (D d26_30) rfl ?_; exact kont)
    obtain ⟨_, _, ⟨T20, L20, k20, n20⟩, -, X20, ⟨Lc20, hQ20, l20, y20, z20⟩, st20⟩ := Jvm.LawKit.callS X15 hx (y := (⟨"java/lang/StringUTF16", "getChar", "([BI)C"⟩ : MethodName)) hown (mvT hZ (wd hw 123 rfl)) (mvT hZ (wd hw 124 rfl)) (mvT hZ (wd hw 45 rfl)) (mvT hZ (wd hw 125 rfl)) (by decide) (backOf (W := 0) (rmGC l Z a0 hw [] t kt (2 : Int32) [(.int (own_b0 ch0)), (.int (own_b1 ch0))] (0 : Int32) (own_b0 ch0) (own_b1 ch0) ch0 G fv T15.heap n0 z16 At (by decide) rfl (by decide) rfl (own_utfc kch0) W0 f18) hZ (wd hw 125 rfl) (wd hw 45 rfl) (by decide) (by decide)) (g := (mkF m 32 #[(sr ca), (si 0), (si 1), (sr ba), (si 0), (sr t)] [(.int 0), (.ref t)])) rfl (by rw [hml]; rfl) (argsL := [(.ref t), (.int (0 : Int32))]) (rest := []) (lenOf pd_8 rfl) rfl (by show 2 * 0 + _ ≤ _; exact Nat.le_of_eq rfl) (D d26_32) (fun _ _ => ⟨rfl, rfl, (by decide : 2 + 0 ≤ _), (by decide : 3 + 0 ≤ _)⟩)
    dsimp only [Pt.U, Pt.locs, Pt.cells, Pt.slots] at X20 l20 y20 z20 st20 hQ20
    subst l20 y20 z20
    obtain ⟨rfl, rfl, e20⟩ := hQ20
    have N20 := Fr.app N15 (Fr.nil n0)
    have go20 : Go p e below E0 T20 m 35 #[(sr ca), (si 0), (si 1), (sr ba), (si 0), (sr t)] [(.int ch0)] := fun tgt kont => go19 tgt (st20 tgt kont)
    have go21 : Go p e below E0 T20 m 56 #[(sr ca), (si 0), (si 1), (sr ba), (si 0), (sr t)] [(.ref t)] := fun tgt kont => go20 tgt (by
      refine XS.sipush X20.here hx rfl (D d26_35) ?_; refine XS.icmpYes X20.here hx rfl (pc0 := 38) (pc' := 54) rfl (D d26_38) rfl (tlt hbig).2.2.1 (by decide) (by decide) ?_; refine XS.aload X20.here hx rfl (D d26_54) rfl rfl ?_; exact kont)
    obtain ⟨fs, hr, hrun, hended, hW, hsame⟩ := X20.leave (v := some (.ref t)) (fun h => by rw [Bd.returns] at h; cases h)
    refine ⟨_, _, go21 _ ?_, hrun, hended, _, _, rfl, ?_, ⟨_, rfl⟩, hW, hsame.mono (by decide) (by decide)⟩
    · show Steps p.tables e below (T20.setTop (mkF m 56 #[(sr ca), (si 0), (si 1), (sr ba), (si 0), (sr t)] [(.ref t)])) _
      exact retOut X20 hx Bd.returns rfl (Or.inr (Or.inr (Or.inr (Or.inr ⟨rfl, rfl, rfl⟩)))) (D d26_56) hr
    · show QCP1 Z ca kc ch0 G fv h0 n0 _ T20.heap _
      rw [e20]
      exact ⟨t, kt, rfl, N20, K17, ge_t, hz_t, Or.inr At⟩
theorem pd_21 : parseMethodDescriptor "([BI)B" = some ⟨[(.array .byte), .int], some .byte⟩ := by decide +kernel
theorem d27_0 : decode jdk_42_method_149_code 0 = .ok (.aload_n 0, 1) := by decide +kernel
theorem d27_1 : decode jdk_42_method_149_code 1 = .ok (.invokespecial 1, 3) := by decide +kernel
theorem d27_4 : decode jdk_42_method_149_code 4 = .ok (.iload_n 3, 1) := by decide +kernel
theorem d27_5 : decode jdk_42_method_149_code 5 = .ok (.ifCond .ne 22, 3) := by decide +kernel
theorem d27_27 : decode jdk_42_method_149_code 27 = .ok (.getstatic 38, 3) := by decide +kernel
theorem d27_30 : decode jdk_42_method_149_code 30 = .ok (.ifCond .eq 28, 3) := by decide +kernel
theorem d27_33 : decode jdk_42_method_149_code 33 = .ok (.aload_n 1, 1) := by decide +kernel
theorem d27_34 : decode jdk_42_method_149_code 34 = .ok (.iload_n 2, 1) := by decide +kernel
theorem d27_35 : decode jdk_42_method_149_code 35 = .ok (.iload_n 3, 1) := by decide +kernel
theorem d27_36 : decode jdk_42_method_149_code 36 = .ok (.invokestatic 177, 3) := by decide +kernel
theorem d27_39 : decode jdk_42_method_149_code 39 = .ok (.astore 5, 2) := by decide +kernel
theorem d27_41 : decode jdk_42_method_149_code 41 = .ok (.aload_n 0, 1) := by decide +kernel
theorem d27_42 : decode jdk_42_method_149_code 42 = .ok (.aload 5, 2) := by decide +kernel
theorem d27_44 : decode jdk_42_method_149_code 44 = .ok (.iload_n 3, 1) := by decide +kernel
theorem d27_45 : decode jdk_42_method_149_code 45 = .ok (.invokestatic 47, 3) := by decide +kernel
theorem d27_48 : decode jdk_42_method_149_code 48 = .ok (.putfield 15, 3) := by decide +kernel
theorem d27_51 : decode jdk_42_method_149_code 51 = .ok (.aload_n 0, 1) := by decide +kernel
theorem d27_52 : decode jdk_42_method_149_code 52 = .ok (.aload 5, 2) := by decide +kernel
theorem d27_54 : decode jdk_42_method_149_code 54 = .ok (.putfield 9, 3) := by decide +kernel
theorem d27_57 : decode jdk_42_method_149_code 57 = .ok (.return_, 1) := by decide +kernel
theorem ef_V1 (m : MethodId) (x0 : Addr) (x1 : Addr) (x2 : Int32) (x3 : Int32) : entryFrame m #[(.ref x0), (.ref x1), (.int x2), (.int x3), .null] 6 = mkF m 0 #[.val (.ref x0), .val (.ref x1), .val (.int x2), .val (.int x3), .val .null, .unset] [] := by first | (simp [entryFrame, mkF, argsToLocals, Value.category, maxLocals]; done) | rfl
def QV1 (Z : State) (x : Addr) (ca : Addr) (kc : ClassId) (ch0 : Int32) (G : Int32) (fv : Value) (h0 : Heap) (n0 : Nat) (v : Option Value) (h : Heap) (L : List Loc) : Prop := v = none ∧ Fr n0 L ∧ Keep h0 h [x] ∧ own_S1 Z h x ch0
abbrev RmV1 : Room := ({ frames := 4, cells := 2, slots := 3, locals := 57 } : Room)
set_option maxRecDepth 65536 in
set_option maxHeartbeats 40000000 in
theorem rmV1 (l : Launch) (Z : State) (a0 : Array Value) (hw : ∀ d ∈ tables_1, d.before a0 Z = true) (ws : List Jvm.Cond) (x : Addr) (ca : Addr) (kc : ClassId) (ch0 : Int32) (G : Int32) (fv : Value) (h0 : Heap) (n0 : Nat) (Z0 : n0 ≤ h0.size) (Ex : Exa Z h0 x "java/lang/String") (gx : n0 ≤ x) (Fv : Fld Z h0 x "java/lang/String" "value" "[B" .null) (Fc : Fld Z h0 x "java/lang/String" "coder" "B" (.int (0 : Int32))) (Ac : Arv Z h0 ca kc .char (1 : Int32) [(.int ch0)] (.int (0 : Int32))) (kch0 : own_ch ch0) (W0 : own_W Z G fv) (O0 : Old Z n0 h0) :
    MetFree l (⟨"java/lang/String", "<init>", "([CIILjava/lang/Void;)V"⟩ : MethodName) (head1 (Jvm.Cond.code (⟨"java/lang/String", "<init>", "([CIILjava/lang/Void;)V"⟩ : MethodName) jdk_42_method_149_code 6 none :: ws) RmV1) (fun as_ U => as_ = #[(.ref x), (.ref ca), (.int (0 : Int32)), (.int (1 : Int32)), .null] ∧ Z.Warmed39 U.vm ∧ U.heap = h0) (fun _ _ _ _ _ => True) (fun _ U o U' => ∃ v L, o = .returned v ∧ QV1 Z x ca kc ch0 G fv h0 n0 v U'.heap L ∧ FrameEnd U o U' L RmV1.cells RmV1.slots) := by
  refine MetFree.of_bodySF (plainFor_of_name pn_2) hisR ?_
  intro p e s m args below meth c s₁ Bd hml0 hP hK
  obtain ⟨rfl, hZ, hh⟩ := hP
  have hx := Bd.exec
  have hby := Bd.bytes
  have D : ∀ {pc : Nat} {r : Except DecodeError (Instr × Nat)}, decode jdk_42_method_149_code pc = r → decode c.code pc = r := fun q => hb hby q
  have hml : c.maxLocals = 6 := hml0
  have hown : s.vm.findClass "java/lang/String" = some m.cls := findClass_of_methodNamed Bd.named
  have hnm := (name_of_methodNamed Bd.named Bd.method).1
  have X0 : Stand p l e RmV1 s m #[(.ref x), (.ref ca), (.int (0 : Int32)), (.int (1 : Int32)), .null] below meth c s₁ [] 0 0 := Stand.of_body Bd
  have e0 : s₁.heap = h0 := by rw [← hh, Bd.state]; rfl
  have N0 := Fr.nil n0
  obtain ⟨E0, hE0⟩ : ∃ z, z = s₁.setTop (entryFrame m #[(.ref x), (.ref ca), (.int (0 : Int32)), (.int (1 : Int32)), .null] 6) := ⟨_, rfl⟩
  rw [← hE0]
  have go0 : ∀ tgt, Steps p.tables e below (s₁.setTop (mkF m 0 #[(sr x), (sr ca), (si 0), (si 1), .val .null, .unset] [])) tgt → Steps p.tables e below E0 tgt := fun tgt kont => by rw [hE0]; exact castTop (ef_V1 m x ca (0 : Int32) (1 : Int32)) kont
  have go1 : Go p e below E0 s₁ m 1 #[(sr x), (sr ca), (si 0), (si 1), .val .null, .unset] [(.ref x)] := fun tgt kont => go0 tgt (by
    refine XS.aloadN X0.here hx rfl (D d27_0) rfl rfl ?_; exact kont)
  obtain ⟨T2, X2, e2, st2⟩ := initO X0 hx hZ hown (wd hw 12 rfl) (wd hw 13 rfl) (wd hw 14 rfl) e0 (g := (mkF m 1 #[(sr x), (sr ca), (si 0), (si 1), .val .null, .unset] [(.ref x)])) rfl (by rw [hml]; rfl) rfl (D d27_1) (by decide) (W := 0) (by show 2 * 0 + _ ≤ _; exact Nat.le_of_eq rfl) (by decide)
  have go2 : Go p e below E0 T2 m 4 #[(sr x), (sr ca), (si 0), (si 1), .val .null, .unset] [] := fun tgt kont => go1 tgt (st2 tgt kont)
  have go3 : Go p e below E0 T2 m 27 #[(sr x), (sr ca), (si 0), (si 1), .val .null, .unset] [] := fun tgt kont => go2 tgt (by
    refine XS.iloadN X2.here hx rfl (D d27_4) rfl ?_; refine XS.ifYes X2.here hx rfl (pc0 := 5) (pc' := 27) rfl (D d27_5) rfl ((if0 _ _).trans (feq (by decide)).2) (by decide) (by decide) ?_; exact kont)
  obtain ⟨T4, X4, e4, st4⟩ := getS2 X2 hx hZ hown (host := "") (Or.inl (wd hw 37 rfl)) Via.refl e2 (W0.1.ext O0.2) (g := (mkF m 27 #[(sr x), (sr ca), (si 0), (si 1), .val .null, .unset] [])) rfl (D d27_27)
  have go4 : Go p e below E0 T4 m 30 #[(sr x), (sr ca), (si 0), (si 1), .val .null, .unset] [(.int G)] := fun tgt kont => go3 tgt (st4 tgt kont)
  have go5 : Go p e below E0 T4 m 36 #[(sr x), (sr ca), (si 0), (si 1), .val .null, .unset] [(.int 1), (.int 0), (.ref ca)] := fun tgt kont => go4 tgt (by
    refine XS.ifNo X4.here hx rfl (D d27_30) rfl ((if0 _ _).trans (feq W0.2.1).1) ?_; refine XS.aloadN X4.here hx rfl (D d27_33) rfl rfl ?_; refine XS.iloadN X4.here hx rfl (D d27_34) rfl ?_; refine XS.iloadN X4.here hx rfl (D d27_35) rfl ?_; exact kont)
  obtain ⟨_, _, ⟨T6, L6, k6, n6⟩, -, X6, ⟨Lc6, hQ6, l6, y6, z6⟩, st6⟩ := Jvm.LawKit.callS X4 hx (y := (⟨"java/lang/StringUTF16", "compress", "([CII)[B"⟩ : MethodName)) hown (mvT hZ (wd hw 43 rfl)) (mvT hZ (wd hw 44 rfl)) (mvT hZ (wd hw 45 rfl)) (mvT hZ (wd hw 46 rfl)) (by decide) (backOf (W := 0) (rmCP1 l Z a0 hw [] ca kc ch0 G fv h0 n0 Z0 Ac kch0 W0 O0) hZ (wd hw 46 rfl) (wd hw 45 rfl) (by decide) (by decide)) (g := (mkF m 36 #[(sr x), (sr ca), (si 0), (si 1), .val .null, .unset] [(.int 1), (.int 0), (.ref ca)])) rfl (by rw [hml]; rfl) (argsL := [(.ref ca), (.int (0 : Int32)), (.int (1 : Int32))]) (rest := []) (lenOf pd_20 rfl) rfl (by show 2 * 0 + _ ≤ _; exact Nat.le_of_eq rfl) (D d27_36) (fun _ _ => ⟨rfl, e4, (by decide : 0 + 2 ≤ _), (by decide : 0 + 3 ≤ _)⟩)
  dsimp only [Pt.U, Pt.locs, Pt.cells, Pt.slots] at X6 l6 y6 z6 st6 hQ6
  subst l6 y6 z6
  obtain ⟨t, kb, rfl, N6q, Kc, gt, zt, hd⟩ := hQ6
  have N6 := Fr.app N0 N6q
  have z7 : n0 ≤ T6.heap.size := Nat.le_trans Z0 Kc.1
  have K8 : Keep h0 T6.heap [x] := (Keep.refl h0 [x]).trans Kc all0
  have go6 : Go p e below E0 T6 m 39 #[(sr x), (sr ca), (si 0), (si 1), .val .null, .unset] [(.ref t)] := fun tgt kont => go5 tgt (st6 tgt kont)
  have ne_x_t : x ≠ t := Nat.ne_of_lt (Nat.lt_of_lt_of_le Ex.lt zt)
  have go9 : Go p e below E0 T6 m 45 #[(sr x), (sr ca), (si 0), (si 1), .val .null, (sr t)] [(.int 1), (.ref t), (.ref x)] := fun tgt kont => go6 tgt (by
    refine XS.astore X6.here hx rfl (D d27_39) rfl rfl (l' := #[(sr x), (sr ca), (si 0), (si 1), .val .null, (sr t)]) rfl ?_; refine XS.aloadN X6.here hx rfl (D d27_41) rfl rfl ?_; refine XS.aload X6.here hx rfl (D d27_42) rfl rfl ?_; refine XS.iloadN X6.here hx rfl (D d27_44) rfl ?_; exact kont)
  rcases hd with ⟨hall, Ab⟩ | Ab
  · obtain ⟨_, _, ⟨T10, L10, k10, n10⟩, -, X10, ⟨Lc10, hQ10, l10, y10, z10⟩, st10⟩ := Jvm.LawKit.callS X6 hx (y := (⟨"java/lang/StringUTF16", "coderFromArrayLen", "([BI)B"⟩ : MethodName)) hown (mvT hZ (wd hw 50 rfl)) (mvT hZ (wd hw 51 rfl)) (mvT hZ (wd hw 45 rfl)) (mvT hZ (wd hw 52 rfl)) (by decide) (backOf (W := 1) (rmCF l Z a0 hw [] t kb (1 : Int32) [(.int (own_lo ch0))] (1 : Int32) (0 : Int32) T6.heap n0 z7 Ab (by decide)) hZ (wd hw 52 rfl) (wd hw 45 rfl) (by decide) (by decide)) (g := (mkF m 45 #[(sr x), (sr ca), (si 0), (si 1), .val .null, (sr t)] [(.int 1), (.ref t), (.ref x)])) rfl (by rw [hml]; rfl) (argsL := [(.ref t), (.int (1 : Int32))]) (rest := [(.ref x)]) (lenOf pd_21 rfl) rfl (by show 2 * 0 + _ ≤ _; exact Nat.le_of_eq rfl) (D d27_45) (fun _ _ => ⟨rfl, rfl, (by decide : 2 + 0 ≤ _), (by decide : 3 + 0 ≤ _)⟩)
    dsimp only [Pt.U, Pt.locs, Pt.cells, Pt.slots] at X10 l10 y10 z10 st10 hQ10
    subst l10 y10 z10
    obtain ⟨rfl, rfl, e10⟩ := hQ10
    have N10 := Fr.app N6 (Fr.nil n0)
    have go10 : Go p e below E0 T10 m 48 #[(sr x), (sr ca), (si 0), (si 1), .val .null, (sr t)] [(.int 0), (.ref x)] := fun tgt kont => go9 tgt (st10 tgt kont)
    have f11 : Fld Z T6.heap x "java/lang/String" "coder" "B" (.int (0 : Int32)) := (Fc.keep Kc nin0)
    have f12 : Exa Z T6.heap x "java/lang/String" := (Ex.keep Kc)
    obtain ⟨T13, h13, X13, e13, W13, st13⟩ := putF X10 hx hZ hown (host := "") (Or.inl (wd hw 22 rfl)) Via.refl e10 f11 f12 (Or.inr ⟨(wd hw 18 rfl), rfl, hnm⟩) (wd hw 3 rfl) (ty := .byte) (by decide) rfl rfl (g := (mkF m 48 #[(sr x), (sr ca), (si 0), (si 1), .val .null, (sr t)] [(.int 0), (.ref x)])) rfl rfl (D d27_48)
    have z14 : n0 ≤ h13.size := Nat.le_trans z7 (Keep.of_wr W13).1
    have K15 : Keep h0 h13 [x] := K8.wr W13 (Or.inl (List.mem_of_getElem? (i := 0) rfl))
    have N13 := Fr.snoc X13 N10 gx
    have f16 : Fld Z h13 x "java/lang/String" "coder" "B" (.int (0 : Int32)) := (f11.same W13)
    have go13 : Go p e below E0 T13 m 51 #[(sr x), (sr ca), (si 0), (si 1), .val .null, (sr t)] [] := fun tgt kont => go10 tgt (st13 tgt kont)
    have go17 : Go p e below E0 T13 m 54 #[(sr x), (sr ca), (si 0), (si 1), .val .null, (sr t)] [(.ref t), (.ref x)] := fun tgt kont => go13 tgt (by
      refine XS.aloadN X13.here hx rfl (D d27_51) rfl rfl ?_; refine XS.aload X13.here hx rfl (D d27_52) rfl rfl ?_; exact kont)
    have f18 : Fld Z h13 x "java/lang/String" "value" "[B" .null := ((Fv.keep Kc nin0).other W13 (Or.inr (slot_ne (Or.inr (wd hw 17 rfl)) (Or.inr (wd hw 18 rfl)) (by decide) (t := (.array .byte)) (t' := .byte) (by decide) (by decide))))
    have f19 : Exa Z h13 x "java/lang/String" := (f12.wr W13)
    obtain ⟨T20, h20, X20, e20, W20, st20⟩ := putF X13 hx hZ hown (host := "") (Or.inl (wd hw 21 rfl)) Via.refl e13 f18 f19 (Or.inr ⟨(wd hw 17 rfl), rfl, hnm⟩) (wd hw 3 rfl) (ty := (.array .byte)) (by decide) rfl rfl (g := (mkF m 54 #[(sr x), (sr ca), (si 0), (si 1), .val .null, (sr t)] [(.ref t), (.ref x)])) rfl rfl (D d27_54)
    have z21 : n0 ≤ h20.size := Nat.le_trans z14 (Keep.of_wr W20).1
    have K22 : Keep h0 h20 [x] := K15.wr W20 (Or.inl (List.mem_of_getElem? (i := 0) rfl))
    have N20 := Fr.snoc X20 N13 gx
    have f23 : Fld Z h20 x "java/lang/String" "value" "[B" (.ref t) := (f18.same W20)
    have go20 : Go p e below E0 T20 m 57 #[(sr x), (sr ca), (si 0), (si 1), .val .null, (sr t)] [] := fun tgt kont => go17 tgt (st20 tgt kont)
    have f24 : Exa Z h20 x "java/lang/String" := (f19.wr W20)
    have f25 : Fld Z h20 x "java/lang/String" "coder" "B" (.int (0 : Int32)) := (f16.other W20 (Or.inr (slot_ne (Or.inr (wd hw 18 rfl)) (Or.inr (wd hw 17 rfl)) (by decide) (t := .byte) (t' := (.array .byte)) (by decide) (by decide))))
    have f26 : Arv Z h20 t kb .byte (1 : Int32) [(.int (own_lo ch0))] (.int (0 : Int32)) := ((Ab.other W13 (Ne.symm ne_x_t)).other W20 (Ne.symm ne_x_t))
    obtain ⟨fs, hr, hrun, hended, hW, hsame⟩ := X20.leave (v := none) (fun _ => rfl)
    refine ⟨_, _, go20 _ ?_, hrun, hended, _, _, rfl, ?_, ⟨_, rfl⟩, hW, hsame.mono (by decide) (by decide)⟩
    · show Steps p.tables e below (T20.setTop (mkF m 57 #[(sr x), (sr ca), (si 0), (si 1), .val .null, (sr t)] [])) _
      exact X20.returnOut hx Bd.returns (D d27_57) hr
    · show QV1 Z x ca kc ch0 G fv h0 n0 _ T20.heap _
      rw [e20]
      exact ⟨rfl, N20, K22, t, kb, f24, f23, Or.inl ⟨f25, f26, hall⟩⟩
  · obtain ⟨_, _, ⟨T27, L27, k27, n27⟩, -, X27, ⟨Lc27, hQ27, l27, y27, z27⟩, st27⟩ := Jvm.LawKit.callS X6 hx (y := (⟨"java/lang/StringUTF16", "coderFromArrayLen", "([BI)B"⟩ : MethodName)) hown (mvT hZ (wd hw 50 rfl)) (mvT hZ (wd hw 51 rfl)) (mvT hZ (wd hw 45 rfl)) (mvT hZ (wd hw 52 rfl)) (by decide) (backOf (W := 1) (rmCF l Z a0 hw [] t kb (2 : Int32) [(.int (own_b0 ch0)), (.int (own_b1 ch0))] (1 : Int32) (1 : Int32) T6.heap n0 z7 Ab (by decide)) hZ (wd hw 52 rfl) (wd hw 45 rfl) (by decide) (by decide)) (g := (mkF m 45 #[(sr x), (sr ca), (si 0), (si 1), .val .null, (sr t)] [(.int 1), (.ref t), (.ref x)])) rfl (by rw [hml]; rfl) (argsL := [(.ref t), (.int (1 : Int32))]) (rest := [(.ref x)]) (lenOf pd_21 rfl) rfl (by show 2 * 0 + _ ≤ _; exact Nat.le_of_eq rfl) (D d27_45) (fun _ _ => ⟨rfl, rfl, (by decide : 2 + 0 ≤ _), (by decide : 3 + 0 ≤ _)⟩)
    dsimp only [Pt.U, Pt.locs, Pt.cells, Pt.slots] at X27 l27 y27 z27 st27 hQ27
    subst l27 y27 z27
    obtain ⟨rfl, rfl, e27⟩ := hQ27
    have N27 := Fr.app N6 (Fr.nil n0)
    have go27 : Go p e below E0 T27 m 48 #[(sr x), (sr ca), (si 0), (si 1), .val .null, (sr t)] [(.int 1), (.ref x)] := fun tgt kont => go9 tgt (st27 tgt kont)
    have f28 : Fld Z T6.heap x "java/lang/String" "coder" "B" (.int (0 : Int32)) := (Fc.keep Kc nin0)
    have f29 : Exa Z T6.heap x "java/lang/String" := (Ex.keep Kc)
    obtain ⟨T30, h30, X30, e30, W30, st30⟩ := putF X27 hx hZ hown (host := "") (Or.inl (wd hw 22 rfl)) Via.refl e27 f28 f29 (Or.inr ⟨(wd hw 18 rfl), rfl, hnm⟩) (wd hw 3 rfl) (ty := .byte) (by decide) rfl rfl (g := (mkF m 48 #[(sr x), (sr ca), (si 0), (si 1), .val .null, (sr t)] [(.int 1), (.ref x)])) rfl rfl (D d27_48)
    have z31 : n0 ≤ h30.size := Nat.le_trans z7 (Keep.of_wr W30).1
    have K32 : Keep h0 h30 [x] := K8.wr W30 (Or.inl (List.mem_of_getElem? (i := 0) rfl))
    have N30 := Fr.snoc X30 N27 gx
    have f33 : Fld Z h30 x "java/lang/String" "coder" "B" (.int (1 : Int32)) := (f28.same W30)
    have go30 : Go p e below E0 T30 m 51 #[(sr x), (sr ca), (si 0), (si 1), .val .null, (sr t)] [] := fun tgt kont => go27 tgt (st30 tgt kont)
    have go34 : Go p e below E0 T30 m 54 #[(sr x), (sr ca), (si 0), (si 1), .val .null, (sr t)] [(.ref t), (.ref x)] := fun tgt kont => go30 tgt (by
      refine XS.aloadN X30.here hx rfl (D d27_51) rfl rfl ?_; refine XS.aload X30.here hx rfl (D d27_52) rfl rfl ?_; exact kont)
    have f35 : Fld Z h30 x "java/lang/String" "value" "[B" .null := ((Fv.keep Kc nin0).other W30 (Or.inr (slot_ne (Or.inr (wd hw 17 rfl)) (Or.inr (wd hw 18 rfl)) (by decide) (t := (.array .byte)) (t' := .byte) (by decide) (by decide))))
    have f36 : Exa Z h30 x "java/lang/String" := (f29.wr W30)
    obtain ⟨T37, h37, X37, e37, W37, st37⟩ := putF X30 hx hZ hown (host := "") (Or.inl (wd hw 21 rfl)) Via.refl e30 f35 f36 (Or.inr ⟨(wd hw 17 rfl), rfl, hnm⟩) (wd hw 3 rfl) (ty := (.array .byte)) (by decide) rfl rfl (g := (mkF m 54 #[(sr x), (sr ca), (si 0), (si 1), .val .null, (sr t)] [(.ref t), (.ref x)])) rfl rfl (D d27_54)
    have z38 : n0 ≤ h37.size := Nat.le_trans z31 (Keep.of_wr W37).1
    have K39 : Keep h0 h37 [x] := K32.wr W37 (Or.inl (List.mem_of_getElem? (i := 0) rfl))
    have N37 := Fr.snoc X37 N30 gx
    have f40 : Fld Z h37 x "java/lang/String" "value" "[B" (.ref t) := (f35.same W37)
    have go37 : Go p e below E0 T37 m 57 #[(sr x), (sr ca), (si 0), (si 1), .val .null, (sr t)] [] := fun tgt kont => go34 tgt (st37 tgt kont)
    have f41 : Exa Z h37 x "java/lang/String" := (f36.wr W37)
    have f42 : Fld Z h37 x "java/lang/String" "coder" "B" (.int (1 : Int32)) := (f33.other W37 (Or.inr (slot_ne (Or.inr (wd hw 18 rfl)) (Or.inr (wd hw 17 rfl)) (by decide) (t := .byte) (t' := (.array .byte)) (by decide) (by decide))))
    have f43 : Arv Z h37 t kb .byte (2 : Int32) [(.int (own_b0 ch0)), (.int (own_b1 ch0))] (.int (0 : Int32)) := ((Ab.other W30 (Ne.symm ne_x_t)).other W37 (Ne.symm ne_x_t))
    obtain ⟨fs, hr, hrun, hended, hW, hsame⟩ := X37.leave (v := none) (fun _ => rfl)
    refine ⟨_, _, go37 _ ?_, hrun, hended, _, _, rfl, ?_, ⟨_, rfl⟩, hW, hsame.mono (by decide) (by decide)⟩
    · show Steps p.tables e below (T37.setTop (mkF m 57 #[(sr x), (sr ca), (si 0), (si 1), .val .null, (sr t)] [])) _
      exact X37.returnOut hx Bd.returns (D d27_57) hr
    · show QV1 Z x ca kc ch0 G fv h0 n0 _ T37.heap _
      rw [e37]
      exact ⟨rfl, N37, K39, t, kb, f41, f40, Or.inr ⟨f42, f43⟩⟩
theorem pd_22 : parseMethodDescriptor "([CIILjava/lang/Void;)V" = some ⟨[(.array .char), .int, .int, (.object "java/lang/Void")], none⟩ := by decide +kernel
theorem d28_0 : decode jdk_42_method_3_code 0 = .ok (.aload_n 0, 1) := by decide +kernel
theorem d28_1 : decode jdk_42_method_3_code 1 = .ok (.aload_n 1, 1) := by decide +kernel
theorem d28_2 : decode jdk_42_method_3_code 2 = .ok (.iconst 0, 1) := by decide +kernel
theorem d28_3 : decode jdk_42_method_3_code 3 = .ok (.aload_n 1, 1) := by decide +kernel
theorem d28_4 : decode jdk_42_method_3_code 4 = .ok (.arraylength, 1) := by decide +kernel
theorem d28_5 : decode jdk_42_method_3_code 5 = .ok (.aconst_null, 1) := by decide +kernel
theorem d28_6 : decode jdk_42_method_3_code 6 = .ok (.invokespecial 27, 3) := by decide +kernel
theorem d28_9 : decode jdk_42_method_3_code 9 = .ok (.return_, 1) := by decide +kernel
theorem ef_N1 (m : MethodId) (x0 : Addr) (x1 : Addr) : entryFrame m #[(.ref x0), (.ref x1)] 2 = mkF m 0 #[.val (.ref x0), .val (.ref x1)] [] := by first | (simp [entryFrame, mkF, argsToLocals, Value.category, maxLocals]; done) | rfl
def QN1 (Z : State) (x : Addr) (ca : Addr) (kc : ClassId) (ch0 : Int32) (G : Int32) (fv : Value) (h0 : Heap) (n0 : Nat) (v : Option Value) (h : Heap) (L : List Loc) : Prop := v = none ∧ Fr n0 L ∧ Keep h0 h [x] ∧ own_S1 Z h x ch0
abbrev RmN1 : Room := ({ frames := 5, cells := 2, slots := 3, locals := 74 } : Room)
set_option maxRecDepth 65536 in
set_option maxHeartbeats 40000000 in
theorem rmN1 (l : Launch) (Z : State) (a0 : Array Value) (hw : ∀ d ∈ tables_1, d.before a0 Z = true) (ws : List Jvm.Cond) (x : Addr) (ca : Addr) (kc : ClassId) (ch0 : Int32) (G : Int32) (fv : Value) (h0 : Heap) (n0 : Nat) (Z0 : n0 ≤ h0.size) (Ex : Exa Z h0 x "java/lang/String") (gx : n0 ≤ x) (Fv : Fld Z h0 x "java/lang/String" "value" "[B" .null) (Fc : Fld Z h0 x "java/lang/String" "coder" "B" (.int (0 : Int32))) (Ac : Arv Z h0 ca kc .char (1 : Int32) [(.int ch0)] (.int (0 : Int32))) (kch0 : own_ch ch0) (W0 : own_W Z G fv) (O0 : Old Z n0 h0) :
    MetFree l (⟨"java/lang/String", "<init>", "([C)V"⟩ : MethodName) (head1 (Jvm.Cond.code (⟨"java/lang/String", "<init>", "([C)V"⟩ : MethodName) jdk_42_method_3_code 2 none :: ws) RmN1) (fun as_ U => as_ = #[(.ref x), (.ref ca)] ∧ Z.Warmed39 U.vm ∧ U.heap = h0) (fun _ _ _ _ _ => True) (fun _ U o U' => ∃ v L, o = .returned v ∧ QN1 Z x ca kc ch0 G fv h0 n0 v U'.heap L ∧ FrameEnd U o U' L RmN1.cells RmN1.slots) := by
  refine MetFree.of_bodySF (plainFor_of_name pn_2) hisR ?_
  intro p e s m args below meth c s₁ Bd hml0 hP hK
  obtain ⟨rfl, hZ, hh⟩ := hP
  have hx := Bd.exec
  have hby := Bd.bytes
  have D : ∀ {pc : Nat} {r : Except DecodeError (Instr × Nat)}, decode jdk_42_method_3_code pc = r → decode c.code pc = r := fun q => hb hby q
  have hml : c.maxLocals = 2 := hml0
  have hown : s.vm.findClass "java/lang/String" = some m.cls := findClass_of_methodNamed Bd.named
  have hnm := (name_of_methodNamed Bd.named Bd.method).1
  have X0 : Stand p l e RmN1 s m #[(.ref x), (.ref ca)] below meth c s₁ [] 0 0 := Stand.of_body Bd
  have e0 : s₁.heap = h0 := by rw [← hh, Bd.state]; rfl
  have N0 := Fr.nil n0
  obtain ⟨E0, hE0⟩ : ∃ z, z = s₁.setTop (entryFrame m #[(.ref x), (.ref ca)] 2) := ⟨_, rfl⟩
  rw [← hE0]
  have go0 : ∀ tgt, Steps p.tables e below (s₁.setTop (mkF m 0 #[(sr x), (sr ca)] [])) tgt → Steps p.tables e below E0 tgt := fun tgt kont => by rw [hE0]; exact castTop (ef_N1 m x ca) kont
  have go1 : Go p e below E0 s₁ m 4 #[(sr x), (sr ca)] [(.ref ca), (.int 0), (.ref ca), (.ref x)] := fun tgt kont => go0 tgt (by
    refine XS.aloadN X0.here hx rfl (D d28_0) rfl rfl ?_; refine XS.aloadN X0.here hx rfl (D d28_1) rfl rfl ?_; refine XS.iconst X0.here hx rfl (D d28_2) ?_; refine XS.aloadN X0.here hx rfl (D d28_3) rfl rfl ?_; exact kont)
  obtain ⟨c2, Ar2, q2, S2, M2, -, -⟩ := id Ac
  have go3 : Go p e below E0 s₁ m 6 #[(sr x), (sr ca)] [.null, (.int 1), (.int 0), (.ref ca), (.ref x)] := fun tgt kont => go1 tgt (by
    refine X0.arraylength hx (by rw [e0]; exact Ar2.1) (State.isArrayOf_alike hZ.alike Ar2.2.1) (g := (mkF m 4 #[(sr x), (sr ca)] [(.ref ca), (.int 0), (.ref ca), (.ref x)])) rfl rfl (D d28_4) _ ?_; rw [len_of S2 M2]; refine XS.aconstNull X0.here hx rfl (D d28_5) ?_; exact kont)
  obtain ⟨_, _, ⟨T4, L4, k4, n4⟩, -, X4, ⟨Lc4, hQ4, l4, y4, z4⟩, st4⟩ := X0.specialBack hx (y := (⟨"java/lang/String", "<init>", "([CIILjava/lang/Void;)V"⟩ : MethodName)) rfl hown (mvT hZ (wd hw 8 rfl)) (mvT hZ (wd hw 9 rfl)) (mvT hZ (wd hw 11 rfl)) (by decide) (backOf (W := 0) (rmV1 l Z a0 hw [] x ca kc ch0 G fv h0 n0 Z0 Ex gx Fv Fc Ac kch0 W0 O0) hZ (wd hw 11 rfl) (wd hw 4 rfl) (by decide) (by decide)) (g := (mkF m 6 #[(sr x), (sr ca)] [.null, (.int 1), (.int 0), (.ref ca), (.ref x)])) rfl (by rw [hml]; rfl) (Steps.refl _) (a := x) (argsL := [(.ref ca), (.int (0 : Int32)), (.int (1 : Int32)), .null]) (rest := []) (lenOf pd_22 rfl) rfl (by show 2 * 0 + _ ≤ _; exact Nat.le_of_eq rfl) (D d28_6) (fun _ _ => ⟨rfl, e0, (by decide : 0 + 2 ≤ _), (by decide : 0 + 3 ≤ _)⟩)
  dsimp only [Pt.U, Pt.locs, Pt.cells, Pt.slots] at X4 l4 y4 z4 st4 hQ4
  subst l4 y4 z4
  obtain ⟨rfl, N4q, K1, S1⟩ := hQ4
  have N4 := Fr.app N0 N4q
  have z5 : n0 ≤ T4.heap.size := Nat.le_trans Z0 K1.1
  have K6 : Keep h0 T4.heap [x] := (Keep.refl h0 [x]).trans K1 (allS (Or.inl (List.mem_of_getElem? (i := 0) rfl)) all0)
  have go4 : Go p e below E0 T4 m 9 #[(sr x), (sr ca)] [] := fun tgt kont => go3 tgt (st4.trans kont)
  obtain ⟨fs, hr, hrun, hended, hW, hsame⟩ := X4.leave (v := none) (fun _ => rfl)
  refine ⟨_, _, go4 _ ?_, hrun, hended, _, _, rfl, ?_, ⟨_, rfl⟩, hW, hsame.mono (by decide) (by decide)⟩
  · show Steps p.tables e below (T4.setTop (mkF m 9 #[(sr x), (sr ca)] [])) _
    exact X4.returnOut hx Bd.returns (D d28_9) hr
  · show QN1 Z x ca kc ch0 G fv h0 n0 _ T4.heap _
    exact ⟨rfl, N4, K6, S1⟩
theorem ef_NL2 (m : MethodId) (x0 : Int32) : entryFrame m #[(.int x0)] 1 = mkF m 0 #[.val (.int x0)] [] := by first | (simp [entryFrame, mkF, argsToLocals, Value.category, maxLocals]; done) | rfl
def QNL2 (Z : State) (h0 : Heap) (n0 : Nat) (v : Option Value) (h : Heap) (L : List Loc) : Prop := v = some (.int (4 : Int32)) ∧ L = [] ∧ h = h0
abbrev RmNL2 : Room := ({ frames := 0, cells := 0, slots := 0, locals := 0 } : Room)
set_option maxRecDepth 65536 in
set_option maxHeartbeats 40000000 in
theorem rmNL2 (l : Launch) (Z : State) (a0 : Array Value) (hw : ∀ d ∈ tables_1, d.before a0 Z = true) (ws : List Jvm.Cond) (h0 : Heap) (n0 : Nat) (Z0 : n0 ≤ h0.size) :
    MetFree l (⟨"java/lang/StringUTF16", "newBytesLength", "(I)I"⟩ : MethodName) (head1 (Jvm.Cond.code (⟨"java/lang/StringUTF16", "newBytesLength", "(I)I"⟩ : MethodName) jdk_52_method_3_code 1 (some .int) :: ws) RmNL2) (fun as_ U => as_ = #[(.int (2 : Int32))] ∧ Z.Warmed39 U.vm ∧ U.heap = h0) (fun _ _ _ _ _ => True) (fun _ U o U' => ∃ v L, o = .returned v ∧ QNL2 Z h0 n0 v U'.heap L ∧ FrameEnd U o U' L RmNL2.cells RmNL2.slots) := by
  refine MetFree.of_bodySF (plainFor_of_name pn_5) hisR ?_
  intro p e s m args below meth c s₁ Bd hml0 hP hK
  obtain ⟨rfl, hZ, hh⟩ := hP
  have hx := Bd.exec
  have hby := Bd.bytes
  have D : ∀ {pc : Nat} {r : Except DecodeError (Instr × Nat)}, decode jdk_52_method_3_code pc = r → decode c.code pc = r := fun q => hb hby q
  have hml : c.maxLocals = 1 := hml0
  have hown : s.vm.findClass "java/lang/StringUTF16" = some m.cls := findClass_of_methodNamed Bd.named
  have hnm := (name_of_methodNamed Bd.named Bd.method).1
  have X0 : Stand p l e RmNL2 s m #[(.int (2 : Int32))] below meth c s₁ [] 0 0 := Stand.of_body Bd
  have e0 : s₁.heap = h0 := by rw [← hh, Bd.state]; rfl
  have N0 := Fr.nil n0
  obtain ⟨E0, hE0⟩ : ∃ z, z = s₁.setTop (entryFrame m #[(.int (2 : Int32))] 1) := ⟨_, rfl⟩
  rw [← hE0]
  have go0 : ∀ tgt, Steps p.tables e below (s₁.setTop (mkF m 0 #[(si 2)] [])) tgt → Steps p.tables e below E0 tgt := fun tgt kont => by rw [hE0]; exact castTop (ef_NL2 m (2 : Int32)) kont
  have go1 : Go p e below E0 s₁ m 58 #[(si 2)] [(.int ((2 : Int32) <<< ((1 : Int32) &&& 31)))] := fun tgt kont => go0 tgt (by
    refine XS.iloadN X0.here hx rfl (D d21_0) rfl ?_; refine XS.ifYes X0.here hx rfl (pc0 := 1) (pc' := 12) rfl (D d21_1) rfl ((if0 _ _).trans (flt (by decide)).2.1) (by decide) (by decide) ?_; refine XS.iloadN X0.here hx rfl (D d21_12) rfl ?_; refine X0.ldcInt hx hown (mvT hZ (wd hw 116 rfl)) (g := (mkF m 13 #[(si 2)] [(.int 2)])) rfl (D d21_13) _ ?_; refine XS.icmpYes X0.here hx rfl (pc0 := 15) (pc' := 55) rfl (D d21_15) rfl (tlt (by decide)).1 (by decide) (by decide) ?_; refine XS.iloadN X0.here hx rfl (D d21_55) rfl ?_; refine XS.iconst X0.here hx rfl (D d21_56) ?_; refine XS.ishl X0.here hx rfl (D d21_57) rfl ?_; exact kont)
  obtain ⟨fs, hr, hrun, hended, hW, hsame⟩ := X0.leave (v := some (.int ((2 : Int32) <<< ((1 : Int32) &&& 31)))) (fun h => by rw [Bd.returns] at h; cases h)
  refine ⟨_, _, go1 _ ?_, hrun, hended, _, _, rfl, ?_, ⟨_, rfl⟩, hW, hsame.mono (by decide) (by decide)⟩
  · show Steps p.tables e below (s₁.setTop (mkF m 58 #[(si 2)] [(.int ((2 : Int32) <<< ((1 : Int32) &&& 31)))])) _
    exact retOut X0 hx Bd.returns rfl (Or.inl ⟨rfl, Or.inl rfl, _, rfl⟩) (D d21_58) hr
  · show QNL2 Z h0 n0 _ s₁.heap _
    rw [e0]
    exact ⟨congrArg (fun q => some (Value.int q)) (by decide : ((2 : Int32) <<< ((1 : Int32) &&& 31)) = (4 : Int32)), rfl, rfl⟩
theorem ef_NF2 (m : MethodId) (x0 : Int32) : entryFrame m #[(.int x0)] 1 = mkF m 0 #[.val (.int x0)] [] := by first | (simp [entryFrame, mkF, argsToLocals, Value.category, maxLocals]; done) | rfl
def QNF2 (Z : State) (h0 : Heap) (n0 : Nat) (v : Option Value) (h : Heap) (L : List Loc) : Prop := ∃ kb : ClassId, v = some (.ref h0.size) ∧ Fr n0 L ∧ Keep h0 h [] ∧ Arv Z h h0.size kb .byte (4 : Int32) [] (.int (0 : Int32))
abbrev RmNF2 : Room := ({ frames := 1, cells := 1, slots := 4, locals := 12 } : Room)
set_option maxRecDepth 65536 in
set_option maxHeartbeats 40000000 in
theorem rmNF2 (l : Launch) (Z : State) (a0 : Array Value) (hw : ∀ d ∈ tables_1, d.before a0 Z = true) (ws : List Jvm.Cond) (h0 : Heap) (n0 : Nat) (Z0 : n0 ≤ h0.size) :
    MetFree l (⟨"java/lang/StringUTF16", "newBytesFor", "(I)[B"⟩ : MethodName) (head1 (Jvm.Cond.code (⟨"java/lang/StringUTF16", "newBytesFor", "(I)[B"⟩ : MethodName) jdk_52_method_2_code 1 (some (.array .byte)) :: ws) RmNF2) (fun as_ U => as_ = #[(.int (2 : Int32))] ∧ Z.Warmed39 U.vm ∧ U.heap = h0) (fun _ _ _ _ _ => True) (fun _ U o U' => ∃ v L, o = .returned v ∧ QNF2 Z h0 n0 v U'.heap L ∧ FrameEnd U o U' L RmNF2.cells RmNF2.slots) := by
  refine MetFree.of_bodySF (plainFor_of_name pn_5) hisR ?_
  intro p e s m args below meth c s₁ Bd hml0 hP hK
  obtain ⟨rfl, hZ, hh⟩ := hP
  have hx := Bd.exec
  have hby := Bd.bytes
  have D : ∀ {pc : Nat} {r : Except DecodeError (Instr × Nat)}, decode jdk_52_method_2_code pc = r → decode c.code pc = r := fun q => hb hby q
  have hml : c.maxLocals = 1 := hml0
  have hown : s.vm.findClass "java/lang/StringUTF16" = some m.cls := findClass_of_methodNamed Bd.named
  have hnm := (name_of_methodNamed Bd.named Bd.method).1
  have X0 : Stand p l e RmNF2 s m #[(.int (2 : Int32))] below meth c s₁ [] 0 0 := Stand.of_body Bd
  have e0 : s₁.heap = h0 := by rw [← hh, Bd.state]; rfl
  have N0 := Fr.nil n0
  obtain ⟨E0, hE0⟩ : ∃ z, z = s₁.setTop (entryFrame m #[(.int (2 : Int32))] 1) := ⟨_, rfl⟩
  rw [← hE0]
  have go0 : ∀ tgt, Steps p.tables e below (s₁.setTop (mkF m 0 #[(si 2)] [])) tgt → Steps p.tables e below E0 tgt := fun tgt kont => by rw [hE0]; exact castTop (ef_NF2 m (2 : Int32)) kont
  have go1 : Go p e below E0 s₁ m 1 #[(si 2)] [(.int 2)] := fun tgt kont => go0 tgt (by
    refine XS.iloadN X0.here hx rfl (D d22_0) rfl ?_; exact kont)
  obtain ⟨_, _, ⟨T2, L2, k2, n2⟩, -, X2, ⟨Lc2, hQ2, l2, y2, z2⟩, st2⟩ := Jvm.LawKit.callS X0 hx (y := (⟨"java/lang/StringUTF16", "newBytesLength", "(I)I"⟩ : MethodName)) hown (mvT hZ (wd hw 113 rfl)) (mvT hZ (wd hw 114 rfl)) (mvT hZ (wd hw 45 rfl)) (mvT hZ (wd hw 115 rfl)) (by decide) (backOf (W := 0) (rmNL2 l Z a0 hw []  h0 n0 Z0 ) hZ (wd hw 115 rfl) (wd hw 45 rfl) (by decide) (by decide)) (g := (mkF m 1 #[(si 2)] [(.int 2)])) rfl (by rw [hml]; rfl) (argsL := [(.int (2 : Int32))]) (rest := []) (lenOf pd_16 rfl) rfl (by show 2 * 0 + _ ≤ _; exact Nat.le_of_eq rfl) (D d22_1) (fun _ _ => ⟨rfl, e0, (by decide : 0 + 0 ≤ _), (by decide : 0 + 0 ≤ _)⟩)
  dsimp only [Pt.U, Pt.locs, Pt.cells, Pt.slots] at X2 l2 y2 z2 st2 hQ2
  subst l2 y2 z2
  obtain ⟨rfl, rfl, e2⟩ := hQ2
  have N2 := Fr.app N0 (Fr.nil n0)
  have go2 : Go p e below E0 T2 m 4 #[(si 2)] [(.int 4)] := fun tgt kont => go1 tgt (st2 tgt kont)
  obtain ⟨T3, h3, k3, X3, e3, E3, A3, st3⟩ := newP X2 hx hZ (wd hw 16 rfl) e2 (g := (mkF m 4 #[(si 2)] [(.int 4)])) rfl (D d22_4) rfl (by decide) (cap := 4) (by decide) (by decide) (by decide) (by decide)
  obtain ⟨t, g3⟩ : ∃ z, z = h0.size := ⟨_, rfl⟩
  rw [← g3] at A3 st3
  have ge_t : n0 ≤ t := Nat.le_trans Z0 (Nat.le_of_eq g3.symm)
  have hz_t : h0.size ≤ t := Nat.le_trans (Keep.refl h0 []).1 (Nat.le_of_eq g3.symm)
  have z4 : n0 ≤ h3.size := Nat.le_trans Z0 E3.1
  have K5 : Keep h0 h3 [] := (Keep.refl h0 []).ext E3
  have V3 : Arv Z h3 t k3 .byte (4 : Int32) [] (.int (0 : Int32)) := Arv.new A3 (by decide)
  have go3 : Go p e below E0 T3 m 6 #[(si 2)] [(.ref t)] := fun tgt kont => go2 tgt (st3 tgt kont)
  subst g3
  obtain ⟨fs, hr, hrun, hended, hW, hsame⟩ := X3.leave (v := some (.ref h0.size)) (fun h => by rw [Bd.returns] at h; cases h)
  refine ⟨_, _, go3 _ ?_, hrun, hended, _, _, rfl, ?_, ⟨_, rfl⟩, hW, hsame.mono (by decide) (by decide)⟩
  · show Steps p.tables e below (T3.setTop (mkF m 6 #[(si 2)] [(.ref h0.size)])) _
    exact retOut X3 hx Bd.returns rfl (Or.inr (Or.inr (Or.inr (Or.inr ⟨rfl, rfl, rfl⟩)))) (D d22_6) hr
  · show QNF2 Z h0 n0 _ T3.heap _
    rw [e3]
    exact ⟨_, rfl, N2, K5, V3⟩
theorem ef_PU20 (m : MethodId) (x0 : Addr) (x1 : Int32) (x2 : Int32) : entryFrame m #[(.ref x0), (.int x1), (.int x2)] 3 = mkF m 0 #[.val (.ref x0), .val (.int x1), .val (.int x2)] [] := by first | (simp [entryFrame, mkF, argsToLocals, Value.category, maxLocals]; done) | rfl
def QPU20 (Z : State) (t : Addr) (kb : ClassId) (ch0 : Int32) (G : Int32) (fv : Value) (h0 : Heap) (n0 : Nat) (v : Option Value) (h : Heap) (L : List Loc) : Prop := v = none ∧ Fr n0 L ∧ Keep h0 h [t] ∧ Arv Z h t kb .byte (4 : Int32) [(.int (own_b0 ch0)), (.int (own_b1 ch0))] (.int (0 : Int32))
abbrev RmPU20 : Room := ({ frames := 0, cells := 0, slots := 0, locals := 0 } : Room)
set_option maxRecDepth 65536 in
set_option maxHeartbeats 40000000 in
theorem rmPU20 (l : Launch) (Z : State) (a0 : Array Value) (hw : ∀ d ∈ tables_1, d.before a0 Z = true) (ws : List Jvm.Cond) (t : Addr) (kb : ClassId) (ch0 : Int32) (G : Int32) (fv : Value) (h0 : Heap) (n0 : Nat) (Z0 : n0 ≤ h0.size) (A0 : Arv Z h0 t kb .byte (4 : Int32) [] (.int (0 : Int32))) (gt : n0 ≤ t) (W0 : own_W Z G fv) (O0 : Old Z n0 h0) :
    MetFree l (⟨"java/lang/StringUTF16", "putChar", "([BII)V"⟩ : MethodName) (head1 (Jvm.Cond.code (⟨"java/lang/StringUTF16", "putChar", "([BII)V"⟩ : MethodName) jdk_52_method_4_code 3 none :: ws) RmPU20) (fun as_ U => as_ = #[(.ref t), (.int (0 : Int32)), (.int ch0)] ∧ Z.Warmed39 U.vm ∧ U.heap = h0) (fun _ _ _ _ _ => True) (fun _ U o U' => ∃ v L, o = .returned v ∧ QPU20 Z t kb ch0 G fv h0 n0 v U'.heap L ∧ FrameEnd U o U' L RmPU20.cells RmPU20.slots) := by
  refine MetFree.of_bodySF (plainFor_of_name pn_5) hisR ?_
  intro p e s m args below meth c s₁ Bd hml0 hP hK
  obtain ⟨rfl, hZ, hh⟩ := hP
  have hx := Bd.exec
  have hby := Bd.bytes
  have D : ∀ {pc : Nat} {r : Except DecodeError (Instr × Nat)}, decode jdk_52_method_4_code pc = r → decode c.code pc = r := fun q => hb hby q
  have hml : c.maxLocals = 3 := hml0
  have hown : s.vm.findClass "java/lang/StringUTF16" = some m.cls := findClass_of_methodNamed Bd.named
  have hnm := (name_of_methodNamed Bd.named Bd.method).1
  have X0 : Stand p l e RmPU20 s m #[(.ref t), (.int (0 : Int32)), (.int ch0)] below meth c s₁ [] 0 0 := Stand.of_body Bd
  have e0 : s₁.heap = h0 := by rw [← hh, Bd.state]; rfl
  have N0 := Fr.nil n0
  obtain ⟨E0, hE0⟩ : ∃ z, z = s₁.setTop (entryFrame m #[(.ref t), (.int (0 : Int32)), (.int ch0)] 3) := ⟨_, rfl⟩
  rw [← hE0]
  have go0 : ∀ tgt, Steps p.tables e below (s₁.setTop (mkF m 0 #[(sr t), (si 0), (si ch0)] [])) tgt → Steps p.tables e below E0 tgt := fun tgt kont => by rw [hE0]; exact castTop (ef_PU20 m t (0 : Int32) ch0) kont
  obtain ⟨T1, X1, e1, st1⟩ := getS2 X0 hx hZ hown (host := "") (Or.inl (wd hw 120 rfl)) Via.refl e0 (W0.2.2.2.2.1.ext O0.2) (g := (mkF m 0 #[(sr t), (si 0), (si ch0)] [])) rfl (D d23_0)
  have go1 : Go p e below E0 T1 m 3 #[(sr t), (si 0), (si ch0)] [(.int 1)] := fun tgt kont => go0 tgt (st1 tgt kont)
  have go2 : Go p e below E0 T1 m 38 #[(sr t), (si (((0 : Int32) <<< ((1 : Int32) &&& 31)) + (1 : Int32))), (si ch0)] [(.int ch0), (.int ((0 : Int32) <<< ((1 : Int32) &&& 31))), (.ref t)] := fun tgt kont => go1 tgt (by
    refine XS.ifYes X1.here hx rfl (pc0 := 3) (pc' := 28) rfl (D d23_3) rfl ((if0 _ _).trans (feq (by decide)).2) (by decide) (by decide) ?_; refine XS.iloadN X1.here hx rfl (D d23_28) rfl ?_; refine XS.iconst X1.here hx rfl (D d23_29) ?_; refine XS.ishl X1.here hx rfl (D d23_30) rfl ?_; refine XS.istoreN X1.here hx rfl (D d23_31) rfl (l' := #[(sr t), (si ((0 : Int32) <<< ((1 : Int32) &&& 31))), (si ch0)]) rfl ?_; refine XS.aloadN X1.here hx rfl (D d23_32) rfl rfl ?_; refine XS.iloadN X1.here hx rfl (D d23_33) rfl ?_; refine XS.iinc X1.here hx rfl (D d23_34) rfl (l' := #[(sr t), (si (((0 : Int32) <<< ((1 : Int32) &&& 31)) + (1 : Int32))), (si ch0)]) rfl ?_; refine XS.iloadN X1.here hx rfl (D d23_37) rfl ?_; exact kont)
  obtain ⟨T3, X3, e3, st3⟩ := getS2 X1 hx hZ hown (host := "") (Or.inl (wd hw 121 rfl)) Via.refl e1 (W0.2.2.2.2.2.1.ext O0.2) (g := (mkF m 38 #[(sr t), (si (((0 : Int32) <<< ((1 : Int32) &&& 31)) + (1 : Int32))), (si ch0)] [(.int ch0), (.int ((0 : Int32) <<< ((1 : Int32) &&& 31))), (.ref t)])) rfl (D d23_38)
  have go3 : Go p e below E0 T3 m 41 #[(sr t), (si (((0 : Int32) <<< ((1 : Int32) &&& 31)) + (1 : Int32))), (si ch0)] [(.int 0), (.int ch0), (.int ((0 : Int32) <<< ((1 : Int32) &&& 31))), (.ref t)] := fun tgt kont => go2 tgt (st3 tgt kont)
  have go4 : Go p e below E0 T3 m 43 #[(sr t), (si (((0 : Int32) <<< ((1 : Int32) &&& 31)) + (1 : Int32))), (si ch0)] [(.int ((ch0 >>> ((0 : Int32) &&& 31)).toInt8.toInt32)), (.int ((0 : Int32) <<< ((1 : Int32) &&& 31))), (.ref t)] := fun tgt kont => go3 tgt (by
    refine XS.ishr X3.here hx rfl (D d23_41) rfl ?_; refine XS.i2b X3.here hx rfl (D d23_42) rfl ?_; exact kont)
  have p5 : Arv Z h0 t kb .byte (4 : Int32) [(.int (0 : Int32))] (.int (0 : Int32)) := A0.pad (pad_rep [] (.int (0 : Int32)) 1)
  obtain ⟨c6, Ar6, q6, S6, M6, Hh6, G6⟩ := id p5
  obtain ⟨T6, h6, X6, e6, W6, st6⟩ := stB X3 hx hZ e3 Ar6 (j := ((0 : Int32) <<< ((1 : Int32) &&& 31))) (inb_of S6 ⟨by decide, by decide⟩) (g := (mkF m 43 #[(sr t), (si (((0 : Int32) <<< ((1 : Int32) &&& 31)) + (1 : Int32))), (si ch0)] [(.int ((ch0 >>> ((0 : Int32) &&& 31)).toInt8.toInt32)), (.int ((0 : Int32) <<< ((1 : Int32) &&& 31))), (.ref t)])) rfl rfl (D d23_43)
  have z7 : n0 ≤ h6.size := Nat.le_trans Z0 (Keep.of_wr W6).1
  have K8 : Keep h0 h6 [t] := (Keep.refl h0 [t]).wr W6 (Or.inl (List.mem_of_getElem? (i := 0) rfl))
  have N6 := Fr.snoc X6 N0 gt
  have f9 : Arv Z h6 t kb .byte (4 : Int32) [(.int (nar .byte ((ch0 >>> ((0 : Int32) &&& 31)).toInt8.toInt32)))] (.int (0 : Int32)) := Arv.set Ar6 q6 S6 M6 Hh6 G6 (fits_nar_byte _) W6 0 (by decide) (Nat.le_of_ble_eq_true rfl)
  have go6 : Go p e below E0 T6 m 44 #[(sr t), (si (((0 : Int32) <<< ((1 : Int32) &&& 31)) + (1 : Int32))), (si ch0)] [] := fun tgt kont => go4 tgt (st6 tgt kont)
  have f10 : Old Z n0 h6 := (O0.wr W6 gt)
  have go11 : Go p e below E0 T6 m 47 #[(sr t), (si (((0 : Int32) <<< ((1 : Int32) &&& 31)) + (1 : Int32))), (si ch0)] [(.int ch0), (.int (((0 : Int32) <<< ((1 : Int32) &&& 31)) + (1 : Int32))), (.ref t)] := fun tgt kont => go6 tgt (by
    refine XS.aloadN X6.here hx rfl (D d23_44) rfl rfl ?_; refine XS.iloadN X6.here hx rfl (D d23_45) rfl ?_; refine XS.iloadN X6.here hx rfl (D d23_46) rfl ?_; exact kont)
  obtain ⟨T12, X12, e12, st12⟩ := getS2 X6 hx hZ hown (host := "") (Or.inl (wd hw 122 rfl)) Via.refl e6 (W0.2.2.2.2.2.2.ext f10.2) (g := (mkF m 47 #[(sr t), (si (((0 : Int32) <<< ((1 : Int32) &&& 31)) + (1 : Int32))), (si ch0)] [(.int ch0), (.int (((0 : Int32) <<< ((1 : Int32) &&& 31)) + (1 : Int32))), (.ref t)])) rfl (D d23_47)
  have go12 : Go p e below E0 T12 m 50 #[(sr t), (si (((0 : Int32) <<< ((1 : Int32) &&& 31)) + (1 : Int32))), (si ch0)] [(.int 8), (.int ch0), (.int (((0 : Int32) <<< ((1 : Int32) &&& 31)) + (1 : Int32))), (.ref t)] := fun tgt kont => go11 tgt (st12 tgt kont)
  have go13 : Go p e below E0 T12 m 52 #[(sr t), (si (((0 : Int32) <<< ((1 : Int32) &&& 31)) + (1 : Int32))), (si ch0)] [(.int ((ch0 >>> ((8 : Int32) &&& 31)).toInt8.toInt32)), (.int (((0 : Int32) <<< ((1 : Int32) &&& 31)) + (1 : Int32))), (.ref t)] := fun tgt kont => go12 tgt (by
    refine XS.ishr X12.here hx rfl (D d23_50) rfl ?_; refine XS.i2b X12.here hx rfl (D d23_51) rfl ?_; exact kont)
  have p14 : Arv Z h6 t kb .byte (4 : Int32) [(.int (nar .byte ((ch0 >>> ((0 : Int32) &&& 31)).toInt8.toInt32))), (.int (0 : Int32))] (.int (0 : Int32)) := f9.pad (pad_rep [(.int (nar .byte ((ch0 >>> ((0 : Int32) &&& 31)).toInt8.toInt32)))] (.int (0 : Int32)) 1)
  obtain ⟨c15, Ar15, q15, S15, M15, Hh15, G15⟩ := id p14
  obtain ⟨T15, h15, X15, e15, W15, st15⟩ := stB X12 hx hZ e12 Ar15 (j := (((0 : Int32) <<< ((1 : Int32) &&& 31)) + (1 : Int32))) (inb_of S15 ⟨by decide, by decide⟩) (g := (mkF m 52 #[(sr t), (si (((0 : Int32) <<< ((1 : Int32) &&& 31)) + (1 : Int32))), (si ch0)] [(.int ((ch0 >>> ((8 : Int32) &&& 31)).toInt8.toInt32)), (.int (((0 : Int32) <<< ((1 : Int32) &&& 31)) + (1 : Int32))), (.ref t)])) rfl rfl (D d23_52)
  have z16 : n0 ≤ h15.size := Nat.le_trans z7 (Keep.of_wr W15).1
  have K17 : Keep h0 h15 [t] := K8.wr W15 (Or.inl (List.mem_of_getElem? (i := 0) rfl))
  have N15 := Fr.snoc X15 N6 gt
  have f18 : Arv Z h15 t kb .byte (4 : Int32) [(.int (nar .byte ((ch0 >>> ((0 : Int32) &&& 31)).toInt8.toInt32))), (.int (nar .byte ((ch0 >>> ((8 : Int32) &&& 31)).toInt8.toInt32)))] (.int (0 : Int32)) := Arv.set Ar15 q15 S15 M15 Hh15 G15 (fits_nar_byte _) W15 1 (by decide) (Nat.le_of_ble_eq_true rfl)
  have go15 : Go p e below E0 T15 m 53 #[(sr t), (si (((0 : Int32) <<< ((1 : Int32) &&& 31)) + (1 : Int32))), (si ch0)] [] := fun tgt kont => go13 tgt (st15 tgt kont)
  obtain ⟨fs, hr, hrun, hended, hW, hsame⟩ := X15.leave (v := none) (fun _ => rfl)
  refine ⟨_, _, go15 _ ?_, hrun, hended, _, _, rfl, ?_, ⟨_, rfl⟩, hW, hsame.mono (by decide) (by decide)⟩
  · show Steps p.tables e below (T15.setTop (mkF m 53 #[(sr t), (si (((0 : Int32) <<< ((1 : Int32) &&& 31)) + (1 : Int32))), (si ch0)] [])) _
    exact X15.returnOut hx Bd.returns (D d23_53) hr
  · show QPU20 Z t kb ch0 G fv h0 n0 _ T15.heap _
    rw [e15]
    exact ⟨rfl, N15, K17, f18⟩
theorem ef_PU21 (m : MethodId) (x0 : Addr) (x1 : Int32) (x2 : Int32) : entryFrame m #[(.ref x0), (.int x1), (.int x2)] 3 = mkF m 0 #[.val (.ref x0), .val (.int x1), .val (.int x2)] [] := by first | (simp [entryFrame, mkF, argsToLocals, Value.category, maxLocals]; done) | rfl
def QPU21 (Z : State) (t : Addr) (kb : ClassId) (ch0 : Int32) (ch1 : Int32) (G : Int32) (fv : Value) (h0 : Heap) (n0 : Nat) (v : Option Value) (h : Heap) (L : List Loc) : Prop := v = none ∧ Fr n0 L ∧ Keep h0 h [t] ∧ Arv Z h t kb .byte (4 : Int32) [(.int (own_b0 ch0)), (.int (own_b1 ch0)), (.int (own_b0 ch1)), (.int (own_b1 ch1))] (.int (0 : Int32))
abbrev RmPU21 : Room := ({ frames := 0, cells := 0, slots := 0, locals := 0 } : Room)
set_option maxRecDepth 65536 in
set_option maxHeartbeats 40000000 in
theorem rmPU21 (l : Launch) (Z : State) (a0 : Array Value) (hw : ∀ d ∈ tables_1, d.before a0 Z = true) (ws : List Jvm.Cond) (t : Addr) (kb : ClassId) (ch0 : Int32) (ch1 : Int32) (G : Int32) (fv : Value) (h0 : Heap) (n0 : Nat) (Z0 : n0 ≤ h0.size) (A0 : Arv Z h0 t kb .byte (4 : Int32) [(.int (own_b0 ch0)), (.int (own_b1 ch0))] (.int (0 : Int32))) (gt : n0 ≤ t) (W0 : own_W Z G fv) (O0 : Old Z n0 h0) :
    MetFree l (⟨"java/lang/StringUTF16", "putChar", "([BII)V"⟩ : MethodName) (head1 (Jvm.Cond.code (⟨"java/lang/StringUTF16", "putChar", "([BII)V"⟩ : MethodName) jdk_52_method_4_code 3 none :: ws) RmPU21) (fun as_ U => as_ = #[(.ref t), (.int (1 : Int32)), (.int ch1)] ∧ Z.Warmed39 U.vm ∧ U.heap = h0) (fun _ _ _ _ _ => True) (fun _ U o U' => ∃ v L, o = .returned v ∧ QPU21 Z t kb ch0 ch1 G fv h0 n0 v U'.heap L ∧ FrameEnd U o U' L RmPU21.cells RmPU21.slots) := by
  refine MetFree.of_bodySF (plainFor_of_name pn_5) hisR ?_
  intro p e s m args below meth c s₁ Bd hml0 hP hK
  obtain ⟨rfl, hZ, hh⟩ := hP
  have hx := Bd.exec
  have hby := Bd.bytes
  have D : ∀ {pc : Nat} {r : Except DecodeError (Instr × Nat)}, decode jdk_52_method_4_code pc = r → decode c.code pc = r := fun q => hb hby q
  have hml : c.maxLocals = 3 := hml0
  have hown : s.vm.findClass "java/lang/StringUTF16" = some m.cls := findClass_of_methodNamed Bd.named
  have hnm := (name_of_methodNamed Bd.named Bd.method).1
  have X0 : Stand p l e RmPU21 s m #[(.ref t), (.int (1 : Int32)), (.int ch1)] below meth c s₁ [] 0 0 := Stand.of_body Bd
  have e0 : s₁.heap = h0 := by rw [← hh, Bd.state]; rfl
  have N0 := Fr.nil n0
  obtain ⟨E0, hE0⟩ : ∃ z, z = s₁.setTop (entryFrame m #[(.ref t), (.int (1 : Int32)), (.int ch1)] 3) := ⟨_, rfl⟩
  rw [← hE0]
  have go0 : ∀ tgt, Steps p.tables e below (s₁.setTop (mkF m 0 #[(sr t), (si 1), (si ch1)] [])) tgt → Steps p.tables e below E0 tgt := fun tgt kont => by rw [hE0]; exact castTop (ef_PU21 m t (1 : Int32) ch1) kont
  obtain ⟨T1, X1, e1, st1⟩ := getS2 X0 hx hZ hown (host := "") (Or.inl (wd hw 120 rfl)) Via.refl e0 (W0.2.2.2.2.1.ext O0.2) (g := (mkF m 0 #[(sr t), (si 1), (si ch1)] [])) rfl (D d23_0)
  have go1 : Go p e below E0 T1 m 3 #[(sr t), (si 1), (si ch1)] [(.int 1)] := fun tgt kont => go0 tgt (st1 tgt kont)
  have go2 : Go p e below E0 T1 m 38 #[(sr t), (si (((1 : Int32) <<< ((1 : Int32) &&& 31)) + (1 : Int32))), (si ch1)] [(.int ch1), (.int ((1 : Int32) <<< ((1 : Int32) &&& 31))), (.ref t)] := fun tgt kont => go1 tgt (by
    refine XS.ifYes X1.here hx rfl (pc0 := 3) (pc' := 28) rfl (D d23_3) rfl ((if0 _ _).trans (feq (by decide)).2) (by decide) (by decide) ?_; refine XS.iloadN X1.here hx rfl (D d23_28) rfl ?_; refine XS.iconst X1.here hx rfl (D d23_29) ?_; refine XS.ishl X1.here hx rfl (D d23_30) rfl ?_; refine XS.istoreN X1.here hx rfl (D d23_31) rfl (l' := #[(sr t), (si ((1 : Int32) <<< ((1 : Int32) &&& 31))), (si ch1)]) rfl ?_; refine XS.aloadN X1.here hx rfl (D d23_32) rfl rfl ?_; refine XS.iloadN X1.here hx rfl (D d23_33) rfl ?_; refine XS.iinc X1.here hx rfl (D d23_34) rfl (l' := #[(sr t), (si (((1 : Int32) <<< ((1 : Int32) &&& 31)) + (1 : Int32))), (si ch1)]) rfl ?_; refine XS.iloadN X1.here hx rfl (D d23_37) rfl ?_; exact kont)
  obtain ⟨T3, X3, e3, st3⟩ := getS2 X1 hx hZ hown (host := "") (Or.inl (wd hw 121 rfl)) Via.refl e1 (W0.2.2.2.2.2.1.ext O0.2) (g := (mkF m 38 #[(sr t), (si (((1 : Int32) <<< ((1 : Int32) &&& 31)) + (1 : Int32))), (si ch1)] [(.int ch1), (.int ((1 : Int32) <<< ((1 : Int32) &&& 31))), (.ref t)])) rfl (D d23_38)
  have go3 : Go p e below E0 T3 m 41 #[(sr t), (si (((1 : Int32) <<< ((1 : Int32) &&& 31)) + (1 : Int32))), (si ch1)] [(.int 0), (.int ch1), (.int ((1 : Int32) <<< ((1 : Int32) &&& 31))), (.ref t)] := fun tgt kont => go2 tgt (st3 tgt kont)
  have go4 : Go p e below E0 T3 m 43 #[(sr t), (si (((1 : Int32) <<< ((1 : Int32) &&& 31)) + (1 : Int32))), (si ch1)] [(.int ((ch1 >>> ((0 : Int32) &&& 31)).toInt8.toInt32)), (.int ((1 : Int32) <<< ((1 : Int32) &&& 31))), (.ref t)] := fun tgt kont => go3 tgt (by
    refine XS.ishr X3.here hx rfl (D d23_41) rfl ?_; refine XS.i2b X3.here hx rfl (D d23_42) rfl ?_; exact kont)
  have p5 : Arv Z h0 t kb .byte (4 : Int32) [(.int (own_b0 ch0)), (.int (own_b1 ch0)), (.int (0 : Int32))] (.int (0 : Int32)) := A0.pad (pad_rep [(.int (own_b0 ch0)), (.int (own_b1 ch0))] (.int (0 : Int32)) 1)
  obtain ⟨c6, Ar6, q6, S6, M6, Hh6, G6⟩ := id p5
  obtain ⟨T6, h6, X6, e6, W6, st6⟩ := stB X3 hx hZ e3 Ar6 (j := ((1 : Int32) <<< ((1 : Int32) &&& 31))) (inb_of S6 ⟨by decide, by decide⟩) (g := (mkF m 43 #[(sr t), (si (((1 : Int32) <<< ((1 : Int32) &&& 31)) + (1 : Int32))), (si ch1)] [(.int ((ch1 >>> ((0 : Int32) &&& 31)).toInt8.toInt32)), (.int ((1 : Int32) <<< ((1 : Int32) &&& 31))), (.ref t)])) rfl rfl (D d23_43)
  have z7 : n0 ≤ h6.size := Nat.le_trans Z0 (Keep.of_wr W6).1
  have K8 : Keep h0 h6 [t] := (Keep.refl h0 [t]).wr W6 (Or.inl (List.mem_of_getElem? (i := 0) rfl))
  have N6 := Fr.snoc X6 N0 gt
  have f9 : Arv Z h6 t kb .byte (4 : Int32) [(.int (own_b0 ch0)), (.int (own_b1 ch0)), (.int (nar .byte ((ch1 >>> ((0 : Int32) &&& 31)).toInt8.toInt32)))] (.int (0 : Int32)) := Arv.set Ar6 q6 S6 M6 Hh6 G6 (fits_nar_byte _) W6 2 (by decide) (Nat.le_of_ble_eq_true rfl)
  have go6 : Go p e below E0 T6 m 44 #[(sr t), (si (((1 : Int32) <<< ((1 : Int32) &&& 31)) + (1 : Int32))), (si ch1)] [] := fun tgt kont => go4 tgt (st6 tgt kont)
  have f10 : Old Z n0 h6 := (O0.wr W6 gt)
  have go11 : Go p e below E0 T6 m 47 #[(sr t), (si (((1 : Int32) <<< ((1 : Int32) &&& 31)) + (1 : Int32))), (si ch1)] [(.int ch1), (.int (((1 : Int32) <<< ((1 : Int32) &&& 31)) + (1 : Int32))), (.ref t)] := fun tgt kont => go6 tgt (by
    refine XS.aloadN X6.here hx rfl (D d23_44) rfl rfl ?_; refine XS.iloadN X6.here hx rfl (D d23_45) rfl ?_; refine XS.iloadN X6.here hx rfl (D d23_46) rfl ?_; exact kont)
  obtain ⟨T12, X12, e12, st12⟩ := getS2 X6 hx hZ hown (host := "") (Or.inl (wd hw 122 rfl)) Via.refl e6 (W0.2.2.2.2.2.2.ext f10.2) (g := (mkF m 47 #[(sr t), (si (((1 : Int32) <<< ((1 : Int32) &&& 31)) + (1 : Int32))), (si ch1)] [(.int ch1), (.int (((1 : Int32) <<< ((1 : Int32) &&& 31)) + (1 : Int32))), (.ref t)])) rfl (D d23_47)
  have go12 : Go p e below E0 T12 m 50 #[(sr t), (si (((1 : Int32) <<< ((1 : Int32) &&& 31)) + (1 : Int32))), (si ch1)] [(.int 8), (.int ch1), (.int (((1 : Int32) <<< ((1 : Int32) &&& 31)) + (1 : Int32))), (.ref t)] := fun tgt kont => go11 tgt (st12 tgt kont)
  have go13 : Go p e below E0 T12 m 52 #[(sr t), (si (((1 : Int32) <<< ((1 : Int32) &&& 31)) + (1 : Int32))), (si ch1)] [(.int ((ch1 >>> ((8 : Int32) &&& 31)).toInt8.toInt32)), (.int (((1 : Int32) <<< ((1 : Int32) &&& 31)) + (1 : Int32))), (.ref t)] := fun tgt kont => go12 tgt (by
    refine XS.ishr X12.here hx rfl (D d23_50) rfl ?_; refine XS.i2b X12.here hx rfl (D d23_51) rfl ?_; exact kont)
  have p14 : Arv Z h6 t kb .byte (4 : Int32) [(.int (own_b0 ch0)), (.int (own_b1 ch0)), (.int (nar .byte ((ch1 >>> ((0 : Int32) &&& 31)).toInt8.toInt32))), (.int (0 : Int32))] (.int (0 : Int32)) := f9.pad (pad_rep [(.int (own_b0 ch0)), (.int (own_b1 ch0)), (.int (nar .byte ((ch1 >>> ((0 : Int32) &&& 31)).toInt8.toInt32)))] (.int (0 : Int32)) 1)
  obtain ⟨c15, Ar15, q15, S15, M15, Hh15, G15⟩ := id p14
  obtain ⟨T15, h15, X15, e15, W15, st15⟩ := stB X12 hx hZ e12 Ar15 (j := (((1 : Int32) <<< ((1 : Int32) &&& 31)) + (1 : Int32))) (inb_of S15 ⟨by decide, by decide⟩) (g := (mkF m 52 #[(sr t), (si (((1 : Int32) <<< ((1 : Int32) &&& 31)) + (1 : Int32))), (si ch1)] [(.int ((ch1 >>> ((8 : Int32) &&& 31)).toInt8.toInt32)), (.int (((1 : Int32) <<< ((1 : Int32) &&& 31)) + (1 : Int32))), (.ref t)])) rfl rfl (D d23_52)
  have z16 : n0 ≤ h15.size := Nat.le_trans z7 (Keep.of_wr W15).1
  have K17 : Keep h0 h15 [t] := K8.wr W15 (Or.inl (List.mem_of_getElem? (i := 0) rfl))
  have N15 := Fr.snoc X15 N6 gt
  have f18 : Arv Z h15 t kb .byte (4 : Int32) [(.int (own_b0 ch0)), (.int (own_b1 ch0)), (.int (nar .byte ((ch1 >>> ((0 : Int32) &&& 31)).toInt8.toInt32))), (.int (nar .byte ((ch1 >>> ((8 : Int32) &&& 31)).toInt8.toInt32)))] (.int (0 : Int32)) := Arv.set Ar15 q15 S15 M15 Hh15 G15 (fits_nar_byte _) W15 3 (by decide) (Nat.le_of_ble_eq_true rfl)
  have go15 : Go p e below E0 T15 m 53 #[(sr t), (si (((1 : Int32) <<< ((1 : Int32) &&& 31)) + (1 : Int32))), (si ch1)] [] := fun tgt kont => go13 tgt (st15 tgt kont)
  obtain ⟨fs, hr, hrun, hended, hW, hsame⟩ := X15.leave (v := none) (fun _ => rfl)
  refine ⟨_, _, go15 _ ?_, hrun, hended, _, _, rfl, ?_, ⟨_, rfl⟩, hW, hsame.mono (by decide) (by decide)⟩
  · show Steps p.tables e below (T15.setTop (mkF m 53 #[(sr t), (si (((1 : Int32) <<< ((1 : Int32) &&& 31)) + (1 : Int32))), (si ch1)] [])) _
    exact X15.returnOut hx Bd.returns (D d23_53) hr
  · show QPU21 Z t kb ch0 ch1 G fv h0 n0 _ T15.heap _
    rw [e15]
    exact ⟨rfl, N15, K17, f18⟩
theorem ef_TB2 (m : MethodId) (x0 : Addr) (x1 : Int32) (x2 : Int32) : entryFrame m #[(.ref x0), (.int x1), (.int x2)] 5 = mkF m 0 #[.val (.ref x0), .val (.int x1), .val (.int x2), .unset, .unset] [] := by first | (simp [entryFrame, mkF, argsToLocals, Value.category, maxLocals]; done) | rfl
def QTB2 (Z : State) (ca : Addr) (kc : ClassId) (ch0 : Int32) (ch1 : Int32) (G : Int32) (fv : Value) (h0 : Heap) (n0 : Nat) (v : Option Value) (h : Heap) (L : List Loc) : Prop := ∃ kb : ClassId, v = some (.ref h0.size) ∧ Fr n0 L ∧ Keep h0 h [] ∧ Arv Z h h0.size kb .byte (4 : Int32) [(.int (own_b0 ch0)), (.int (own_b1 ch0)), (.int (own_b0 ch1)), (.int (own_b1 ch1))] (.int (0 : Int32))
abbrev RmTB2 : Room := ({ frames := 2, cells := 1, slots := 4, locals := 24 } : Room)
set_option maxRecDepth 65536 in
set_option maxHeartbeats 40000000 in
theorem rmTB2 (l : Launch) (Z : State) (a0 : Array Value) (hw : ∀ d ∈ tables_1, d.before a0 Z = true) (ws : List Jvm.Cond) (ca : Addr) (kc : ClassId) (ch0 : Int32) (ch1 : Int32) (G : Int32) (fv : Value) (h0 : Heap) (n0 : Nat) (Z0 : n0 ≤ h0.size) (Ac : Arv Z h0 ca kc .char (2 : Int32) [(.int ch0), (.int ch1)] (.int (0 : Int32))) (W0 : own_W Z G fv) (O0 : Old Z n0 h0) :
    MetFree l (⟨"java/lang/StringUTF16", "toBytes", "([CII)[B"⟩ : MethodName) (head1 (Jvm.Cond.code (⟨"java/lang/StringUTF16", "toBytes", "([CII)[B"⟩ : MethodName) jdk_52_method_14_code 5 (some (.array .byte)) :: ws) RmTB2) (fun as_ U => as_ = #[(.ref ca), (.int (0 : Int32)), (.int (2 : Int32))] ∧ Z.Warmed39 U.vm ∧ U.heap = h0) (fun _ _ _ _ _ => True) (fun _ U o U' => ∃ v L, o = .returned v ∧ QTB2 Z ca kc ch0 ch1 G fv h0 n0 v U'.heap L ∧ FrameEnd U o U' L RmTB2.cells RmTB2.slots) := by
  refine MetFree.of_bodySF (plainFor_of_name pn_5) hisR ?_
  intro p e s m args below meth c s₁ Bd hml0 hP hK
  obtain ⟨rfl, hZ, hh⟩ := hP
  have hx := Bd.exec
  have hby := Bd.bytes
  have D : ∀ {pc : Nat} {r : Except DecodeError (Instr × Nat)}, decode jdk_52_method_14_code pc = r → decode c.code pc = r := fun q => hb hby q
  have hml : c.maxLocals = 5 := hml0
  have hown : s.vm.findClass "java/lang/StringUTF16" = some m.cls := findClass_of_methodNamed Bd.named
  have hnm := (name_of_methodNamed Bd.named Bd.method).1
  have X0 : Stand p l e RmTB2 s m #[(.ref ca), (.int (0 : Int32)), (.int (2 : Int32))] below meth c s₁ [] 0 0 := Stand.of_body Bd
  have e0 : s₁.heap = h0 := by rw [← hh, Bd.state]; rfl
  have N0 := Fr.nil n0
  obtain ⟨E0, hE0⟩ : ∃ z, z = s₁.setTop (entryFrame m #[(.ref ca), (.int (0 : Int32)), (.int (2 : Int32))] 5) := ⟨_, rfl⟩
  rw [← hE0]
  have go0 : ∀ tgt, Steps p.tables e below (s₁.setTop (mkF m 0 #[(sr ca), (si 0), (si 2), .unset, .unset] [])) tgt → Steps p.tables e below E0 tgt := fun tgt kont => by rw [hE0]; exact castTop (ef_TB2 m ca (0 : Int32) (2 : Int32)) kont
  have go1 : Go p e below E0 s₁ m 1 #[(sr ca), (si 0), (si 2), .unset, .unset] [(.int 2)] := fun tgt kont => go0 tgt (by
    refine XS.iloadN X0.here hx rfl (D d24_0) rfl ?_; exact kont)
  obtain ⟨_, _, ⟨T2, L2, k2, n2⟩, -, X2, ⟨Lc2, hQ2, l2, y2, z2⟩, st2⟩ := Jvm.LawKit.callS X0 hx (y := (⟨"java/lang/StringUTF16", "newBytesFor", "(I)[B"⟩ : MethodName)) hown (mvT hZ (wd hw 110 rfl)) (mvT hZ (wd hw 111 rfl)) (mvT hZ (wd hw 45 rfl)) (mvT hZ (wd hw 112 rfl)) (by decide) (backOf (W := 0) (rmNF2 l Z a0 hw []  h0 n0 Z0 ) hZ (wd hw 112 rfl) (wd hw 45 rfl) (by decide) (by decide)) (g := (mkF m 1 #[(sr ca), (si 0), (si 2), .unset, .unset] [(.int 2)])) rfl (by rw [hml]; rfl) (argsL := [(.int (2 : Int32))]) (rest := []) (lenOf pd_17 rfl) rfl (by show 2 * 0 + _ ≤ _; exact Nat.le_of_eq rfl) (D d24_1) (fun _ _ => ⟨rfl, e0, (by decide : 0 + 1 ≤ _), (by decide : 0 + 4 ≤ _)⟩)
  dsimp only [Pt.U, Pt.locs, Pt.cells, Pt.slots] at X2 l2 y2 z2 st2 hQ2
  subst l2 y2 z2
  obtain ⟨kb, rfl, N2q, K1, A1⟩ := hQ2
  have N2 := Fr.app N0 N2q
  obtain ⟨t, g2⟩ : ∃ z, z = h0.size := ⟨_, rfl⟩
  rw [← g2] at st2 A1
  have ne_ca_t : ca ≠ t := Nat.ne_of_lt (Nat.lt_of_lt_of_le Ac.lt (Nat.le_of_eq g2.symm))
  have ge_t : n0 ≤ t := Nat.le_trans Z0 (Nat.le_of_eq g2.symm)
  have hz_t : h0.size ≤ t := Nat.le_trans (Keep.refl h0 []).1 (Nat.le_of_eq g2.symm)
  have z3 : n0 ≤ T2.heap.size := Nat.le_trans Z0 K1.1
  have K4 : Keep h0 T2.heap [] := (Keep.refl h0 []).trans K1 all0
  have go2 : Go p e below E0 T2 m 4 #[(sr ca), (si 0), (si 2), .unset, .unset] [(.ref t)] := fun tgt kont => go1 tgt (st2 tgt kont)
  have go5 : Go p e below E0 T2 m 19 #[(sr ca), (si 0), (si 2), (sr t), (si 0)] [(.int 0), (.ref ca), (.int 0), (.ref t)] := fun tgt kont => go2 tgt (by
    refine XS.astoreN X2.here hx rfl (D d24_4) rfl rfl (l' := #[(sr ca), (si 0), (si 2), (sr t), .unset]) rfl ?_; refine XS.iconst X2.here hx rfl (D d24_5) ?_; refine XS.istore X2.here hx rfl (D d24_6) rfl (l' := #[(sr ca), (si 0), (si 2), (sr t), (si 0)]) rfl ?_; refine XS.iload X2.here hx rfl (D d24_8) rfl ?_; refine XS.iloadN X2.here hx rfl (D d24_10) rfl ?_; refine XS.icmpNo X2.here hx rfl (D d24_11) rfl (tlt (by decide)).2.1 ?_; refine XS.aloadN X2.here hx rfl (D d24_14) rfl rfl ?_; refine XS.iload X2.here hx rfl (D d24_15) rfl ?_; refine XS.aloadN X2.here hx rfl (D d24_17) rfl rfl ?_; refine XS.iloadN X2.here hx rfl (D d24_18) rfl ?_; exact kont)
  have f6 : Arv Z T2.heap ca kc .char (2 : Int32) [(.int ch0), (.int ch1)] (.int (0 : Int32)) := (Ac.keep K1 nin0)
  obtain ⟨c7, Ar7, q7, S7, M7, Hh7, G7⟩ := id f6
  have hin7 : ¬ ((0 : Int32) < 0 ∨ c7.slots.size ≤ ((0 : Int32)).toNatClampNeg) := inb_of S7 ⟨by decide, by decide⟩
  have hat7 : c7.slots[((0 : Int32)).toNatClampNeg]? = some (.int ch0) := Hh7.at hin7 rfl
  have f8 : Old Z n0 T2.heap := (O0.keep K1 all0)
  have go9 : Go p e below E0 T2 m 20 #[(sr ca), (si 0), (si 2), (sr t), (si 0)] [(.int ch0), (.int 0), (.ref t)] := fun tgt kont => go5 tgt (by
    refine X2.caload hx (j := (0 : Int32)) (v := (.int ch0)) Ar7.1 (State.isArrayOf_alike hZ.alike Ar7.2.1) Ar7.2.2 hin7 hat7 (g := (mkF m 19 #[(sr ca), (si 0), (si 2), (sr t), (si 0)] [(.int 0), (.ref ca), (.int 0), (.ref t)])) rfl rfl (D d24_19) _ ?_; exact kont)
  obtain ⟨_, _, ⟨T10, L10, k10, n10⟩, -, X10, ⟨Lc10, hQ10, l10, y10, z10⟩, st10⟩ := Jvm.LawKit.callS X2 hx (y := (⟨"java/lang/StringUTF16", "putChar", "([BII)V"⟩ : MethodName)) hown (mvT hZ (wd hw 117 rfl)) (mvT hZ (wd hw 118 rfl)) (mvT hZ (wd hw 45 rfl)) (mvT hZ (wd hw 119 rfl)) (by decide) (backOf (W := 0) (rmPU20 l Z a0 hw [] t kb ch0 G fv T2.heap n0 z3 A1 ge_t W0 f8) hZ (wd hw 119 rfl) (wd hw 45 rfl) (by decide) (by decide)) (g := (mkF m 20 #[(sr ca), (si 0), (si 2), (sr t), (si 0)] [(.int ch0), (.int 0), (.ref t)])) rfl (by rw [hml]; rfl) (argsL := [(.ref t), (.int (0 : Int32)), (.int ch0)]) (rest := []) (lenOf pd_18 rfl) rfl (by show 2 * 0 + _ ≤ _; exact Nat.le_of_eq rfl) (D d24_20) (fun _ _ => ⟨rfl, rfl, (by decide : 1 + 0 ≤ _), (by decide : 4 + 0 ≤ _)⟩)
  dsimp only [Pt.U, Pt.locs, Pt.cells, Pt.slots] at X10 l10 y10 z10 st10 hQ10
  subst l10 y10 z10
  obtain ⟨rfl, N10q, Kp0, Ap0⟩ := hQ10
  have N10 := Fr.app N2 N10q
  have z11 : n0 ≤ T10.heap.size := Nat.le_trans z3 Kp0.1
  have K12 : Keep h0 T10.heap [] := K4.trans Kp0 (allS (Or.inr hz_t) all0)
  have go10 : Go p e below E0 T10 m 23 #[(sr ca), (si 0), (si 2), (sr t), (si 0)] [] := fun tgt kont => go9 tgt (st10 tgt kont)
  have go13 : Go p e below E0 T10 m 19 #[(sr ca), (si 1), (si 2), (sr t), (si 1)] [(.int 1), (.ref ca), (.int 1), (.ref t)] := fun tgt kont => go10 tgt (by
    refine XS.iinc X10.here hx rfl (D d24_23) rfl (l' := #[(sr ca), (si 1), (si 2), (sr t), (si 0)]) rfl ?_; refine XS.iinc X10.here hx rfl (D d24_26) rfl (l' := #[(sr ca), (si 1), (si 2), (sr t), (si 1)]) rfl ?_; refine XS.goto X10.here hx rfl (pc0 := 29) (pc' := 8) rfl (D d24_29) (by decide) (by decide) ?_; refine XS.iload X10.here hx rfl (D d24_8) rfl ?_; refine XS.iloadN X10.here hx rfl (D d24_10) rfl ?_; refine XS.icmpNo X10.here hx rfl (D d24_11) rfl (tlt (by decide)).2.1 ?_; refine XS.aloadN X10.here hx rfl (D d24_14) rfl rfl ?_; refine XS.iload X10.here hx rfl (D d24_15) rfl ?_; refine XS.aloadN X10.here hx rfl (D d24_17) rfl rfl ?_; refine XS.iloadN X10.here hx rfl (D d24_18) rfl ?_; exact kont)
  have f14 : Arv Z T10.heap ca kc .char (2 : Int32) [(.int ch0), (.int ch1)] (.int (0 : Int32)) := (f6.keep Kp0 (ninS ne_ca_t nin0))
  obtain ⟨c15, Ar15, q15, S15, M15, Hh15, G15⟩ := id f14
  have hin15 : ¬ ((1 : Int32) < 0 ∨ c15.slots.size ≤ ((1 : Int32)).toNatClampNeg) := inb_of S15 ⟨by decide, by decide⟩
  have hat15 : c15.slots[((1 : Int32)).toNatClampNeg]? = some (.int ch1) := Hh15.at hin15 rfl
  have f16 : Old Z n0 T10.heap := (f8.keep Kp0 (allS ge_t all0))
  have go17 : Go p e below E0 T10 m 20 #[(sr ca), (si 1), (si 2), (sr t), (si 1)] [(.int ch1), (.int 1), (.ref t)] := fun tgt kont => go13 tgt (by
    refine X10.caload hx (j := (1 : Int32)) (v := (.int ch1)) Ar15.1 (State.isArrayOf_alike hZ.alike Ar15.2.1) Ar15.2.2 hin15 hat15 (g := (mkF m 19 #[(sr ca), (si 1), (si 2), (sr t), (si 1)] [(.int 1), (.ref ca), (.int 1), (.ref t)])) rfl rfl (D d24_19) _ ?_; exact kont)
  obtain ⟨_, _, ⟨T18, L18, k18, n18⟩, -, X18, ⟨Lc18, hQ18, l18, y18, z18⟩, st18⟩ := Jvm.LawKit.callS X10 hx (y := (⟨"java/lang/StringUTF16", "putChar", "([BII)V"⟩ : MethodName)) hown (mvT hZ (wd hw 117 rfl)) (mvT hZ (wd hw 118 rfl)) (mvT hZ (wd hw 45 rfl)) (mvT hZ (wd hw 119 rfl)) (by decide) (backOf (W := 0) (rmPU21 l Z a0 hw [] t kb ch0 ch1 G fv T10.heap n0 z11 Ap0 ge_t W0 f16) hZ (wd hw 119 rfl) (wd hw 45 rfl) (by decide) (by decide)) (g := (mkF m 20 #[(sr ca), (si 1), (si 2), (sr t), (si 1)] [(.int ch1), (.int 1), (.ref t)])) rfl (by rw [hml]; rfl) (argsL := [(.ref t), (.int (1 : Int32)), (.int ch1)]) (rest := []) (lenOf pd_18 rfl) rfl (by show 2 * 0 + _ ≤ _; exact Nat.le_of_eq rfl) (D d24_20) (fun _ _ => ⟨rfl, rfl, (by decide : 1 + 0 ≤ _), (by decide : 4 + 0 ≤ _)⟩)
  dsimp only [Pt.U, Pt.locs, Pt.cells, Pt.slots] at X18 l18 y18 z18 st18 hQ18
  subst l18 y18 z18
  obtain ⟨rfl, N18q, Kp1, Ap1⟩ := hQ18
  have N18 := Fr.app N10 N18q
  have z19 : n0 ≤ T18.heap.size := Nat.le_trans z11 Kp1.1
  have K20 : Keep h0 T18.heap [] := K12.trans Kp1 (allS (Or.inr hz_t) all0)
  have go18 : Go p e below E0 T18 m 23 #[(sr ca), (si 1), (si 2), (sr t), (si 1)] [] := fun tgt kont => go17 tgt (st18 tgt kont)
  have go21 : Go p e below E0 T18 m 33 #[(sr ca), (si 2), (si 2), (sr t), (si 2)] [(.ref t)] := fun tgt kont => go18 tgt (by
    refine XS.iinc X18.here hx rfl (D d24_23) rfl (l' := #[(sr ca), (si 2), (si 2), (sr t), (si 1)]) rfl ?_; refine XS.iinc X18.here hx rfl (D d24_26) rfl (l' := #[(sr ca), (si 2), (si 2), (sr t), (si 2)]) rfl ?_; refine XS.goto X18.here hx rfl (pc0 := 29) (pc' := 8) rfl (D d24_29) (by decide) (by decide) ?_; refine XS.iload X18.here hx rfl (D d24_8) rfl ?_; refine XS.iloadN X18.here hx rfl (D d24_10) rfl ?_; refine XS.icmpYes X18.here hx rfl (pc0 := 11) (pc' := 32) rfl (D d24_11) rfl (flt (by decide)).2.1 (by decide) (by decide) ?_; refine XS.aloadN X18.here hx rfl (D d24_32) rfl rfl ?_; exact kont)
  subst g2
  obtain ⟨fs, hr, hrun, hended, hW, hsame⟩ := X18.leave (v := some (.ref h0.size)) (fun h => by rw [Bd.returns] at h; cases h)
  refine ⟨_, _, go21 _ ?_, hrun, hended, _, _, rfl, ?_, ⟨_, rfl⟩, hW, hsame.mono (by decide) (by decide)⟩
  · show Steps p.tables e below (T18.setTop (mkF m 33 #[(sr ca), (si 2), (si 2), (sr h0.size), (si 2)] [(.ref h0.size)])) _
    exact retOut X18 hx Bd.returns rfl (Or.inr (Or.inr (Or.inr (Or.inr ⟨rfl, rfl, rfl⟩)))) (D d24_33) hr
  · show QTB2 Z ca kc ch0 ch1 G fv h0 n0 _ T18.heap _
    exact ⟨_, rfl, N18, K20, Ap1⟩
theorem ef_CM2 (m : MethodId) (x0 : Addr) (x1 : Int32) (x2 : Addr) (x3 : Int32) (x4 : Int32) : entryFrame m #[(.ref x0), (.int x1), (.ref x2), (.int x3), (.int x4)] 7 = mkF m 0 #[.val (.ref x0), .val (.int x1), .val (.ref x2), .val (.int x3), .val (.int x4), .unset, .unset] [] := by first | (simp [entryFrame, mkF, argsToLocals, Value.category, maxLocals]; done) | rfl
def QCM2 (Z : State) (ca : Addr) (kc : ClassId) (ba : Addr) (kb : ClassId) (ch0 : Int32) (ch1 : Int32) (h0 : Heap) (n0 : Nat) (v : Option Value) (h : Heap) (L : List Loc) : Prop := ∃ r : Int32, v = some (.int r) ∧ Fr n0 L ∧ Keep h0 h [ba] ∧ ((r = (2 : Int32) ∧ (¬ (255 : Int32) < ch0 ∧ ¬ (255 : Int32) < ch1) ∧ Arv Z h ba kb .byte (2 : Int32) [(.int (own_lo ch0)), (.int (own_lo ch1))] (.int (0 : Int32))) ∨ (r = (0 : Int32) ∧ (255 : Int32) < ch0) ∨ (r = (1 : Int32) ∧ (255 : Int32) < ch1))
abbrev RmCM2 : Room := ({ frames := 0, cells := 0, slots := 0, locals := 0 } : Room)
set_option maxRecDepth 65536 in
set_option maxHeartbeats 40000000 in
theorem rmCM2 (l : Launch) (Z : State) (a0 : Array Value) (hw : ∀ d ∈ tables_1, d.before a0 Z = true) (ws : List Jvm.Cond) (ca : Addr) (kc : ClassId) (ba : Addr) (kb : ClassId) (ch0 : Int32) (ch1 : Int32) (h0 : Heap) (n0 : Nat) (Z0 : n0 ≤ h0.size) (Ac : Arv Z h0 ca kc .char (2 : Int32) [(.int ch0), (.int ch1)] (.int (0 : Int32))) (A0 : Arv Z h0 ba kb .byte (2 : Int32) [] (.int (0 : Int32))) (gb : n0 ≤ ba) (nab : ca ≠ ba) :
    MetFree l (⟨"java/lang/StringUTF16", "compress", "([CI[BII)I"⟩ : MethodName) (head1 (Jvm.Cond.code (⟨"java/lang/StringUTF16", "compress", "([CI[BII)I"⟩ : MethodName) jdk_52_method_21_code 7 (some .int) :: ws) RmCM2) (fun as_ U => as_ = #[(.ref ca), (.int (0 : Int32)), (.ref ba), (.int (0 : Int32)), (.int (2 : Int32))] ∧ Z.Warmed39 U.vm ∧ U.heap = h0) (fun _ _ _ _ _ => True) (fun _ U o U' => ∃ v L, o = .returned v ∧ QCM2 Z ca kc ba kb ch0 ch1 h0 n0 v U'.heap L ∧ FrameEnd U o U' L RmCM2.cells RmCM2.slots) := by
  refine MetFree.of_bodySF (plainFor_of_name pn_5) hisR ?_
  intro p e s m args below meth c s₁ Bd hml0 hP hK
  obtain ⟨rfl, hZ, hh⟩ := hP
  have hx := Bd.exec
  have hby := Bd.bytes
  have D : ∀ {pc : Nat} {r : Except DecodeError (Instr × Nat)}, decode jdk_52_method_21_code pc = r → decode c.code pc = r := fun q => hb hby q
  have hml : c.maxLocals = 7 := hml0
  have hown : s.vm.findClass "java/lang/StringUTF16" = some m.cls := findClass_of_methodNamed Bd.named
  have hnm := (name_of_methodNamed Bd.named Bd.method).1
  have X0 : Stand p l e RmCM2 s m #[(.ref ca), (.int (0 : Int32)), (.ref ba), (.int (0 : Int32)), (.int (2 : Int32))] below meth c s₁ [] 0 0 := Stand.of_body Bd
  have e0 : s₁.heap = h0 := by rw [← hh, Bd.state]; rfl
  have N0 := Fr.nil n0
  obtain ⟨E0, hE0⟩ : ∃ z, z = s₁.setTop (entryFrame m #[(.ref ca), (.int (0 : Int32)), (.ref ba), (.int (0 : Int32)), (.int (2 : Int32))] 7) := ⟨_, rfl⟩
  rw [← hE0]
  have go0 : ∀ tgt, Steps p.tables e below (s₁.setTop (mkF m 0 #[(sr ca), (si 0), (sr ba), (si 0), (si 2), .unset, .unset] [])) tgt → Steps p.tables e below E0 tgt := fun tgt kont => by rw [hE0]; exact castTop (ef_CM2 m ca (0 : Int32) ba (0 : Int32) (2 : Int32)) kont
  have go1 : Go p e below E0 s₁ m 12 #[(sr ca), (si 0), (sr ba), (si 0), (si 2), (si 0), .unset] [(.int 0), (.ref ca)] := fun tgt kont => go0 tgt (by
    refine XS.iconst X0.here hx rfl (D d25_0) ?_; refine XS.istore X0.here hx rfl (D d25_1) rfl (l' := #[(sr ca), (si 0), (sr ba), (si 0), (si 2), (si 0), .unset]) rfl ?_; refine XS.iload X0.here hx rfl (D d25_3) rfl ?_; refine XS.iload X0.here hx rfl (D d25_5) rfl ?_; refine XS.icmpNo X0.here hx rfl (D d25_7) rfl (tlt (by decide)).2.1 ?_; refine XS.aloadN X0.here hx rfl (D d25_10) rfl rfl ?_; refine XS.iloadN X0.here hx rfl (D d25_11) rfl ?_; exact kont)
  obtain ⟨c2, Ar2, q2, S2, M2, Hh2, G2⟩ := id Ac
  have hin2 : ¬ ((0 : Int32) < 0 ∨ c2.slots.size ≤ ((0 : Int32)).toNatClampNeg) := inb_of S2 ⟨by decide, by decide⟩
  have hat2 : c2.slots[((0 : Int32)).toNatClampNeg]? = some (.int ch0) := Hh2.at hin2 rfl
  have go3 : Go p e below E0 s₁ m 20 #[(sr ca), (si 0), (sr ba), (si 0), (si 2), (si 0), (si ch0)] [(.int 255), (.int ch0)] := fun tgt kont => go1 tgt (by
    refine X0.caload hx (j := (0 : Int32)) (v := (.int ch0)) (by rw [e0]; exact Ar2.1) (State.isArrayOf_alike hZ.alike Ar2.2.1) Ar2.2.2 hin2 hat2 (g := (mkF m 12 #[(sr ca), (si 0), (sr ba), (si 0), (si 2), (si 0), .unset] [(.int 0), (.ref ca)])) rfl rfl (D d25_12) _ ?_; refine XS.istore X0.here hx rfl (D d25_13) rfl (l' := #[(sr ca), (si 0), (sr ba), (si 0), (si 2), (si 0), (si ch0)]) rfl ?_; refine XS.iload X0.here hx rfl (D d25_15) rfl ?_; refine XS.sipush X0.here hx rfl (D d25_17) ?_; exact kont)
  by_cases u0 : (255 : Int32) < ch0
  · have go4 : Go p e below E0 s₁ m 25 #[(sr ca), (si 0), (sr ba), (si 0), (si 2), (si 0), (si ch0)] [(.int 0)] := fun tgt kont => go3 tgt (by
      refine XS.icmpNo X0.here hx rfl (D d25_20) rfl (tlt u0).2.2.2 ?_; refine XS.iload X0.here hx rfl (D d25_23) rfl ?_; exact kont)
    obtain ⟨fs, hr, hrun, hended, hW, hsame⟩ := X0.leave (v := some (.int (0 : Int32))) (fun h => by rw [Bd.returns] at h; cases h)
    refine ⟨_, _, go4 _ ?_, hrun, hended, _, _, rfl, ?_, ⟨_, rfl⟩, hW, hsame.mono (by decide) (by decide)⟩
    · show Steps p.tables e below (s₁.setTop (mkF m 25 #[(sr ca), (si 0), (sr ba), (si 0), (si 2), (si 0), (si ch0)] [(.int 0)])) _
      exact retOut X0 hx Bd.returns rfl (Or.inl ⟨rfl, Or.inl rfl, _, rfl⟩) (D d25_25) hr
    · show QCM2 Z ca kc ba kb ch0 ch1 h0 n0 _ s₁.heap _
      rw [e0]
      exact ⟨_, rfl, N0, (Keep.refl h0 [ba]), Or.inr (Or.inl ⟨rfl, u0⟩)⟩
  · have go5 : Go p e below E0 s₁ m 31 #[(sr ca), (si 0), (sr ba), (si 0), (si 2), (si 0), (si ch0)] [(.int (ch0.toInt8.toInt32)), (.int 0), (.ref ba)] := fun tgt kont => go3 tgt (by
      refine XS.icmpYes X0.here hx rfl (pc0 := 20) (pc' := 26) rfl (D d25_20) rfl (flt u0).2.2.2 (by decide) (by decide) ?_; refine XS.aloadN X0.here hx rfl (D d25_26) rfl rfl ?_; refine XS.iloadN X0.here hx rfl (D d25_27) rfl ?_; refine XS.iload X0.here hx rfl (D d25_28) rfl ?_; refine XS.i2b X0.here hx rfl (D d25_30) rfl ?_; exact kont)
    have p6 : Arv Z h0 ba kb .byte (2 : Int32) [(.int (0 : Int32))] (.int (0 : Int32)) := A0.pad (pad_rep [] (.int (0 : Int32)) 1)
    obtain ⟨c7, Ar7, q7, S7, M7, Hh7, G7⟩ := id p6
    obtain ⟨T7, h7, X7, e7, W7, st7⟩ := stB X0 hx hZ e0 Ar7 (j := (0 : Int32)) (inb_of S7 ⟨by decide, by decide⟩) (g := (mkF m 31 #[(sr ca), (si 0), (sr ba), (si 0), (si 2), (si 0), (si ch0)] [(.int (ch0.toInt8.toInt32)), (.int 0), (.ref ba)])) rfl rfl (D d25_31)
    have z8 : n0 ≤ h7.size := Nat.le_trans Z0 (Keep.of_wr W7).1
    have K9 : Keep h0 h7 [ba] := (Keep.refl h0 [ba]).wr W7 (Or.inl (List.mem_of_getElem? (i := 0) rfl))
    have N7 := Fr.snoc X7 N0 gb
    have f10 : Arv Z h7 ba kb .byte (2 : Int32) [(.int (nar .byte (ch0.toInt8.toInt32)))] (.int (0 : Int32)) := Arv.set Ar7 q7 S7 M7 Hh7 G7 (fits_nar_byte _) W7 0 rfl (Nat.le_of_ble_eq_true rfl)
    have go7 : Go p e below E0 T7 m 32 #[(sr ca), (si 0), (sr ba), (si 0), (si 2), (si 0), (si ch0)] [] := fun tgt kont => go5 tgt (st7 tgt kont)
    have go11 : Go p e below E0 T7 m 12 #[(sr ca), (si 1), (sr ba), (si 1), (si 2), (si 1), (si ch0)] [(.int 1), (.ref ca)] := fun tgt kont => go7 tgt (by
      refine XS.iinc X7.here hx rfl (D d25_32) rfl (l' := #[(sr ca), (si 1), (sr ba), (si 0), (si 2), (si 0), (si ch0)]) rfl ?_; refine XS.iinc X7.here hx rfl (D d25_35) rfl (l' := #[(sr ca), (si 1), (sr ba), (si 1), (si 2), (si 0), (si ch0)]) rfl ?_; refine XS.iinc X7.here hx rfl (D d25_38) rfl (l' := #[(sr ca), (si 1), (sr ba), (si 1), (si 2), (si 1), (si ch0)]) rfl ?_; refine XS.goto X7.here hx rfl (pc0 := 41) (pc' := 3) rfl (D d25_41) (by decide) (by decide) ?_; refine XS.iload X7.here hx rfl (D d25_3) rfl ?_; refine XS.iload X7.here hx rfl (D d25_5) rfl ?_; refine XS.icmpNo X7.here hx rfl (D d25_7) rfl (tlt (by decide)).2.1 ?_; refine XS.aloadN X7.here hx rfl (D d25_10) rfl rfl ?_; refine XS.iloadN X7.here hx rfl (D d25_11) rfl ?_; exact kont)
    have f12 : Arv Z h7 ca kc .char (2 : Int32) [(.int ch0), (.int ch1)] (.int (0 : Int32)) := (Ac.other W7 nab)
    obtain ⟨c13, Ar13, q13, S13, M13, Hh13, G13⟩ := id f12
    have hin13 : ¬ ((1 : Int32) < 0 ∨ c13.slots.size ≤ ((1 : Int32)).toNatClampNeg) := inb_of S13 ⟨by decide, by decide⟩
    have hat13 : c13.slots[((1 : Int32)).toNatClampNeg]? = some (.int ch1) := Hh13.at hin13 rfl
    have go14 : Go p e below E0 T7 m 20 #[(sr ca), (si 1), (sr ba), (si 1), (si 2), (si 1), (si ch1)] [(.int 255), (.int ch1)] := fun tgt kont => go11 tgt (by
      refine X7.caload hx (j := (1 : Int32)) (v := (.int ch1)) (by rw [e7]; exact Ar13.1) (State.isArrayOf_alike hZ.alike Ar13.2.1) Ar13.2.2 hin13 hat13 (g := (mkF m 12 #[(sr ca), (si 1), (sr ba), (si 1), (si 2), (si 1), (si ch0)] [(.int 1), (.ref ca)])) rfl rfl (D d25_12) _ ?_; refine XS.istore X7.here hx rfl (D d25_13) rfl (l' := #[(sr ca), (si 1), (sr ba), (si 1), (si 2), (si 1), (si ch1)]) rfl ?_; refine XS.iload X7.here hx rfl (D d25_15) rfl ?_; refine XS.sipush X7.here hx rfl (D d25_17) ?_; exact kont)
    by_cases u1 : (255 : Int32) < ch1
    · have go15 : Go p e below E0 T7 m 25 #[(sr ca), (si 1), (sr ba), (si 1), (si 2), (si 1), (si ch1)] [(.int 1)] := fun tgt kont => go14 tgt (by
        refine XS.icmpNo X7.here hx rfl (D d25_20) rfl (tlt u1).2.2.2 ?_; refine XS.iload X7.here hx rfl (D d25_23) rfl ?_; exact kont)
      obtain ⟨fs, hr, hrun, hended, hW, hsame⟩ := X7.leave (v := some (.int (1 : Int32))) (fun h => by rw [Bd.returns] at h; cases h)
      refine ⟨_, _, go15 _ ?_, hrun, hended, _, _, rfl, ?_, ⟨_, rfl⟩, hW, hsame.mono (by decide) (by decide)⟩
      · show Steps p.tables e below (T7.setTop (mkF m 25 #[(sr ca), (si 1), (sr ba), (si 1), (si 2), (si 1), (si ch1)] [(.int 1)])) _
        exact retOut X7 hx Bd.returns rfl (Or.inl ⟨rfl, Or.inl rfl, _, rfl⟩) (D d25_25) hr
      · show QCM2 Z ca kc ba kb ch0 ch1 h0 n0 _ T7.heap _
        rw [e7]
        exact ⟨_, rfl, N7, K9, Or.inr (Or.inr (⟨rfl, u1⟩))⟩
    · have go16 : Go p e below E0 T7 m 31 #[(sr ca), (si 1), (sr ba), (si 1), (si 2), (si 1), (si ch1)] [(.int (ch1.toInt8.toInt32)), (.int 1), (.ref ba)] := fun tgt kont => go14 tgt (by
        refine XS.icmpYes X7.here hx rfl (pc0 := 20) (pc' := 26) rfl (D d25_20) rfl (flt u1).2.2.2 (by decide) (by decide) ?_; refine XS.aloadN X7.here hx rfl (D d25_26) rfl rfl ?_; refine XS.iloadN X7.here hx rfl (D d25_27) rfl ?_; refine XS.iload X7.here hx rfl (D d25_28) rfl ?_; refine XS.i2b X7.here hx rfl (D d25_30) rfl ?_; exact kont)
      have p17 : Arv Z h7 ba kb .byte (2 : Int32) [(.int (nar .byte (ch0.toInt8.toInt32))), (.int (0 : Int32))] (.int (0 : Int32)) := f10.pad (pad_rep [(.int (nar .byte (ch0.toInt8.toInt32)))] (.int (0 : Int32)) 1)
      obtain ⟨c18, Ar18, q18, S18, M18, Hh18, G18⟩ := id p17
      obtain ⟨T18, h18, X18, e18, W18, st18⟩ := stB X7 hx hZ e7 Ar18 (j := (1 : Int32)) (inb_of S18 ⟨by decide, by decide⟩) (g := (mkF m 31 #[(sr ca), (si 1), (sr ba), (si 1), (si 2), (si 1), (si ch1)] [(.int (ch1.toInt8.toInt32)), (.int 1), (.ref ba)])) rfl rfl (D d25_31)
      have z19 : n0 ≤ h18.size := Nat.le_trans z8 (Keep.of_wr W18).1
      have K20 : Keep h0 h18 [ba] := K9.wr W18 (Or.inl (List.mem_of_getElem? (i := 0) rfl))
      have N18 := Fr.snoc X18 N7 gb
      have f21 : Arv Z h18 ba kb .byte (2 : Int32) [(.int (nar .byte (ch0.toInt8.toInt32))), (.int (nar .byte (ch1.toInt8.toInt32)))] (.int (0 : Int32)) := Arv.set Ar18 q18 S18 M18 Hh18 G18 (fits_nar_byte _) W18 1 rfl (Nat.le_of_ble_eq_true rfl)
      have go18 : Go p e below E0 T18 m 32 #[(sr ca), (si 1), (sr ba), (si 1), (si 2), (si 1), (si ch1)] [] := fun tgt kont => go16 tgt (st18 tgt kont)
      have go22 : Go p e below E0 T18 m 46 #[(sr ca), (si 2), (sr ba), (si 2), (si 2), (si 2), (si ch1)] [(.int 2)] := fun tgt kont => go18 tgt (by
        refine XS.iinc X18.here hx rfl (D d25_32) rfl (l' := #[(sr ca), (si 2), (sr ba), (si 1), (si 2), (si 1), (si ch1)]) rfl ?_; refine XS.iinc X18.here hx rfl (D d25_35) rfl (l' := #[(sr ca), (si 2), (sr ba), (si 2), (si 2), (si 1), (si ch1)]) rfl ?_; refine XS.iinc X18.here hx rfl (D d25_38) rfl (l' := #[(sr ca), (si 2), (sr ba), (si 2), (si 2), (si 2), (si ch1)]) rfl ?_; refine XS.goto X18.here hx rfl (pc0 := 41) (pc' := 3) rfl (D d25_41) (by decide) (by decide) ?_; refine XS.iload X18.here hx rfl (D d25_3) rfl ?_; refine XS.iload X18.here hx rfl (D d25_5) rfl ?_; refine XS.icmpYes X18.here hx rfl (pc0 := 7) (pc' := 44) rfl (D d25_7) rfl (flt (by decide)).2.1 (by decide) (by decide) ?_; refine XS.iload X18.here hx rfl (D d25_44) rfl ?_; exact kont)
      obtain ⟨fs, hr, hrun, hended, hW, hsame⟩ := X18.leave (v := some (.int (2 : Int32))) (fun h => by rw [Bd.returns] at h; cases h)
      refine ⟨_, _, go22 _ ?_, hrun, hended, _, _, rfl, ?_, ⟨_, rfl⟩, hW, hsame.mono (by decide) (by decide)⟩
      · show Steps p.tables e below (T18.setTop (mkF m 46 #[(sr ca), (si 2), (sr ba), (si 2), (si 2), (si 2), (si ch1)] [(.int 2)])) _
        exact retOut X18 hx Bd.returns rfl (Or.inl ⟨rfl, Or.inl rfl, _, rfl⟩) (D d25_46) hr
      · show QCM2 Z ca kc ba kb ch0 ch1 h0 n0 _ T18.heap _
        rw [e18]
        exact ⟨_, rfl, N18, K20, Or.inl ⟨rfl, ⟨u0, u1⟩, f21⟩⟩
theorem ef_CP2 (m : MethodId) (x0 : Addr) (x1 : Int32) (x2 : Int32) : entryFrame m #[(.ref x0), (.int x1), (.int x2)] 6 = mkF m 0 #[.val (.ref x0), .val (.int x1), .val (.int x2), .unset, .unset, .unset] [] := by first | (simp [entryFrame, mkF, argsToLocals, Value.category, maxLocals]; done) | rfl
def QCP2 (Z : State) (ca : Addr) (kc : ClassId) (ch0 : Int32) (ch1 : Int32) (G : Int32) (fv : Value) (h0 : Heap) (n0 : Nat) (v : Option Value) (h : Heap) (L : List Loc) : Prop := ∃ (t : Addr) (kb : ClassId), v = some (.ref t) ∧ Fr n0 L ∧ Keep h0 h [] ∧ n0 ≤ t ∧ h0.size ≤ t ∧ (((¬ (255 : Int32) < ch0 ∧ ¬ (255 : Int32) < ch1) ∧ Arv Z h t kb .byte (2 : Int32) [(.int (own_lo ch0)), (.int (own_lo ch1))] (.int (0 : Int32))) ∨ Arv Z h t kb .byte (4 : Int32) [(.int (own_b0 ch0)), (.int (own_b1 ch0)), (.int (own_b0 ch1)), (.int (own_b1 ch1))] (.int (0 : Int32)))
abbrev RmCP2 : Room := ({ frames := 3, cells := 2, slots := 6, locals := 40 } : Room)
set_option maxRecDepth 65536 in
set_option maxHeartbeats 40000000 in
theorem rmCP2 (l : Launch) (Z : State) (a0 : Array Value) (hw : ∀ d ∈ tables_1, d.before a0 Z = true) (ws : List Jvm.Cond) (ca : Addr) (kc : ClassId) (ch0 : Int32) (ch1 : Int32) (G : Int32) (fv : Value) (h0 : Heap) (n0 : Nat) (Z0 : n0 ≤ h0.size) (Ac : Arv Z h0 ca kc .char (2 : Int32) [(.int ch0), (.int ch1)] (.int (0 : Int32))) (kch0 : own_ch ch0) (kch1 : own_ch ch1) (W0 : own_W Z G fv) (O0 : Old Z n0 h0) :
    MetFree l (⟨"java/lang/StringUTF16", "compress", "([CII)[B"⟩ : MethodName) (head1 (Jvm.Cond.code (⟨"java/lang/StringUTF16", "compress", "([CII)[B"⟩ : MethodName) jdk_52_method_16_code 6 (some (.array .byte)) :: ws) RmCP2) (fun as_ U => as_ = #[(.ref ca), (.int (0 : Int32)), (.int (2 : Int32))] ∧ Z.Warmed39 U.vm ∧ U.heap = h0) (fun _ _ _ _ _ => True) (fun _ U o U' => ∃ v L, o = .returned v ∧ QCP2 Z ca kc ch0 ch1 G fv h0 n0 v U'.heap L ∧ FrameEnd U o U' L RmCP2.cells RmCP2.slots) := by
  refine MetFree.of_bodySF (plainFor_of_name pn_5) hisR ?_
  intro p e s m args below meth c s₁ Bd hml0 hP hK
  obtain ⟨rfl, hZ, hh⟩ := hP
  have hx := Bd.exec
  have hby := Bd.bytes
  have D : ∀ {pc : Nat} {r : Except DecodeError (Instr × Nat)}, decode jdk_52_method_16_code pc = r → decode c.code pc = r := fun q => hb hby q
  have hml : c.maxLocals = 6 := hml0
  have hown : s.vm.findClass "java/lang/StringUTF16" = some m.cls := findClass_of_methodNamed Bd.named
  have hnm := (name_of_methodNamed Bd.named Bd.method).1
  have X0 : Stand p l e RmCP2 s m #[(.ref ca), (.int (0 : Int32)), (.int (2 : Int32))] below meth c s₁ [] 0 0 := Stand.of_body Bd
  have e0 : s₁.heap = h0 := by rw [← hh, Bd.state]; rfl
  have N0 := Fr.nil n0
  obtain ⟨E0, hE0⟩ : ∃ z, z = s₁.setTop (entryFrame m #[(.ref ca), (.int (0 : Int32)), (.int (2 : Int32))] 6) := ⟨_, rfl⟩
  rw [← hE0]
  have go0 : ∀ tgt, Steps p.tables e below (s₁.setTop (mkF m 0 #[(sr ca), (si 0), (si 2), .unset, .unset, .unset] [])) tgt → Steps p.tables e below E0 tgt := fun tgt kont => by rw [hE0]; exact castTop (ef_CP2 m ca (0 : Int32) (2 : Int32)) kont
  have go1 : Go p e below E0 s₁ m 1 #[(sr ca), (si 0), (si 2), .unset, .unset, .unset] [(.int 2)] := fun tgt kont => go0 tgt (by
    refine XS.iloadN X0.here hx rfl (D d26_0) rfl ?_; exact kont)
  obtain ⟨T2, h2, k2, X2, e2, E2, A2, st2⟩ := newP X0 hx hZ (wd hw 16 rfl) e0 (g := (mkF m 1 #[(sr ca), (si 0), (si 2), .unset, .unset, .unset] [(.int 2)])) rfl (D d26_1) rfl (by decide) (cap := 2) (by decide) (by decide) (by decide) (by decide)
  obtain ⟨ba, g2⟩ : ∃ z, z = h0.size := ⟨_, rfl⟩
  rw [← g2] at A2 st2
  have ne_ca_ba : ca ≠ ba := Nat.ne_of_lt (Nat.lt_of_lt_of_le Ac.lt (Nat.le_of_eq g2.symm))
  have ge_ba : n0 ≤ ba := Nat.le_trans Z0 (Nat.le_of_eq g2.symm)
  have hz_ba : h0.size ≤ ba := Nat.le_trans (Keep.refl h0 []).1 (Nat.le_of_eq g2.symm)
  have z3 : n0 ≤ h2.size := Nat.le_trans Z0 E2.1
  have K4 : Keep h0 h2 [] := (Keep.refl h0 []).ext E2
  have V2 : Arv Z h2 ba k2 .byte (2 : Int32) [] (.int (0 : Int32)) := Arv.new A2 (by decide)
  have go2 : Go p e below E0 T2 m 3 #[(sr ca), (si 0), (si 2), .unset, .unset, .unset] [(.ref ba)] := fun tgt kont => go1 tgt (st2 tgt kont)
  have f5 : Arv Z h2 ca kc .char (2 : Int32) [(.int ch0), (.int ch1)] (.int (0 : Int32)) := (Ac.ext E2)
  have go6 : Go p e below E0 T2 m 9 #[(sr ca), (si 0), (si 2), (sr ba), .unset, .unset] [(.int 2), (.int 0), (.ref ba), (.int 0), (.ref ca)] := fun tgt kont => go2 tgt (by
    refine XS.astoreN X2.here hx rfl (D d26_3) rfl rfl (l' := #[(sr ca), (si 0), (si 2), (sr ba), .unset, .unset]) rfl ?_; refine XS.aloadN X2.here hx rfl (D d26_4) rfl rfl ?_; refine XS.iloadN X2.here hx rfl (D d26_5) rfl ?_; refine XS.aloadN X2.here hx rfl (D d26_6) rfl rfl ?_; refine XS.iconst X2.here hx rfl (D d26_7) ?_; refine XS.iloadN X2.here hx rfl (D d26_8) rfl ?_; exact kont)
  obtain ⟨_, _, ⟨T7, L7, k7, n7⟩, -, X7, ⟨Lc7, hQ7, l7, y7, z7⟩, st7⟩ := Jvm.LawKit.callS X2 hx (y := (⟨"java/lang/StringUTF16", "compress", "([CI[BII)I"⟩ : MethodName)) hown (mvT hZ (wd hw 47 rfl)) (mvT hZ (wd hw 48 rfl)) (mvT hZ (wd hw 45 rfl)) (mvT hZ (wd hw 49 rfl)) (by decide) (backOf (W := 0) (rmCM2 l Z a0 hw [] ca kc ba k2 ch0 ch1 h2 n0 z3 f5 V2 ge_ba ne_ca_ba) hZ (wd hw 49 rfl) (wd hw 45 rfl) (by decide) (by decide)) (g := (mkF m 9 #[(sr ca), (si 0), (si 2), (sr ba), .unset, .unset] [(.int 2), (.int 0), (.ref ba), (.int 0), (.ref ca)])) rfl (by rw [hml]; rfl) (argsL := [(.ref ca), (.int (0 : Int32)), (.ref ba), (.int (0 : Int32)), (.int (2 : Int32))]) (rest := []) (lenOf pd_19 rfl) rfl (by show 2 * 0 + _ ≤ _; exact Nat.le_of_eq rfl) (D d26_9) (fun _ _ => ⟨rfl, e2, (by decide : 1 + 0 ≤ _), (by decide : 2 + 0 ≤ _)⟩)
  dsimp only [Pt.U, Pt.locs, Pt.cells, Pt.slots] at X7 l7 y7 z7 st7 hQ7
  subst l7 y7 z7
  obtain ⟨r, rfl, N7q, Kc, hr⟩ := hQ7
  have N7 := Fr.app N0 N7q
  have z8 : n0 ≤ T7.heap.size := Nat.le_trans z3 Kc.1
  have K9 : Keep h0 T7.heap [] := K4.trans Kc (allS (Or.inr hz_ba) all0)
  have go7 : Go p e below E0 T7 m 12 #[(sr ca), (si 0), (si 2), (sr ba), .unset, .unset] [(.int r)] := fun tgt kont => go6 tgt (st7 tgt kont)
  have go10 : Go p e below E0 T7 m 17 #[(sr ca), (si 0), (si 2), (sr ba), (si r), .unset] [(.int 2), (.int r)] := fun tgt kont => go7 tgt (by
    refine XS.istore X7.here hx rfl (D d26_12) rfl (l' := #[(sr ca), (si 0), (si 2), (sr ba), (si r), .unset]) rfl ?_; refine XS.iload X7.here hx rfl (D d26_14) rfl ?_; refine XS.iloadN X7.here hx rfl (D d26_16) rfl ?_; exact kont)
  rcases hr with ⟨rfl, hall, Ab⟩ | ⟨rfl, hbig⟩ | ⟨rfl, hbig⟩
  · have go11 : Go p e below E0 T7 m 58 #[(sr ca), (si 0), (si 2), (sr ba), (si 2), .unset] [(.ref ba)] := fun tgt kont => go10 tgt (by
      refine XS.icmpYes X7.here hx rfl (pc0 := 17) (pc' := 57) rfl (D d26_17) rfl (teq rfl).1 (by decide) (by decide) ?_; refine XS.aloadN X7.here hx rfl (D d26_57) rfl rfl ?_; exact kont)
    obtain ⟨fs, hr, hrun, hended, hW, hsame⟩ := X7.leave (v := some (.ref ba)) (fun h => by rw [Bd.returns] at h; cases h)
    refine ⟨_, _, go11 _ ?_, hrun, hended, _, _, rfl, ?_, ⟨_, rfl⟩, hW, hsame.mono (by decide) (by decide)⟩
    · show Steps p.tables e below (T7.setTop (mkF m 58 #[(sr ca), (si 0), (si 2), (sr ba), (si 2), .unset] [(.ref ba)])) _
      exact retOut X7 hx Bd.returns rfl (Or.inr (Or.inr (Or.inr (Or.inr ⟨rfl, rfl, rfl⟩)))) (D d26_58) hr
    · show QCP2 Z ca kc ch0 ch1 G fv h0 n0 _ T7.heap _
      exact ⟨ba, k2, rfl, N7, K9, ge_ba, hz_ba, Or.inl ⟨hall, Ab⟩⟩
  · have f12 : Arv Z T7.heap ca kc .char (2 : Int32) [(.int ch0), (.int ch1)] (.int (0 : Int32)) := (f5.keep Kc (ninS ne_ca_ba nin0))
    have f13 : Old Z n0 T7.heap := ((O0.ext E2).keep Kc (allS ge_ba all0))
    have go14 : Go p e below E0 T7 m 23 #[(sr ca), (si 0), (si 2), (sr ba), (si 0), .unset] [(.int 2), (.int 0), (.ref ca)] := fun tgt kont => go10 tgt (by
      refine XS.icmpNo X7.here hx rfl (D d26_17) rfl (feq (by decide)).1 ?_; refine XS.aloadN X7.here hx rfl (D d26_20) rfl rfl ?_; refine XS.iloadN X7.here hx rfl (D d26_21) rfl ?_; refine XS.iloadN X7.here hx rfl (D d26_22) rfl ?_; exact kont)
    obtain ⟨_, _, ⟨T15, L15, k15, n15⟩, -, X15, ⟨Lc15, hQ15, l15, y15, z15⟩, st15⟩ := Jvm.LawKit.callS X7 hx (y := (⟨"java/lang/StringUTF16", "toBytes", "([CII)[B"⟩ : MethodName)) hown (mvT hZ (wd hw 107 rfl)) (mvT hZ (wd hw 108 rfl)) (mvT hZ (wd hw 45 rfl)) (mvT hZ (wd hw 109 rfl)) (by decide) (backOf (W := 0) (rmTB2 l Z a0 hw [] ca kc ch0 ch1 G fv T7.heap n0 z8 f12 W0 f13) hZ (wd hw 109 rfl) (wd hw 45 rfl) (by decide) (by decide)) (g := (mkF m 23 #[(sr ca), (si 0), (si 2), (sr ba), (si 0), .unset] [(.int 2), (.int 0), (.ref ca)])) rfl (by rw [hml]; rfl) (argsL := [(.ref ca), (.int (0 : Int32)), (.int (2 : Int32))]) (rest := []) (lenOf pd_20 rfl) rfl (by show 2 * 0 + _ ≤ _; exact Nat.le_of_eq rfl) (D d26_23) (fun _ _ => ⟨rfl, rfl, (by decide : 1 + 1 ≤ _), (by decide : 2 + 4 ≤ _)⟩)
    dsimp only [Pt.U, Pt.locs, Pt.cells, Pt.slots] at X15 l15 y15 z15 st15 hQ15
    subst l15 y15 z15
    obtain ⟨kt, rfl, N15q, Kt, At⟩ := hQ15
    have N15 := Fr.app N7 N15q
    obtain ⟨t, g15⟩ : ∃ z, z = T7.heap.size := ⟨_, rfl⟩
    rw [← g15] at st15 At
    have ne_ca_t : ca ≠ t := Nat.ne_of_lt (Nat.lt_of_lt_of_le (Nat.lt_of_lt_of_le Ac.lt (Nat.le_trans E2.1 Kc.1)) (Nat.le_of_eq g15.symm))
    have ne_ba_t : ba ≠ t := Nat.ne_of_lt (Nat.lt_of_lt_of_le (Nat.lt_of_lt_of_le V2.lt Kc.1) (Nat.le_of_eq g15.symm))
    have ge_t : n0 ≤ t := Nat.le_trans z8 (Nat.le_of_eq g15.symm)
    have hz_t : h0.size ≤ t := Nat.le_trans K9.1 (Nat.le_of_eq g15.symm)
    have z16 : n0 ≤ T15.heap.size := Nat.le_trans z8 Kt.1
    have K17 : Keep h0 T15.heap [] := K9.trans Kt all0
    have go15 : Go p e below E0 T15 m 26 #[(sr ca), (si 0), (si 2), (sr ba), (si 0), .unset] [(.ref t)] := fun tgt kont => go14 tgt (st15 tgt kont)
    have f18 : Old Z n0 T15.heap := (f13.keep Kt all0)
    have go19 : Go p e below E0 T15 m 32 #[(sr ca), (si 0), (si 2), (sr ba), (si 0), (sr t)] [(.int 0), (.ref t)] := fun tgt kont => go15 tgt (by
      refine XS.astore X15.here hx rfl (D d26_26) rfl rfl (l' := #[(sr ca), (si 0), (si 2), (sr ba), (si 0), (sr t)]) rfl ?_; refine XS.aload X15.here hx rfl (D d26_28) rfl rfl ?_; refine XS.iload X15.here hx rfl (D d26_30) rfl ?_; exact kont)
    obtain ⟨_, _, ⟨T20, L20, k20, n20⟩, -, X20, ⟨Lc20, hQ20, l20, y20, z20⟩, st20⟩ := Jvm.LawKit.callS X15 hx (y := (⟨"java/lang/StringUTF16", "getChar", "([BI)C"⟩ : MethodName)) hown (mvT hZ (wd hw 123 rfl)) (mvT hZ (wd hw 124 rfl)) (mvT hZ (wd hw 45 rfl)) (mvT hZ (wd hw 125 rfl)) (by decide) (backOf (W := 0) (rmGC l Z a0 hw [] t kt (4 : Int32) [(.int (own_b0 ch0)), (.int (own_b1 ch0)), (.int (own_b0 ch1)), (.int (own_b1 ch1))] (0 : Int32) (own_b0 ch0) (own_b1 ch0) ch0 G fv T15.heap n0 z16 At (by decide) rfl (by decide) rfl (own_utfc kch0) W0 f18) hZ (wd hw 125 rfl) (wd hw 45 rfl) (by decide) (by decide)) (g := (mkF m 32 #[(sr ca), (si 0), (si 2), (sr ba), (si 0), (sr t)] [(.int 0), (.ref t)])) rfl (by rw [hml]; rfl) (argsL := [(.ref t), (.int (0 : Int32))]) (rest := []) (lenOf pd_8 rfl) rfl (by show 2 * 0 + _ ≤ _; exact Nat.le_of_eq rfl) (D d26_32) (fun _ _ => ⟨rfl, rfl, (by decide : 2 + 0 ≤ _), (by decide : 6 + 0 ≤ _)⟩)
    dsimp only [Pt.U, Pt.locs, Pt.cells, Pt.slots] at X20 l20 y20 z20 st20 hQ20
    subst l20 y20 z20
    obtain ⟨rfl, rfl, e20⟩ := hQ20
    have N20 := Fr.app N15 (Fr.nil n0)
    have go20 : Go p e below E0 T20 m 35 #[(sr ca), (si 0), (si 2), (sr ba), (si 0), (sr t)] [(.int ch0)] := fun tgt kont => go19 tgt (st20 tgt kont)
    have go21 : Go p e below E0 T20 m 56 #[(sr ca), (si 0), (si 2), (sr ba), (si 0), (sr t)] [(.ref t)] := fun tgt kont => go20 tgt (by
      refine XS.sipush X20.here hx rfl (D d26_35) ?_; refine XS.icmpYes X20.here hx rfl (pc0 := 38) (pc' := 54) rfl (D d26_38) rfl (tlt hbig).2.2.1 (by decide) (by decide) ?_; refine XS.aload X20.here hx rfl (D d26_54) rfl rfl ?_; exact kont)
    obtain ⟨fs, hr, hrun, hended, hW, hsame⟩ := X20.leave (v := some (.ref t)) (fun h => by rw [Bd.returns] at h; cases h)
    refine ⟨_, _, go21 _ ?_, hrun, hended, _, _, rfl, ?_, ⟨_, rfl⟩, hW, hsame.mono (by decide) (by decide)⟩
    · show Steps p.tables e below (T20.setTop (mkF m 56 #[(sr ca), (si 0), (si 2), (sr ba), (si 0), (sr t)] [(.ref t)])) _
      exact retOut X20 hx Bd.returns rfl (Or.inr (Or.inr (Or.inr (Or.inr ⟨rfl, rfl, rfl⟩)))) (D d26_56) hr
    · show QCP2 Z ca kc ch0 ch1 G fv h0 n0 _ T20.heap _
      rw [e20]
      exact ⟨t, kt, rfl, N20, K17, ge_t, hz_t, Or.inr At⟩
  · have f22 : Arv Z T7.heap ca kc .char (2 : Int32) [(.int ch0), (.int ch1)] (.int (0 : Int32)) := (f5.keep Kc (ninS ne_ca_ba nin0))
    have f23 : Old Z n0 T7.heap := ((O0.ext E2).keep Kc (allS ge_ba all0))
    have go24 : Go p e below E0 T7 m 23 #[(sr ca), (si 0), (si 2), (sr ba), (si 1), .unset] [(.int 2), (.int 0), (.ref ca)] := fun tgt kont => go10 tgt (by
      refine XS.icmpNo X7.here hx rfl (D d26_17) rfl (feq (by decide)).1 ?_; refine XS.aloadN X7.here hx rfl (D d26_20) rfl rfl ?_; refine XS.iloadN X7.here hx rfl (D d26_21) rfl ?_; refine XS.iloadN X7.here hx rfl (D d26_22) rfl ?_; exact kont)
    obtain ⟨_, _, ⟨T25, L25, k25, n25⟩, -, X25, ⟨Lc25, hQ25, l25, y25, z25⟩, st25⟩ := Jvm.LawKit.callS X7 hx (y := (⟨"java/lang/StringUTF16", "toBytes", "([CII)[B"⟩ : MethodName)) hown (mvT hZ (wd hw 107 rfl)) (mvT hZ (wd hw 108 rfl)) (mvT hZ (wd hw 45 rfl)) (mvT hZ (wd hw 109 rfl)) (by decide) (backOf (W := 0) (rmTB2 l Z a0 hw [] ca kc ch0 ch1 G fv T7.heap n0 z8 f22 W0 f23) hZ (wd hw 109 rfl) (wd hw 45 rfl) (by decide) (by decide)) (g := (mkF m 23 #[(sr ca), (si 0), (si 2), (sr ba), (si 1), .unset] [(.int 2), (.int 0), (.ref ca)])) rfl (by rw [hml]; rfl) (argsL := [(.ref ca), (.int (0 : Int32)), (.int (2 : Int32))]) (rest := []) (lenOf pd_20 rfl) rfl (by show 2 * 0 + _ ≤ _; exact Nat.le_of_eq rfl) (D d26_23) (fun _ _ => ⟨rfl, rfl, (by decide : 1 + 1 ≤ _), (by decide : 2 + 4 ≤ _)⟩)
    dsimp only [Pt.U, Pt.locs, Pt.cells, Pt.slots] at X25 l25 y25 z25 st25 hQ25
    subst l25 y25 z25
    obtain ⟨kt, rfl, N25q, Kt, At⟩ := hQ25
    have N25 := Fr.app N7 N25q
    obtain ⟨t, g25⟩ : ∃ z, z = T7.heap.size := ⟨_, rfl⟩
    rw [← g25] at st25 At
    have ne_ca_t : ca ≠ t := Nat.ne_of_lt (Nat.lt_of_lt_of_le (Nat.lt_of_lt_of_le Ac.lt (Nat.le_trans E2.1 Kc.1)) (Nat.le_of_eq g25.symm))
    have ne_ba_t : ba ≠ t := Nat.ne_of_lt (Nat.lt_of_lt_of_le (Nat.lt_of_lt_of_le V2.lt Kc.1) (Nat.le_of_eq g25.symm))
    have ge_t : n0 ≤ t := Nat.le_trans z8 (Nat.le_of_eq g25.symm)
    have hz_t : h0.size ≤ t := Nat.le_trans K9.1 (Nat.le_of_eq g25.symm)
    have z26 : n0 ≤ T25.heap.size := Nat.le_trans z8 Kt.1
    have K27 : Keep h0 T25.heap [] := K9.trans Kt all0
    have go25 : Go p e below E0 T25 m 26 #[(sr ca), (si 0), (si 2), (sr ba), (si 1), .unset] [(.ref t)] := fun tgt kont => go24 tgt (st25 tgt kont)
    have f28 : Old Z n0 T25.heap := (f23.keep Kt all0)
    have go29 : Go p e below E0 T25 m 32 #[(sr ca), (si 0), (si 2), (sr ba), (si 1), (sr t)] [(.int 1), (.ref t)] := fun tgt kont => go25 tgt (by
      refine XS.astore X25.here hx rfl (D d26_26) rfl rfl (l' := #[(sr ca), (si 0), (si 2), (sr ba), (si 1), (sr t)]) rfl ?_; refine XS.aload X25.here hx rfl (D d26_28) rfl rfl ?_; refine XS.iload X25.here hx rfl (D d26_30) rfl ?_; exact kont)
    obtain ⟨_, _, ⟨T30, L30, k30, n30⟩, -, X30, ⟨Lc30, hQ30, l30, y30, z30⟩, st30⟩ := Jvm.LawKit.callS X25 hx (y := (⟨"java/lang/StringUTF16", "getChar", "([BI)C"⟩ : MethodName)) hown (mvT hZ (wd hw 123 rfl)) (mvT hZ (wd hw 124 rfl)) (mvT hZ (wd hw 45 rfl)) (mvT hZ (wd hw 125 rfl)) (by decide) (backOf (W := 0) (rmGC l Z a0 hw [] t kt (4 : Int32) [(.int (own_b0 ch0)), (.int (own_b1 ch0)), (.int (own_b0 ch1)), (.int (own_b1 ch1))] (1 : Int32) (own_b0 ch1) (own_b1 ch1) ch1 G fv T25.heap n0 z26 At (by decide) rfl (by decide) rfl (own_utfc kch1) W0 f28) hZ (wd hw 125 rfl) (wd hw 45 rfl) (by decide) (by decide)) (g := (mkF m 32 #[(sr ca), (si 0), (si 2), (sr ba), (si 1), (sr t)] [(.int 1), (.ref t)])) rfl (by rw [hml]; rfl) (argsL := [(.ref t), (.int (1 : Int32))]) (rest := []) (lenOf pd_8 rfl) rfl (by show 2 * 0 + _ ≤ _; exact Nat.le_of_eq rfl) (D d26_32) (fun _ _ => ⟨rfl, rfl, (by decide : 2 + 0 ≤ _), (by decide : 6 + 0 ≤ _)⟩)
    dsimp only [Pt.U, Pt.locs, Pt.cells, Pt.slots] at X30 l30 y30 z30 st30 hQ30
    subst l30 y30 z30
    obtain ⟨rfl, rfl, e30⟩ := hQ30
    have N30 := Fr.app N25 (Fr.nil n0)
    have go30 : Go p e below E0 T30 m 35 #[(sr ca), (si 0), (si 2), (sr ba), (si 1), (sr t)] [(.int ch1)] := fun tgt kont => go29 tgt (st30 tgt kont)
    have go31 : Go p e below E0 T30 m 56 #[(sr ca), (si 0), (si 2), (sr ba), (si 1), (sr t)] [(.ref t)] := fun tgt kont => go30 tgt (by
      refine XS.sipush X30.here hx rfl (D d26_35) ?_; refine XS.icmpYes X30.here hx rfl (pc0 := 38) (pc' := 54) rfl (D d26_38) rfl (tlt hbig).2.2.1 (by decide) (by decide) ?_; refine XS.aload X30.here hx rfl (D d26_54) rfl rfl ?_; exact kont)
    obtain ⟨fs, hr, hrun, hended, hW, hsame⟩ := X30.leave (v := some (.ref t)) (fun h => by rw [Bd.returns] at h; cases h)
    refine ⟨_, _, go31 _ ?_, hrun, hended, _, _, rfl, ?_, ⟨_, rfl⟩, hW, hsame.mono (by decide) (by decide)⟩
    · show Steps p.tables e below (T30.setTop (mkF m 56 #[(sr ca), (si 0), (si 2), (sr ba), (si 1), (sr t)] [(.ref t)])) _
      exact retOut X30 hx Bd.returns rfl (Or.inr (Or.inr (Or.inr (Or.inr ⟨rfl, rfl, rfl⟩)))) (D d26_56) hr
    · show QCP2 Z ca kc ch0 ch1 G fv h0 n0 _ T30.heap _
      rw [e30]
      exact ⟨t, kt, rfl, N30, K27, ge_t, hz_t, Or.inr At⟩
theorem ef_V2 (m : MethodId) (x0 : Addr) (x1 : Addr) (x2 : Int32) (x3 : Int32) : entryFrame m #[(.ref x0), (.ref x1), (.int x2), (.int x3), .null] 6 = mkF m 0 #[.val (.ref x0), .val (.ref x1), .val (.int x2), .val (.int x3), .val .null, .unset] [] := by first | (simp [entryFrame, mkF, argsToLocals, Value.category, maxLocals]; done) | rfl
def QV2 (Z : State) (x : Addr) (ca : Addr) (kc : ClassId) (ch0 : Int32) (ch1 : Int32) (G : Int32) (fv : Value) (h0 : Heap) (n0 : Nat) (v : Option Value) (h : Heap) (L : List Loc) : Prop := v = none ∧ Fr n0 L ∧ Keep h0 h [x] ∧ own_S2 Z h x ch0 ch1
abbrev RmV2 : Room := ({ frames := 4, cells := 2, slots := 6, locals := 57 } : Room)
set_option maxRecDepth 65536 in
set_option maxHeartbeats 40000000 in
theorem rmV2 (l : Launch) (Z : State) (a0 : Array Value) (hw : ∀ d ∈ tables_1, d.before a0 Z = true) (ws : List Jvm.Cond) (x : Addr) (ca : Addr) (kc : ClassId) (ch0 : Int32) (ch1 : Int32) (G : Int32) (fv : Value) (h0 : Heap) (n0 : Nat) (Z0 : n0 ≤ h0.size) (Ex : Exa Z h0 x "java/lang/String") (gx : n0 ≤ x) (Fv : Fld Z h0 x "java/lang/String" "value" "[B" .null) (Fc : Fld Z h0 x "java/lang/String" "coder" "B" (.int (0 : Int32))) (Ac : Arv Z h0 ca kc .char (2 : Int32) [(.int ch0), (.int ch1)] (.int (0 : Int32))) (kch0 : own_ch ch0) (kch1 : own_ch ch1) (W0 : own_W Z G fv) (O0 : Old Z n0 h0) :
    MetFree l (⟨"java/lang/String", "<init>", "([CIILjava/lang/Void;)V"⟩ : MethodName) (head1 (Jvm.Cond.code (⟨"java/lang/String", "<init>", "([CIILjava/lang/Void;)V"⟩ : MethodName) jdk_42_method_149_code 6 none :: ws) RmV2) (fun as_ U => as_ = #[(.ref x), (.ref ca), (.int (0 : Int32)), (.int (2 : Int32)), .null] ∧ Z.Warmed39 U.vm ∧ U.heap = h0) (fun _ _ _ _ _ => True) (fun _ U o U' => ∃ v L, o = .returned v ∧ QV2 Z x ca kc ch0 ch1 G fv h0 n0 v U'.heap L ∧ FrameEnd U o U' L RmV2.cells RmV2.slots) := by
  refine MetFree.of_bodySF (plainFor_of_name pn_2) hisR ?_
  intro p e s m args below meth c s₁ Bd hml0 hP hK
  obtain ⟨rfl, hZ, hh⟩ := hP
  have hx := Bd.exec
  have hby := Bd.bytes
  have D : ∀ {pc : Nat} {r : Except DecodeError (Instr × Nat)}, decode jdk_42_method_149_code pc = r → decode c.code pc = r := fun q => hb hby q
  have hml : c.maxLocals = 6 := hml0
  have hown : s.vm.findClass "java/lang/String" = some m.cls := findClass_of_methodNamed Bd.named
  have hnm := (name_of_methodNamed Bd.named Bd.method).1
  have X0 : Stand p l e RmV2 s m #[(.ref x), (.ref ca), (.int (0 : Int32)), (.int (2 : Int32)), .null] below meth c s₁ [] 0 0 := Stand.of_body Bd
  have e0 : s₁.heap = h0 := by rw [← hh, Bd.state]; rfl
  have N0 := Fr.nil n0
  obtain ⟨E0, hE0⟩ : ∃ z, z = s₁.setTop (entryFrame m #[(.ref x), (.ref ca), (.int (0 : Int32)), (.int (2 : Int32)), .null] 6) := ⟨_, rfl⟩
  rw [← hE0]
  have go0 : ∀ tgt, Steps p.tables e below (s₁.setTop (mkF m 0 #[(sr x), (sr ca), (si 0), (si 2), .val .null, .unset] [])) tgt → Steps p.tables e below E0 tgt := fun tgt kont => by rw [hE0]; exact castTop (ef_V2 m x ca (0 : Int32) (2 : Int32)) kont
  have go1 : Go p e below E0 s₁ m 1 #[(sr x), (sr ca), (si 0), (si 2), .val .null, .unset] [(.ref x)] := fun tgt kont => go0 tgt (by
    refine XS.aloadN X0.here hx rfl (D d27_0) rfl rfl ?_; exact kont)
  obtain ⟨T2, X2, e2, st2⟩ := initO X0 hx hZ hown (wd hw 12 rfl) (wd hw 13 rfl) (wd hw 14 rfl) e0 (g := (mkF m 1 #[(sr x), (sr ca), (si 0), (si 2), .val .null, .unset] [(.ref x)])) rfl (by rw [hml]; rfl) rfl (D d27_1) (by decide) (W := 0) (by show 2 * 0 + _ ≤ _; exact Nat.le_of_eq rfl) (by decide)
  have go2 : Go p e below E0 T2 m 4 #[(sr x), (sr ca), (si 0), (si 2), .val .null, .unset] [] := fun tgt kont => go1 tgt (st2 tgt kont)
  have go3 : Go p e below E0 T2 m 27 #[(sr x), (sr ca), (si 0), (si 2), .val .null, .unset] [] := fun tgt kont => go2 tgt (by
    refine XS.iloadN X2.here hx rfl (D d27_4) rfl ?_; refine XS.ifYes X2.here hx rfl (pc0 := 5) (pc' := 27) rfl (D d27_5) rfl ((if0 _ _).trans (feq (by decide)).2) (by decide) (by decide) ?_; exact kont)
  obtain ⟨T4, X4, e4, st4⟩ := getS2 X2 hx hZ hown (host := "") (Or.inl (wd hw 37 rfl)) Via.refl e2 (W0.1.ext O0.2) (g := (mkF m 27 #[(sr x), (sr ca), (si 0), (si 2), .val .null, .unset] [])) rfl (D d27_27)
  have go4 : Go p e below E0 T4 m 30 #[(sr x), (sr ca), (si 0), (si 2), .val .null, .unset] [(.int G)] := fun tgt kont => go3 tgt (st4 tgt kont)
  have go5 : Go p e below E0 T4 m 36 #[(sr x), (sr ca), (si 0), (si 2), .val .null, .unset] [(.int 2), (.int 0), (.ref ca)] := fun tgt kont => go4 tgt (by
    refine XS.ifNo X4.here hx rfl (D d27_30) rfl ((if0 _ _).trans (feq W0.2.1).1) ?_; refine XS.aloadN X4.here hx rfl (D d27_33) rfl rfl ?_; refine XS.iloadN X4.here hx rfl (D d27_34) rfl ?_; refine XS.iloadN X4.here hx rfl (D d27_35) rfl ?_; exact kont)
  obtain ⟨_, _, ⟨T6, L6, k6, n6⟩, -, X6, ⟨Lc6, hQ6, l6, y6, z6⟩, st6⟩ := Jvm.LawKit.callS X4 hx (y := (⟨"java/lang/StringUTF16", "compress", "([CII)[B"⟩ : MethodName)) hown (mvT hZ (wd hw 43 rfl)) (mvT hZ (wd hw 44 rfl)) (mvT hZ (wd hw 45 rfl)) (mvT hZ (wd hw 46 rfl)) (by decide) (backOf (W := 0) (rmCP2 l Z a0 hw [] ca kc ch0 ch1 G fv h0 n0 Z0 Ac kch0 kch1 W0 O0) hZ (wd hw 46 rfl) (wd hw 45 rfl) (by decide) (by decide)) (g := (mkF m 36 #[(sr x), (sr ca), (si 0), (si 2), .val .null, .unset] [(.int 2), (.int 0), (.ref ca)])) rfl (by rw [hml]; rfl) (argsL := [(.ref ca), (.int (0 : Int32)), (.int (2 : Int32))]) (rest := []) (lenOf pd_20 rfl) rfl (by show 2 * 0 + _ ≤ _; exact Nat.le_of_eq rfl) (D d27_36) (fun _ _ => ⟨rfl, e4, (by decide : 0 + 2 ≤ _), (by decide : 0 + 6 ≤ _)⟩)
  dsimp only [Pt.U, Pt.locs, Pt.cells, Pt.slots] at X6 l6 y6 z6 st6 hQ6
  subst l6 y6 z6
  obtain ⟨t, kb, rfl, N6q, Kc, gt, zt, hd⟩ := hQ6
  have N6 := Fr.app N0 N6q
  have z7 : n0 ≤ T6.heap.size := Nat.le_trans Z0 Kc.1
  have K8 : Keep h0 T6.heap [x] := (Keep.refl h0 [x]).trans Kc all0
  have go6 : Go p e below E0 T6 m 39 #[(sr x), (sr ca), (si 0), (si 2), .val .null, .unset] [(.ref t)] := fun tgt kont => go5 tgt (st6 tgt kont)
  have ne_x_t : x ≠ t := Nat.ne_of_lt (Nat.lt_of_lt_of_le Ex.lt zt)
  have go9 : Go p e below E0 T6 m 45 #[(sr x), (sr ca), (si 0), (si 2), .val .null, (sr t)] [(.int 2), (.ref t), (.ref x)] := fun tgt kont => go6 tgt (by
    refine XS.astore X6.here hx rfl (D d27_39) rfl rfl (l' := #[(sr x), (sr ca), (si 0), (si 2), .val .null, (sr t)]) rfl ?_; refine XS.aloadN X6.here hx rfl (D d27_41) rfl rfl ?_; refine XS.aload X6.here hx rfl (D d27_42) rfl rfl ?_; refine XS.iloadN X6.here hx rfl (D d27_44) rfl ?_; exact kont)
  rcases hd with ⟨hall, Ab⟩ | Ab
  · obtain ⟨_, _, ⟨T10, L10, k10, n10⟩, -, X10, ⟨Lc10, hQ10, l10, y10, z10⟩, st10⟩ := Jvm.LawKit.callS X6 hx (y := (⟨"java/lang/StringUTF16", "coderFromArrayLen", "([BI)B"⟩ : MethodName)) hown (mvT hZ (wd hw 50 rfl)) (mvT hZ (wd hw 51 rfl)) (mvT hZ (wd hw 45 rfl)) (mvT hZ (wd hw 52 rfl)) (by decide) (backOf (W := 1) (rmCF l Z a0 hw [] t kb (2 : Int32) [(.int (own_lo ch0)), (.int (own_lo ch1))] (2 : Int32) (0 : Int32) T6.heap n0 z7 Ab (by decide)) hZ (wd hw 52 rfl) (wd hw 45 rfl) (by decide) (by decide)) (g := (mkF m 45 #[(sr x), (sr ca), (si 0), (si 2), .val .null, (sr t)] [(.int 2), (.ref t), (.ref x)])) rfl (by rw [hml]; rfl) (argsL := [(.ref t), (.int (2 : Int32))]) (rest := [(.ref x)]) (lenOf pd_21 rfl) rfl (by show 2 * 0 + _ ≤ _; exact Nat.le_of_eq rfl) (D d27_45) (fun _ _ => ⟨rfl, rfl, (by decide : 2 + 0 ≤ _), (by decide : 6 + 0 ≤ _)⟩)
    dsimp only [Pt.U, Pt.locs, Pt.cells, Pt.slots] at X10 l10 y10 z10 st10 hQ10
    subst l10 y10 z10
    obtain ⟨rfl, rfl, e10⟩ := hQ10
    have N10 := Fr.app N6 (Fr.nil n0)
    have go10 : Go p e below E0 T10 m 48 #[(sr x), (sr ca), (si 0), (si 2), .val .null, (sr t)] [(.int 0), (.ref x)] := fun tgt kont => go9 tgt (st10 tgt kont)
    have f11 : Fld Z T6.heap x "java/lang/String" "coder" "B" (.int (0 : Int32)) := (Fc.keep Kc nin0)
    have f12 : Exa Z T6.heap x "java/lang/String" := (Ex.keep Kc)
    obtain ⟨T13, h13, X13, e13, W13, st13⟩ := putF X10 hx hZ hown (host := "") (Or.inl (wd hw 22 rfl)) Via.refl e10 f11 f12 (Or.inr ⟨(wd hw 18 rfl), rfl, hnm⟩) (wd hw 3 rfl) (ty := .byte) (by decide) rfl rfl (g := (mkF m 48 #[(sr x), (sr ca), (si 0), (si 2), .val .null, (sr t)] [(.int 0), (.ref x)])) rfl rfl (D d27_48)
    have z14 : n0 ≤ h13.size := Nat.le_trans z7 (Keep.of_wr W13).1
    have K15 : Keep h0 h13 [x] := K8.wr W13 (Or.inl (List.mem_of_getElem? (i := 0) rfl))
    have N13 := Fr.snoc X13 N10 gx
    have f16 : Fld Z h13 x "java/lang/String" "coder" "B" (.int (0 : Int32)) := (f11.same W13)
    have go13 : Go p e below E0 T13 m 51 #[(sr x), (sr ca), (si 0), (si 2), .val .null, (sr t)] [] := fun tgt kont => go10 tgt (st13 tgt kont)
    have go17 : Go p e below E0 T13 m 54 #[(sr x), (sr ca), (si 0), (si 2), .val .null, (sr t)] [(.ref t), (.ref x)] := fun tgt kont => go13 tgt (by
      refine XS.aloadN X13.here hx rfl (D d27_51) rfl rfl ?_; refine XS.aload X13.here hx rfl (D d27_52) rfl rfl ?_; exact kont)
    have f18 : Fld Z h13 x "java/lang/String" "value" "[B" .null := ((Fv.keep Kc nin0).other W13 (Or.inr (slot_ne (Or.inr (wd hw 17 rfl)) (Or.inr (wd hw 18 rfl)) (by decide) (t := (.array .byte)) (t' := .byte) (by decide) (by decide))))
    have f19 : Exa Z h13 x "java/lang/String" := (f12.wr W13)
    obtain ⟨T20, h20, X20, e20, W20, st20⟩ := putF X13 hx hZ hown (host := "") (Or.inl (wd hw 21 rfl)) Via.refl e13 f18 f19 (Or.inr ⟨(wd hw 17 rfl), rfl, hnm⟩) (wd hw 3 rfl) (ty := (.array .byte)) (by decide) rfl rfl (g := (mkF m 54 #[(sr x), (sr ca), (si 0), (si 2), .val .null, (sr t)] [(.ref t), (.ref x)])) rfl rfl (D d27_54)
    have z21 : n0 ≤ h20.size := Nat.le_trans z14 (Keep.of_wr W20).1
    have K22 : Keep h0 h20 [x] := K15.wr W20 (Or.inl (List.mem_of_getElem? (i := 0) rfl))
    have N20 := Fr.snoc X20 N13 gx
    have f23 : Fld Z h20 x "java/lang/String" "value" "[B" (.ref t) := (f18.same W20)
    have go20 : Go p e below E0 T20 m 57 #[(sr x), (sr ca), (si 0), (si 2), .val .null, (sr t)] [] := fun tgt kont => go17 tgt (st20 tgt kont)
    have f24 : Exa Z h20 x "java/lang/String" := (f19.wr W20)
    have f25 : Fld Z h20 x "java/lang/String" "coder" "B" (.int (0 : Int32)) := (f16.other W20 (Or.inr (slot_ne (Or.inr (wd hw 18 rfl)) (Or.inr (wd hw 17 rfl)) (by decide) (t := .byte) (t' := (.array .byte)) (by decide) (by decide))))
    have f26 : Arv Z h20 t kb .byte (2 : Int32) [(.int (own_lo ch0)), (.int (own_lo ch1))] (.int (0 : Int32)) := ((Ab.other W13 (Ne.symm ne_x_t)).other W20 (Ne.symm ne_x_t))
    obtain ⟨fs, hr, hrun, hended, hW, hsame⟩ := X20.leave (v := none) (fun _ => rfl)
    refine ⟨_, _, go20 _ ?_, hrun, hended, _, _, rfl, ?_, ⟨_, rfl⟩, hW, hsame.mono (by decide) (by decide)⟩
    · show Steps p.tables e below (T20.setTop (mkF m 57 #[(sr x), (sr ca), (si 0), (si 2), .val .null, (sr t)] [])) _
      exact X20.returnOut hx Bd.returns (D d27_57) hr
    · show QV2 Z x ca kc ch0 ch1 G fv h0 n0 _ T20.heap _
      rw [e20]
      exact ⟨rfl, N20, K22, t, kb, f24, f23, Or.inl ⟨f25, f26, hall⟩⟩
  · obtain ⟨_, _, ⟨T27, L27, k27, n27⟩, -, X27, ⟨Lc27, hQ27, l27, y27, z27⟩, st27⟩ := Jvm.LawKit.callS X6 hx (y := (⟨"java/lang/StringUTF16", "coderFromArrayLen", "([BI)B"⟩ : MethodName)) hown (mvT hZ (wd hw 50 rfl)) (mvT hZ (wd hw 51 rfl)) (mvT hZ (wd hw 45 rfl)) (mvT hZ (wd hw 52 rfl)) (by decide) (backOf (W := 1) (rmCF l Z a0 hw [] t kb (4 : Int32) [(.int (own_b0 ch0)), (.int (own_b1 ch0)), (.int (own_b0 ch1)), (.int (own_b1 ch1))] (2 : Int32) (1 : Int32) T6.heap n0 z7 Ab (by decide)) hZ (wd hw 52 rfl) (wd hw 45 rfl) (by decide) (by decide)) (g := (mkF m 45 #[(sr x), (sr ca), (si 0), (si 2), .val .null, (sr t)] [(.int 2), (.ref t), (.ref x)])) rfl (by rw [hml]; rfl) (argsL := [(.ref t), (.int (2 : Int32))]) (rest := [(.ref x)]) (lenOf pd_21 rfl) rfl (by show 2 * 0 + _ ≤ _; exact Nat.le_of_eq rfl) (D d27_45) (fun _ _ => ⟨rfl, rfl, (by decide : 2 + 0 ≤ _), (by decide : 6 + 0 ≤ _)⟩)
    dsimp only [Pt.U, Pt.locs, Pt.cells, Pt.slots] at X27 l27 y27 z27 st27 hQ27
    subst l27 y27 z27
    obtain ⟨rfl, rfl, e27⟩ := hQ27
    have N27 := Fr.app N6 (Fr.nil n0)
    have go27 : Go p e below E0 T27 m 48 #[(sr x), (sr ca), (si 0), (si 2), .val .null, (sr t)] [(.int 1), (.ref x)] := fun tgt kont => go9 tgt (st27 tgt kont)
    have f28 : Fld Z T6.heap x "java/lang/String" "coder" "B" (.int (0 : Int32)) := (Fc.keep Kc nin0)
    have f29 : Exa Z T6.heap x "java/lang/String" := (Ex.keep Kc)
    obtain ⟨T30, h30, X30, e30, W30, st30⟩ := putF X27 hx hZ hown (host := "") (Or.inl (wd hw 22 rfl)) Via.refl e27 f28 f29 (Or.inr ⟨(wd hw 18 rfl), rfl, hnm⟩) (wd hw 3 rfl) (ty := .byte) (by decide) rfl rfl (g := (mkF m 48 #[(sr x), (sr ca), (si 0), (si 2), .val .null, (sr t)] [(.int 1), (.ref x)])) rfl rfl (D d27_48)
    have z31 : n0 ≤ h30.size := Nat.le_trans z7 (Keep.of_wr W30).1
    have K32 : Keep h0 h30 [x] := K8.wr W30 (Or.inl (List.mem_of_getElem? (i := 0) rfl))
    have N30 := Fr.snoc X30 N27 gx
    have f33 : Fld Z h30 x "java/lang/String" "coder" "B" (.int (1 : Int32)) := (f28.same W30)
    have go30 : Go p e below E0 T30 m 51 #[(sr x), (sr ca), (si 0), (si 2), .val .null, (sr t)] [] := fun tgt kont => go27 tgt (st30 tgt kont)
    have go34 : Go p e below E0 T30 m 54 #[(sr x), (sr ca), (si 0), (si 2), .val .null, (sr t)] [(.ref t), (.ref x)] := fun tgt kont => go30 tgt (by
      refine XS.aloadN X30.here hx rfl (D d27_51) rfl rfl ?_; refine XS.aload X30.here hx rfl (D d27_52) rfl rfl ?_; exact kont)
    have f35 : Fld Z h30 x "java/lang/String" "value" "[B" .null := ((Fv.keep Kc nin0).other W30 (Or.inr (slot_ne (Or.inr (wd hw 17 rfl)) (Or.inr (wd hw 18 rfl)) (by decide) (t := (.array .byte)) (t' := .byte) (by decide) (by decide))))
    have f36 : Exa Z h30 x "java/lang/String" := (f29.wr W30)
    obtain ⟨T37, h37, X37, e37, W37, st37⟩ := putF X30 hx hZ hown (host := "") (Or.inl (wd hw 21 rfl)) Via.refl e30 f35 f36 (Or.inr ⟨(wd hw 17 rfl), rfl, hnm⟩) (wd hw 3 rfl) (ty := (.array .byte)) (by decide) rfl rfl (g := (mkF m 54 #[(sr x), (sr ca), (si 0), (si 2), .val .null, (sr t)] [(.ref t), (.ref x)])) rfl rfl (D d27_54)
    have z38 : n0 ≤ h37.size := Nat.le_trans z31 (Keep.of_wr W37).1
    have K39 : Keep h0 h37 [x] := K32.wr W37 (Or.inl (List.mem_of_getElem? (i := 0) rfl))
    have N37 := Fr.snoc X37 N30 gx
    have f40 : Fld Z h37 x "java/lang/String" "value" "[B" (.ref t) := (f35.same W37)
    have go37 : Go p e below E0 T37 m 57 #[(sr x), (sr ca), (si 0), (si 2), .val .null, (sr t)] [] := fun tgt kont => go34 tgt (st37 tgt kont)
    have f41 : Exa Z h37 x "java/lang/String" := (f36.wr W37)
    have f42 : Fld Z h37 x "java/lang/String" "coder" "B" (.int (1 : Int32)) := (f33.other W37 (Or.inr (slot_ne (Or.inr (wd hw 18 rfl)) (Or.inr (wd hw 17 rfl)) (by decide) (t := .byte) (t' := (.array .byte)) (by decide) (by decide))))
    have f43 : Arv Z h37 t kb .byte (4 : Int32) [(.int (own_b0 ch0)), (.int (own_b1 ch0)), (.int (own_b0 ch1)), (.int (own_b1 ch1))] (.int (0 : Int32)) := ((Ab.other W30 (Ne.symm ne_x_t)).other W37 (Ne.symm ne_x_t))
    obtain ⟨fs, hr, hrun, hended, hW, hsame⟩ := X37.leave (v := none) (fun _ => rfl)
    refine ⟨_, _, go37 _ ?_, hrun, hended, _, _, rfl, ?_, ⟨_, rfl⟩, hW, hsame.mono (by decide) (by decide)⟩
    · show Steps p.tables e below (T37.setTop (mkF m 57 #[(sr x), (sr ca), (si 0), (si 2), .val .null, (sr t)] [])) _
      exact X37.returnOut hx Bd.returns (D d27_57) hr
    · show QV2 Z x ca kc ch0 ch1 G fv h0 n0 _ T37.heap _
      rw [e37]
      exact ⟨rfl, N37, K39, t, kb, f41, f40, Or.inr ⟨f42, f43⟩⟩
theorem ef_N2 (m : MethodId) (x0 : Addr) (x1 : Addr) : entryFrame m #[(.ref x0), (.ref x1)] 2 = mkF m 0 #[.val (.ref x0), .val (.ref x1)] [] := by first | (simp [entryFrame, mkF, argsToLocals, Value.category, maxLocals]; done) | rfl
def QN2 (Z : State) (x : Addr) (ca : Addr) (kc : ClassId) (ch0 : Int32) (ch1 : Int32) (G : Int32) (fv : Value) (h0 : Heap) (n0 : Nat) (v : Option Value) (h : Heap) (L : List Loc) : Prop := v = none ∧ Fr n0 L ∧ Keep h0 h [x] ∧ own_S2 Z h x ch0 ch1
abbrev RmN2 : Room := ({ frames := 5, cells := 2, slots := 6, locals := 74 } : Room)
set_option maxRecDepth 65536 in
set_option maxHeartbeats 40000000 in
theorem rmN2 (l : Launch) (Z : State) (a0 : Array Value) (hw : ∀ d ∈ tables_1, d.before a0 Z = true) (ws : List Jvm.Cond) (x : Addr) (ca : Addr) (kc : ClassId) (ch0 : Int32) (ch1 : Int32) (G : Int32) (fv : Value) (h0 : Heap) (n0 : Nat) (Z0 : n0 ≤ h0.size) (Ex : Exa Z h0 x "java/lang/String") (gx : n0 ≤ x) (Fv : Fld Z h0 x "java/lang/String" "value" "[B" .null) (Fc : Fld Z h0 x "java/lang/String" "coder" "B" (.int (0 : Int32))) (Ac : Arv Z h0 ca kc .char (2 : Int32) [(.int ch0), (.int ch1)] (.int (0 : Int32))) (kch0 : own_ch ch0) (kch1 : own_ch ch1) (W0 : own_W Z G fv) (O0 : Old Z n0 h0) :
    MetFree l (⟨"java/lang/String", "<init>", "([C)V"⟩ : MethodName) (head1 (Jvm.Cond.code (⟨"java/lang/String", "<init>", "([C)V"⟩ : MethodName) jdk_42_method_3_code 2 none :: ws) RmN2) (fun as_ U => as_ = #[(.ref x), (.ref ca)] ∧ Z.Warmed39 U.vm ∧ U.heap = h0) (fun _ _ _ _ _ => True) (fun _ U o U' => ∃ v L, o = .returned v ∧ QN2 Z x ca kc ch0 ch1 G fv h0 n0 v U'.heap L ∧ FrameEnd U o U' L RmN2.cells RmN2.slots) := by
  refine MetFree.of_bodySF (plainFor_of_name pn_2) hisR ?_
  intro p e s m args below meth c s₁ Bd hml0 hP hK
  obtain ⟨rfl, hZ, hh⟩ := hP
  have hx := Bd.exec
  have hby := Bd.bytes
  have D : ∀ {pc : Nat} {r : Except DecodeError (Instr × Nat)}, decode jdk_42_method_3_code pc = r → decode c.code pc = r := fun q => hb hby q
  have hml : c.maxLocals = 2 := hml0
  have hown : s.vm.findClass "java/lang/String" = some m.cls := findClass_of_methodNamed Bd.named
  have hnm := (name_of_methodNamed Bd.named Bd.method).1
  have X0 : Stand p l e RmN2 s m #[(.ref x), (.ref ca)] below meth c s₁ [] 0 0 := Stand.of_body Bd
  have e0 : s₁.heap = h0 := by rw [← hh, Bd.state]; rfl
  have N0 := Fr.nil n0
  obtain ⟨E0, hE0⟩ : ∃ z, z = s₁.setTop (entryFrame m #[(.ref x), (.ref ca)] 2) := ⟨_, rfl⟩
  rw [← hE0]
  have go0 : ∀ tgt, Steps p.tables e below (s₁.setTop (mkF m 0 #[(sr x), (sr ca)] [])) tgt → Steps p.tables e below E0 tgt := fun tgt kont => by rw [hE0]; exact castTop (ef_N2 m x ca) kont
  have go1 : Go p e below E0 s₁ m 4 #[(sr x), (sr ca)] [(.ref ca), (.int 0), (.ref ca), (.ref x)] := fun tgt kont => go0 tgt (by
    refine XS.aloadN X0.here hx rfl (D d28_0) rfl rfl ?_; refine XS.aloadN X0.here hx rfl (D d28_1) rfl rfl ?_; refine XS.iconst X0.here hx rfl (D d28_2) ?_; refine XS.aloadN X0.here hx rfl (D d28_3) rfl rfl ?_; exact kont)
  obtain ⟨c2, Ar2, q2, S2, M2, -, -⟩ := id Ac
  have go3 : Go p e below E0 s₁ m 6 #[(sr x), (sr ca)] [.null, (.int 2), (.int 0), (.ref ca), (.ref x)] := fun tgt kont => go1 tgt (by
    refine X0.arraylength hx (by rw [e0]; exact Ar2.1) (State.isArrayOf_alike hZ.alike Ar2.2.1) (g := (mkF m 4 #[(sr x), (sr ca)] [(.ref ca), (.int 0), (.ref ca), (.ref x)])) rfl rfl (D d28_4) _ ?_; rw [len_of S2 M2]; refine XS.aconstNull X0.here hx rfl (D d28_5) ?_; exact kont)
  obtain ⟨_, _, ⟨T4, L4, k4, n4⟩, -, X4, ⟨Lc4, hQ4, l4, y4, z4⟩, st4⟩ := X0.specialBack hx (y := (⟨"java/lang/String", "<init>", "([CIILjava/lang/Void;)V"⟩ : MethodName)) rfl hown (mvT hZ (wd hw 8 rfl)) (mvT hZ (wd hw 9 rfl)) (mvT hZ (wd hw 11 rfl)) (by decide) (backOf (W := 0) (rmV2 l Z a0 hw [] x ca kc ch0 ch1 G fv h0 n0 Z0 Ex gx Fv Fc Ac kch0 kch1 W0 O0) hZ (wd hw 11 rfl) (wd hw 4 rfl) (by decide) (by decide)) (g := (mkF m 6 #[(sr x), (sr ca)] [.null, (.int 2), (.int 0), (.ref ca), (.ref x)])) rfl (by rw [hml]; rfl) (Steps.refl _) (a := x) (argsL := [(.ref ca), (.int (0 : Int32)), (.int (2 : Int32)), .null]) (rest := []) (lenOf pd_22 rfl) rfl (by show 2 * 0 + _ ≤ _; exact Nat.le_of_eq rfl) (D d28_6) (fun _ _ => ⟨rfl, e0, (by decide : 0 + 2 ≤ _), (by decide : 0 + 6 ≤ _)⟩)
  dsimp only [Pt.U, Pt.locs, Pt.cells, Pt.slots] at X4 l4 y4 z4 st4 hQ4
  subst l4 y4 z4
  obtain ⟨rfl, N4q, K1, S1⟩ := hQ4
  have N4 := Fr.app N0 N4q
  have z5 : n0 ≤ T4.heap.size := Nat.le_trans Z0 K1.1
  have K6 : Keep h0 T4.heap [x] := (Keep.refl h0 [x]).trans K1 (allS (Or.inl (List.mem_of_getElem? (i := 0) rfl)) all0)
  have go4 : Go p e below E0 T4 m 9 #[(sr x), (sr ca)] [] := fun tgt kont => go3 tgt (st4.trans kont)
  obtain ⟨fs, hr, hrun, hended, hW, hsame⟩ := X4.leave (v := none) (fun _ => rfl)
  refine ⟨_, _, go4 _ ?_, hrun, hended, _, _, rfl, ?_, ⟨_, rfl⟩, hW, hsame.mono (by decide) (by decide)⟩
  · show Steps p.tables e below (T4.setTop (mkF m 9 #[(sr x), (sr ca)] [])) _
    exact X4.returnOut hx Bd.returns (D d28_9) hr
  · show QN2 Z x ca kc ch0 ch1 G fv h0 n0 _ T4.heap _
    exact ⟨rfl, N4, K6, S1⟩
theorem ef_NL3 (m : MethodId) (x0 : Int32) : entryFrame m #[(.int x0)] 1 = mkF m 0 #[.val (.int x0)] [] := by first | (simp [entryFrame, mkF, argsToLocals, Value.category, maxLocals]; done) | rfl
def QNL3 (Z : State) (h0 : Heap) (n0 : Nat) (v : Option Value) (h : Heap) (L : List Loc) : Prop := v = some (.int (6 : Int32)) ∧ L = [] ∧ h = h0
abbrev RmNL3 : Room := ({ frames := 0, cells := 0, slots := 0, locals := 0 } : Room)
set_option maxRecDepth 65536 in
set_option maxHeartbeats 40000000 in
theorem rmNL3 (l : Launch) (Z : State) (a0 : Array Value) (hw : ∀ d ∈ tables_1, d.before a0 Z = true) (ws : List Jvm.Cond) (h0 : Heap) (n0 : Nat) (Z0 : n0 ≤ h0.size) :
    MetFree l (⟨"java/lang/StringUTF16", "newBytesLength", "(I)I"⟩ : MethodName) (head1 (Jvm.Cond.code (⟨"java/lang/StringUTF16", "newBytesLength", "(I)I"⟩ : MethodName) jdk_52_method_3_code 1 (some .int) :: ws) RmNL3) (fun as_ U => as_ = #[(.int (3 : Int32))] ∧ Z.Warmed39 U.vm ∧ U.heap = h0) (fun _ _ _ _ _ => True) (fun _ U o U' => ∃ v L, o = .returned v ∧ QNL3 Z h0 n0 v U'.heap L ∧ FrameEnd U o U' L RmNL3.cells RmNL3.slots) := by
  refine MetFree.of_bodySF (plainFor_of_name pn_5) hisR ?_
  intro p e s m args below meth c s₁ Bd hml0 hP hK
  obtain ⟨rfl, hZ, hh⟩ := hP
  have hx := Bd.exec
  have hby := Bd.bytes
  have D : ∀ {pc : Nat} {r : Except DecodeError (Instr × Nat)}, decode jdk_52_method_3_code pc = r → decode c.code pc = r := fun q => hb hby q
  have hml : c.maxLocals = 1 := hml0
  have hown : s.vm.findClass "java/lang/StringUTF16" = some m.cls := findClass_of_methodNamed Bd.named
  have hnm := (name_of_methodNamed Bd.named Bd.method).1
  have X0 : Stand p l e RmNL3 s m #[(.int (3 : Int32))] below meth c s₁ [] 0 0 := Stand.of_body Bd
  have e0 : s₁.heap = h0 := by rw [← hh, Bd.state]; rfl
  have N0 := Fr.nil n0
  obtain ⟨E0, hE0⟩ : ∃ z, z = s₁.setTop (entryFrame m #[(.int (3 : Int32))] 1) := ⟨_, rfl⟩
  rw [← hE0]
  have go0 : ∀ tgt, Steps p.tables e below (s₁.setTop (mkF m 0 #[(si 3)] [])) tgt → Steps p.tables e below E0 tgt := fun tgt kont => by rw [hE0]; exact castTop (ef_NL3 m (3 : Int32)) kont
  have go1 : Go p e below E0 s₁ m 58 #[(si 3)] [(.int ((3 : Int32) <<< ((1 : Int32) &&& 31)))] := fun tgt kont => go0 tgt (by
    refine XS.iloadN X0.here hx rfl (D d21_0) rfl ?_; refine XS.ifYes X0.here hx rfl (pc0 := 1) (pc' := 12) rfl (D d21_1) rfl ((if0 _ _).trans (flt (by decide)).2.1) (by decide) (by decide) ?_; refine XS.iloadN X0.here hx rfl (D d21_12) rfl ?_; refine X0.ldcInt hx hown (mvT hZ (wd hw 116 rfl)) (g := (mkF m 13 #[(si 3)] [(.int 3)])) rfl (D d21_13) _ ?_; refine XS.icmpYes X0.here hx rfl (pc0 := 15) (pc' := 55) rfl (D d21_15) rfl (tlt (by decide)).1 (by decide) (by decide) ?_; refine XS.iloadN X0.here hx rfl (D d21_55) rfl ?_; refine XS.iconst X0.here hx rfl (D d21_56) ?_; refine XS.ishl X0.here hx rfl (D d21_57) rfl ?_; exact kont)
  obtain ⟨fs, hr, hrun, hended, hW, hsame⟩ := X0.leave (v := some (.int ((3 : Int32) <<< ((1 : Int32) &&& 31)))) (fun h => by rw [Bd.returns] at h; cases h)
  refine ⟨_, _, go1 _ ?_, hrun, hended, _, _, rfl, ?_, ⟨_, rfl⟩, hW, hsame.mono (by decide) (by decide)⟩
  · show Steps p.tables e below (s₁.setTop (mkF m 58 #[(si 3)] [(.int ((3 : Int32) <<< ((1 : Int32) &&& 31)))])) _
    exact retOut X0 hx Bd.returns rfl (Or.inl ⟨rfl, Or.inl rfl, _, rfl⟩) (D d21_58) hr
  · show QNL3 Z h0 n0 _ s₁.heap _
    rw [e0]
    exact ⟨congrArg (fun q => some (Value.int q)) (by decide : ((3 : Int32) <<< ((1 : Int32) &&& 31)) = (6 : Int32)), rfl, rfl⟩
theorem ef_NF3 (m : MethodId) (x0 : Int32) : entryFrame m #[(.int x0)] 1 = mkF m 0 #[.val (.int x0)] [] := by first | (simp [entryFrame, mkF, argsToLocals, Value.category, maxLocals]; done) | rfl
def QNF3 (Z : State) (h0 : Heap) (n0 : Nat) (v : Option Value) (h : Heap) (L : List Loc) : Prop := ∃ kb : ClassId, v = some (.ref h0.size) ∧ Fr n0 L ∧ Keep h0 h [] ∧ Arv Z h h0.size kb .byte (6 : Int32) [] (.int (0 : Int32))
abbrev RmNF3 : Room := ({ frames := 1, cells := 1, slots := 6, locals := 12 } : Room)
set_option maxRecDepth 65536 in
set_option maxHeartbeats 40000000 in
theorem rmNF3 (l : Launch) (Z : State) (a0 : Array Value) (hw : ∀ d ∈ tables_1, d.before a0 Z = true) (ws : List Jvm.Cond) (h0 : Heap) (n0 : Nat) (Z0 : n0 ≤ h0.size) :
    MetFree l (⟨"java/lang/StringUTF16", "newBytesFor", "(I)[B"⟩ : MethodName) (head1 (Jvm.Cond.code (⟨"java/lang/StringUTF16", "newBytesFor", "(I)[B"⟩ : MethodName) jdk_52_method_2_code 1 (some (.array .byte)) :: ws) RmNF3) (fun as_ U => as_ = #[(.int (3 : Int32))] ∧ Z.Warmed39 U.vm ∧ U.heap = h0) (fun _ _ _ _ _ => True) (fun _ U o U' => ∃ v L, o = .returned v ∧ QNF3 Z h0 n0 v U'.heap L ∧ FrameEnd U o U' L RmNF3.cells RmNF3.slots) := by
  refine MetFree.of_bodySF (plainFor_of_name pn_5) hisR ?_
  intro p e s m args below meth c s₁ Bd hml0 hP hK
  obtain ⟨rfl, hZ, hh⟩ := hP
  have hx := Bd.exec
  have hby := Bd.bytes
  have D : ∀ {pc : Nat} {r : Except DecodeError (Instr × Nat)}, decode jdk_52_method_2_code pc = r → decode c.code pc = r := fun q => hb hby q
  have hml : c.maxLocals = 1 := hml0
  have hown : s.vm.findClass "java/lang/StringUTF16" = some m.cls := findClass_of_methodNamed Bd.named
  have hnm := (name_of_methodNamed Bd.named Bd.method).1
  have X0 : Stand p l e RmNF3 s m #[(.int (3 : Int32))] below meth c s₁ [] 0 0 := Stand.of_body Bd
  have e0 : s₁.heap = h0 := by rw [← hh, Bd.state]; rfl
  have N0 := Fr.nil n0
  obtain ⟨E0, hE0⟩ : ∃ z, z = s₁.setTop (entryFrame m #[(.int (3 : Int32))] 1) := ⟨_, rfl⟩
  rw [← hE0]
  have go0 : ∀ tgt, Steps p.tables e below (s₁.setTop (mkF m 0 #[(si 3)] [])) tgt → Steps p.tables e below E0 tgt := fun tgt kont => by rw [hE0]; exact castTop (ef_NF3 m (3 : Int32)) kont
  have go1 : Go p e below E0 s₁ m 1 #[(si 3)] [(.int 3)] := fun tgt kont => go0 tgt (by
    refine XS.iloadN X0.here hx rfl (D d22_0) rfl ?_; exact kont)
  obtain ⟨_, _, ⟨T2, L2, k2, n2⟩, -, X2, ⟨Lc2, hQ2, l2, y2, z2⟩, st2⟩ := Jvm.LawKit.callS X0 hx (y := (⟨"java/lang/StringUTF16", "newBytesLength", "(I)I"⟩ : MethodName)) hown (mvT hZ (wd hw 113 rfl)) (mvT hZ (wd hw 114 rfl)) (mvT hZ (wd hw 45 rfl)) (mvT hZ (wd hw 115 rfl)) (by decide) (backOf (W := 0) (rmNL3 l Z a0 hw []  h0 n0 Z0 ) hZ (wd hw 115 rfl) (wd hw 45 rfl) (by decide) (by decide)) (g := (mkF m 1 #[(si 3)] [(.int 3)])) rfl (by rw [hml]; rfl) (argsL := [(.int (3 : Int32))]) (rest := []) (lenOf pd_16 rfl) rfl (by show 2 * 0 + _ ≤ _; exact Nat.le_of_eq rfl) (D d22_1) (fun _ _ => ⟨rfl, e0, (by decide : 0 + 0 ≤ _), (by decide : 0 + 0 ≤ _)⟩)
  dsimp only [Pt.U, Pt.locs, Pt.cells, Pt.slots] at X2 l2 y2 z2 st2 hQ2
  subst l2 y2 z2
  obtain ⟨rfl, rfl, e2⟩ := hQ2
  have N2 := Fr.app N0 (Fr.nil n0)
  have go2 : Go p e below E0 T2 m 4 #[(si 3)] [(.int 6)] := fun tgt kont => go1 tgt (st2 tgt kont)
  obtain ⟨T3, h3, k3, X3, e3, E3, A3, st3⟩ := newP X2 hx hZ (wd hw 16 rfl) e2 (g := (mkF m 4 #[(si 3)] [(.int 6)])) rfl (D d22_4) rfl (by decide) (cap := 6) (by decide) (by decide) (by decide) (by decide)
  obtain ⟨t, g3⟩ : ∃ z, z = h0.size := ⟨_, rfl⟩
  rw [← g3] at A3 st3
  have ge_t : n0 ≤ t := Nat.le_trans Z0 (Nat.le_of_eq g3.symm)
  have hz_t : h0.size ≤ t := Nat.le_trans (Keep.refl h0 []).1 (Nat.le_of_eq g3.symm)
  have z4 : n0 ≤ h3.size := Nat.le_trans Z0 E3.1
  have K5 : Keep h0 h3 [] := (Keep.refl h0 []).ext E3
  have V3 : Arv Z h3 t k3 .byte (6 : Int32) [] (.int (0 : Int32)) := Arv.new A3 (by decide)
  have go3 : Go p e below E0 T3 m 6 #[(si 3)] [(.ref t)] := fun tgt kont => go2 tgt (st3 tgt kont)
  subst g3
  obtain ⟨fs, hr, hrun, hended, hW, hsame⟩ := X3.leave (v := some (.ref h0.size)) (fun h => by rw [Bd.returns] at h; cases h)
  refine ⟨_, _, go3 _ ?_, hrun, hended, _, _, rfl, ?_, ⟨_, rfl⟩, hW, hsame.mono (by decide) (by decide)⟩
  · show Steps p.tables e below (T3.setTop (mkF m 6 #[(si 3)] [(.ref h0.size)])) _
    exact retOut X3 hx Bd.returns rfl (Or.inr (Or.inr (Or.inr (Or.inr ⟨rfl, rfl, rfl⟩)))) (D d22_6) hr
  · show QNF3 Z h0 n0 _ T3.heap _
    rw [e3]
    exact ⟨_, rfl, N2, K5, V3⟩
theorem ef_PU30 (m : MethodId) (x0 : Addr) (x1 : Int32) (x2 : Int32) : entryFrame m #[(.ref x0), (.int x1), (.int x2)] 3 = mkF m 0 #[.val (.ref x0), .val (.int x1), .val (.int x2)] [] := by first | (simp [entryFrame, mkF, argsToLocals, Value.category, maxLocals]; done) | rfl
def QPU30 (Z : State) (t : Addr) (kb : ClassId) (ch0 : Int32) (G : Int32) (fv : Value) (h0 : Heap) (n0 : Nat) (v : Option Value) (h : Heap) (L : List Loc) : Prop := v = none ∧ Fr n0 L ∧ Keep h0 h [t] ∧ Arv Z h t kb .byte (6 : Int32) [(.int (own_b0 ch0)), (.int (own_b1 ch0))] (.int (0 : Int32))
abbrev RmPU30 : Room := ({ frames := 0, cells := 0, slots := 0, locals := 0 } : Room)
set_option maxRecDepth 65536 in
set_option maxHeartbeats 40000000 in
theorem rmPU30 (l : Launch) (Z : State) (a0 : Array Value) (hw : ∀ d ∈ tables_1, d.before a0 Z = true) (ws : List Jvm.Cond) (t : Addr) (kb : ClassId) (ch0 : Int32) (G : Int32) (fv : Value) (h0 : Heap) (n0 : Nat) (Z0 : n0 ≤ h0.size) (A0 : Arv Z h0 t kb .byte (6 : Int32) [] (.int (0 : Int32))) (gt : n0 ≤ t) (W0 : own_W Z G fv) (O0 : Old Z n0 h0) :
    MetFree l (⟨"java/lang/StringUTF16", "putChar", "([BII)V"⟩ : MethodName) (head1 (Jvm.Cond.code (⟨"java/lang/StringUTF16", "putChar", "([BII)V"⟩ : MethodName) jdk_52_method_4_code 3 none :: ws) RmPU30) (fun as_ U => as_ = #[(.ref t), (.int (0 : Int32)), (.int ch0)] ∧ Z.Warmed39 U.vm ∧ U.heap = h0) (fun _ _ _ _ _ => True) (fun _ U o U' => ∃ v L, o = .returned v ∧ QPU30 Z t kb ch0 G fv h0 n0 v U'.heap L ∧ FrameEnd U o U' L RmPU30.cells RmPU30.slots) := by
  refine MetFree.of_bodySF (plainFor_of_name pn_5) hisR ?_
  intro p e s m args below meth c s₁ Bd hml0 hP hK
  obtain ⟨rfl, hZ, hh⟩ := hP
  have hx := Bd.exec
  have hby := Bd.bytes
  have D : ∀ {pc : Nat} {r : Except DecodeError (Instr × Nat)}, decode jdk_52_method_4_code pc = r → decode c.code pc = r := fun q => hb hby q
  have hml : c.maxLocals = 3 := hml0
  have hown : s.vm.findClass "java/lang/StringUTF16" = some m.cls := findClass_of_methodNamed Bd.named
  have hnm := (name_of_methodNamed Bd.named Bd.method).1
  have X0 : Stand p l e RmPU30 s m #[(.ref t), (.int (0 : Int32)), (.int ch0)] below meth c s₁ [] 0 0 := Stand.of_body Bd
  have e0 : s₁.heap = h0 := by rw [← hh, Bd.state]; rfl
  have N0 := Fr.nil n0
  obtain ⟨E0, hE0⟩ : ∃ z, z = s₁.setTop (entryFrame m #[(.ref t), (.int (0 : Int32)), (.int ch0)] 3) := ⟨_, rfl⟩
  rw [← hE0]
  have go0 : ∀ tgt, Steps p.tables e below (s₁.setTop (mkF m 0 #[(sr t), (si 0), (si ch0)] [])) tgt → Steps p.tables e below E0 tgt := fun tgt kont => by rw [hE0]; exact castTop (ef_PU30 m t (0 : Int32) ch0) kont
  obtain ⟨T1, X1, e1, st1⟩ := getS2 X0 hx hZ hown (host := "") (Or.inl (wd hw 120 rfl)) Via.refl e0 (W0.2.2.2.2.1.ext O0.2) (g := (mkF m 0 #[(sr t), (si 0), (si ch0)] [])) rfl (D d23_0)
  have go1 : Go p e below E0 T1 m 3 #[(sr t), (si 0), (si ch0)] [(.int 1)] := fun tgt kont => go0 tgt (st1 tgt kont)
  have go2 : Go p e below E0 T1 m 38 #[(sr t), (si (((0 : Int32) <<< ((1 : Int32) &&& 31)) + (1 : Int32))), (si ch0)] [(.int ch0), (.int ((0 : Int32) <<< ((1 : Int32) &&& 31))), (.ref t)] := fun tgt kont => go1 tgt (by
    refine XS.ifYes X1.here hx rfl (pc0 := 3) (pc' := 28) rfl (D d23_3) rfl ((if0 _ _).trans (feq (by decide)).2) (by decide) (by decide) ?_; refine XS.iloadN X1.here hx rfl (D d23_28) rfl ?_; refine XS.iconst X1.here hx rfl (D d23_29) ?_; refine XS.ishl X1.here hx rfl (D d23_30) rfl ?_; refine XS.istoreN X1.here hx rfl (D d23_31) rfl (l' := #[(sr t), (si ((0 : Int32) <<< ((1 : Int32) &&& 31))), (si ch0)]) rfl ?_; refine XS.aloadN X1.here hx rfl (D d23_32) rfl rfl ?_; refine XS.iloadN X1.here hx rfl (D d23_33) rfl ?_; refine XS.iinc X1.here hx rfl (D d23_34) rfl (l' := #[(sr t), (si (((0 : Int32) <<< ((1 : Int32) &&& 31)) + (1 : Int32))), (si ch0)]) rfl ?_; refine XS.iloadN X1.here hx rfl (D d23_37) rfl ?_; exact kont)
  obtain ⟨T3, X3, e3, st3⟩ := getS2 X1 hx hZ hown (host := "") (Or.inl (wd hw 121 rfl)) Via.refl e1 (W0.2.2.2.2.2.1.ext O0.2) (g := (mkF m 38 #[(sr t), (si (((0 : Int32) <<< ((1 : Int32) &&& 31)) + (1 : Int32))), (si ch0)] [(.int ch0), (.int ((0 : Int32) <<< ((1 : Int32) &&& 31))), (.ref t)])) rfl (D d23_38)
  have go3 : Go p e below E0 T3 m 41 #[(sr t), (si (((0 : Int32) <<< ((1 : Int32) &&& 31)) + (1 : Int32))), (si ch0)] [(.int 0), (.int ch0), (.int ((0 : Int32) <<< ((1 : Int32) &&& 31))), (.ref t)] := fun tgt kont => go2 tgt (st3 tgt kont)
  have go4 : Go p e below E0 T3 m 43 #[(sr t), (si (((0 : Int32) <<< ((1 : Int32) &&& 31)) + (1 : Int32))), (si ch0)] [(.int ((ch0 >>> ((0 : Int32) &&& 31)).toInt8.toInt32)), (.int ((0 : Int32) <<< ((1 : Int32) &&& 31))), (.ref t)] := fun tgt kont => go3 tgt (by
    refine XS.ishr X3.here hx rfl (D d23_41) rfl ?_; refine XS.i2b X3.here hx rfl (D d23_42) rfl ?_; exact kont)
  have p5 : Arv Z h0 t kb .byte (6 : Int32) [(.int (0 : Int32))] (.int (0 : Int32)) := A0.pad (pad_rep [] (.int (0 : Int32)) 1)
  obtain ⟨c6, Ar6, q6, S6, M6, Hh6, G6⟩ := id p5
  obtain ⟨T6, h6, X6, e6, W6, st6⟩ := stB X3 hx hZ e3 Ar6 (j := ((0 : Int32) <<< ((1 : Int32) &&& 31))) (inb_of S6 ⟨by decide, by decide⟩) (g := (mkF m 43 #[(sr t), (si (((0 : Int32) <<< ((1 : Int32) &&& 31)) + (1 : Int32))), (si ch0)] [(.int ((ch0 >>> ((0 : Int32) &&& 31)).toInt8.toInt32)), (.int ((0 : Int32) <<< ((1 : Int32) &&& 31))), (.ref t)])) rfl rfl (D d23_43)
  have z7 : n0 ≤ h6.size := Nat.le_trans Z0 (Keep.of_wr W6).1
  have K8 : Keep h0 h6 [t] := (Keep.refl h0 [t]).wr W6 (Or.inl (List.mem_of_getElem? (i := 0) rfl))
  have N6 := Fr.snoc X6 N0 gt
  have f9 : Arv Z h6 t kb .byte (6 : Int32) [(.int (nar .byte ((ch0 >>> ((0 : Int32) &&& 31)).toInt8.toInt32)))] (.int (0 : Int32)) := Arv.set Ar6 q6 S6 M6 Hh6 G6 (fits_nar_byte _) W6 0 (by decide) (Nat.le_of_ble_eq_true rfl)
  have go6 : Go p e below E0 T6 m 44 #[(sr t), (si (((0 : Int32) <<< ((1 : Int32) &&& 31)) + (1 : Int32))), (si ch0)] [] := fun tgt kont => go4 tgt (st6 tgt kont)
  have f10 : Old Z n0 h6 := (O0.wr W6 gt)
  have go11 : Go p e below E0 T6 m 47 #[(sr t), (si (((0 : Int32) <<< ((1 : Int32) &&& 31)) + (1 : Int32))), (si ch0)] [(.int ch0), (.int (((0 : Int32) <<< ((1 : Int32) &&& 31)) + (1 : Int32))), (.ref t)] := fun tgt kont => go6 tgt (by
    refine XS.aloadN X6.here hx rfl (D d23_44) rfl rfl ?_; refine XS.iloadN X6.here hx rfl (D d23_45) rfl ?_; refine XS.iloadN X6.here hx rfl (D d23_46) rfl ?_; exact kont)
  obtain ⟨T12, X12, e12, st12⟩ := getS2 X6 hx hZ hown (host := "") (Or.inl (wd hw 122 rfl)) Via.refl e6 (W0.2.2.2.2.2.2.ext f10.2) (g := (mkF m 47 #[(sr t), (si (((0 : Int32) <<< ((1 : Int32) &&& 31)) + (1 : Int32))), (si ch0)] [(.int ch0), (.int (((0 : Int32) <<< ((1 : Int32) &&& 31)) + (1 : Int32))), (.ref t)])) rfl (D d23_47)
  have go12 : Go p e below E0 T12 m 50 #[(sr t), (si (((0 : Int32) <<< ((1 : Int32) &&& 31)) + (1 : Int32))), (si ch0)] [(.int 8), (.int ch0), (.int (((0 : Int32) <<< ((1 : Int32) &&& 31)) + (1 : Int32))), (.ref t)] := fun tgt kont => go11 tgt (st12 tgt kont)
  have go13 : Go p e below E0 T12 m 52 #[(sr t), (si (((0 : Int32) <<< ((1 : Int32) &&& 31)) + (1 : Int32))), (si ch0)] [(.int ((ch0 >>> ((8 : Int32) &&& 31)).toInt8.toInt32)), (.int (((0 : Int32) <<< ((1 : Int32) &&& 31)) + (1 : Int32))), (.ref t)] := fun tgt kont => go12 tgt (by
    refine XS.ishr X12.here hx rfl (D d23_50) rfl ?_; refine XS.i2b X12.here hx rfl (D d23_51) rfl ?_; exact kont)
  have p14 : Arv Z h6 t kb .byte (6 : Int32) [(.int (nar .byte ((ch0 >>> ((0 : Int32) &&& 31)).toInt8.toInt32))), (.int (0 : Int32))] (.int (0 : Int32)) := f9.pad (pad_rep [(.int (nar .byte ((ch0 >>> ((0 : Int32) &&& 31)).toInt8.toInt32)))] (.int (0 : Int32)) 1)
  obtain ⟨c15, Ar15, q15, S15, M15, Hh15, G15⟩ := id p14
  obtain ⟨T15, h15, X15, e15, W15, st15⟩ := stB X12 hx hZ e12 Ar15 (j := (((0 : Int32) <<< ((1 : Int32) &&& 31)) + (1 : Int32))) (inb_of S15 ⟨by decide, by decide⟩) (g := (mkF m 52 #[(sr t), (si (((0 : Int32) <<< ((1 : Int32) &&& 31)) + (1 : Int32))), (si ch0)] [(.int ((ch0 >>> ((8 : Int32) &&& 31)).toInt8.toInt32)), (.int (((0 : Int32) <<< ((1 : Int32) &&& 31)) + (1 : Int32))), (.ref t)])) rfl rfl (D d23_52)
  have z16 : n0 ≤ h15.size := Nat.le_trans z7 (Keep.of_wr W15).1
  have K17 : Keep h0 h15 [t] := K8.wr W15 (Or.inl (List.mem_of_getElem? (i := 0) rfl))
  have N15 := Fr.snoc X15 N6 gt
  have f18 : Arv Z h15 t kb .byte (6 : Int32) [(.int (nar .byte ((ch0 >>> ((0 : Int32) &&& 31)).toInt8.toInt32))), (.int (nar .byte ((ch0 >>> ((8 : Int32) &&& 31)).toInt8.toInt32)))] (.int (0 : Int32)) := Arv.set Ar15 q15 S15 M15 Hh15 G15 (fits_nar_byte _) W15 1 (by decide) (Nat.le_of_ble_eq_true rfl)
  have go15 : Go p e below E0 T15 m 53 #[(sr t), (si (((0 : Int32) <<< ((1 : Int32) &&& 31)) + (1 : Int32))), (si ch0)] [] := fun tgt kont => go13 tgt (st15 tgt kont)
  obtain ⟨fs, hr, hrun, hended, hW, hsame⟩ := X15.leave (v := none) (fun _ => rfl)
  refine ⟨_, _, go15 _ ?_, hrun, hended, _, _, rfl, ?_, ⟨_, rfl⟩, hW, hsame.mono (by decide) (by decide)⟩
  · show Steps p.tables e below (T15.setTop (mkF m 53 #[(sr t), (si (((0 : Int32) <<< ((1 : Int32) &&& 31)) + (1 : Int32))), (si ch0)] [])) _
    exact X15.returnOut hx Bd.returns (D d23_53) hr
  · show QPU30 Z t kb ch0 G fv h0 n0 _ T15.heap _
    rw [e15]
    exact ⟨rfl, N15, K17, f18⟩
theorem ef_PU31 (m : MethodId) (x0 : Addr) (x1 : Int32) (x2 : Int32) : entryFrame m #[(.ref x0), (.int x1), (.int x2)] 3 = mkF m 0 #[.val (.ref x0), .val (.int x1), .val (.int x2)] [] := by first | (simp [entryFrame, mkF, argsToLocals, Value.category, maxLocals]; done) | rfl
def QPU31 (Z : State) (t : Addr) (kb : ClassId) (ch0 : Int32) (ch1 : Int32) (G : Int32) (fv : Value) (h0 : Heap) (n0 : Nat) (v : Option Value) (h : Heap) (L : List Loc) : Prop := v = none ∧ Fr n0 L ∧ Keep h0 h [t] ∧ Arv Z h t kb .byte (6 : Int32) [(.int (own_b0 ch0)), (.int (own_b1 ch0)), (.int (own_b0 ch1)), (.int (own_b1 ch1))] (.int (0 : Int32))
abbrev RmPU31 : Room := ({ frames := 0, cells := 0, slots := 0, locals := 0 } : Room)
set_option maxRecDepth 65536 in
set_option maxHeartbeats 40000000 in
theorem rmPU31 (l : Launch) (Z : State) (a0 : Array Value) (hw : ∀ d ∈ tables_1, d.before a0 Z = true) (ws : List Jvm.Cond) (t : Addr) (kb : ClassId) (ch0 : Int32) (ch1 : Int32) (G : Int32) (fv : Value) (h0 : Heap) (n0 : Nat) (Z0 : n0 ≤ h0.size) (A0 : Arv Z h0 t kb .byte (6 : Int32) [(.int (own_b0 ch0)), (.int (own_b1 ch0))] (.int (0 : Int32))) (gt : n0 ≤ t) (W0 : own_W Z G fv) (O0 : Old Z n0 h0) :
    MetFree l (⟨"java/lang/StringUTF16", "putChar", "([BII)V"⟩ : MethodName) (head1 (Jvm.Cond.code (⟨"java/lang/StringUTF16", "putChar", "([BII)V"⟩ : MethodName) jdk_52_method_4_code 3 none :: ws) RmPU31) (fun as_ U => as_ = #[(.ref t), (.int (1 : Int32)), (.int ch1)] ∧ Z.Warmed39 U.vm ∧ U.heap = h0) (fun _ _ _ _ _ => True) (fun _ U o U' => ∃ v L, o = .returned v ∧ QPU31 Z t kb ch0 ch1 G fv h0 n0 v U'.heap L ∧ FrameEnd U o U' L RmPU31.cells RmPU31.slots) := by
  refine MetFree.of_bodySF (plainFor_of_name pn_5) hisR ?_
  intro p e s m args below meth c s₁ Bd hml0 hP hK
  obtain ⟨rfl, hZ, hh⟩ := hP
  have hx := Bd.exec
  have hby := Bd.bytes
  have D : ∀ {pc : Nat} {r : Except DecodeError (Instr × Nat)}, decode jdk_52_method_4_code pc = r → decode c.code pc = r := fun q => hb hby q
  have hml : c.maxLocals = 3 := hml0
  have hown : s.vm.findClass "java/lang/StringUTF16" = some m.cls := findClass_of_methodNamed Bd.named
  have hnm := (name_of_methodNamed Bd.named Bd.method).1
  have X0 : Stand p l e RmPU31 s m #[(.ref t), (.int (1 : Int32)), (.int ch1)] below meth c s₁ [] 0 0 := Stand.of_body Bd
  have e0 : s₁.heap = h0 := by rw [← hh, Bd.state]; rfl
  have N0 := Fr.nil n0
  obtain ⟨E0, hE0⟩ : ∃ z, z = s₁.setTop (entryFrame m #[(.ref t), (.int (1 : Int32)), (.int ch1)] 3) := ⟨_, rfl⟩
  rw [← hE0]
  have go0 : ∀ tgt, Steps p.tables e below (s₁.setTop (mkF m 0 #[(sr t), (si 1), (si ch1)] [])) tgt → Steps p.tables e below E0 tgt := fun tgt kont => by rw [hE0]; exact castTop (ef_PU31 m t (1 : Int32) ch1) kont
  obtain ⟨T1, X1, e1, st1⟩ := getS2 X0 hx hZ hown (host := "") (Or.inl (wd hw 120 rfl)) Via.refl e0 (W0.2.2.2.2.1.ext O0.2) (g := (mkF m 0 #[(sr t), (si 1), (si ch1)] [])) rfl (D d23_0)
  have go1 : Go p e below E0 T1 m 3 #[(sr t), (si 1), (si ch1)] [(.int 1)] := fun tgt kont => go0 tgt (st1 tgt kont)
  have go2 : Go p e below E0 T1 m 38 #[(sr t), (si (((1 : Int32) <<< ((1 : Int32) &&& 31)) + (1 : Int32))), (si ch1)] [(.int ch1), (.int ((1 : Int32) <<< ((1 : Int32) &&& 31))), (.ref t)] := fun tgt kont => go1 tgt (by
    refine XS.ifYes X1.here hx rfl (pc0 := 3) (pc' := 28) rfl (D d23_3) rfl ((if0 _ _).trans (feq (by decide)).2) (by decide) (by decide) ?_; refine XS.iloadN X1.here hx rfl (D d23_28) rfl ?_; refine XS.iconst X1.here hx rfl (D d23_29) ?_; refine XS.ishl X1.here hx rfl (D d23_30) rfl ?_; refine XS.istoreN X1.here hx rfl (D d23_31) rfl (l' := #[(sr t), (si ((1 : Int32) <<< ((1 : Int32) &&& 31))), (si ch1)]) rfl ?_; refine XS.aloadN X1.here hx rfl (D d23_32) rfl rfl ?_; refine XS.iloadN X1.here hx rfl (D d23_33) rfl ?_; refine XS.iinc X1.here hx rfl (D d23_34) rfl (l' := #[(sr t), (si (((1 : Int32) <<< ((1 : Int32) &&& 31)) + (1 : Int32))), (si ch1)]) rfl ?_; refine XS.iloadN X1.here hx rfl (D d23_37) rfl ?_; exact kont)
  obtain ⟨T3, X3, e3, st3⟩ := getS2 X1 hx hZ hown (host := "") (Or.inl (wd hw 121 rfl)) Via.refl e1 (W0.2.2.2.2.2.1.ext O0.2) (g := (mkF m 38 #[(sr t), (si (((1 : Int32) <<< ((1 : Int32) &&& 31)) + (1 : Int32))), (si ch1)] [(.int ch1), (.int ((1 : Int32) <<< ((1 : Int32) &&& 31))), (.ref t)])) rfl (D d23_38)
  have go3 : Go p e below E0 T3 m 41 #[(sr t), (si (((1 : Int32) <<< ((1 : Int32) &&& 31)) + (1 : Int32))), (si ch1)] [(.int 0), (.int ch1), (.int ((1 : Int32) <<< ((1 : Int32) &&& 31))), (.ref t)] := fun tgt kont => go2 tgt (st3 tgt kont)
  have go4 : Go p e below E0 T3 m 43 #[(sr t), (si (((1 : Int32) <<< ((1 : Int32) &&& 31)) + (1 : Int32))), (si ch1)] [(.int ((ch1 >>> ((0 : Int32) &&& 31)).toInt8.toInt32)), (.int ((1 : Int32) <<< ((1 : Int32) &&& 31))), (.ref t)] := fun tgt kont => go3 tgt (by
    refine XS.ishr X3.here hx rfl (D d23_41) rfl ?_; refine XS.i2b X3.here hx rfl (D d23_42) rfl ?_; exact kont)
  have p5 : Arv Z h0 t kb .byte (6 : Int32) [(.int (own_b0 ch0)), (.int (own_b1 ch0)), (.int (0 : Int32))] (.int (0 : Int32)) := A0.pad (pad_rep [(.int (own_b0 ch0)), (.int (own_b1 ch0))] (.int (0 : Int32)) 1)
  obtain ⟨c6, Ar6, q6, S6, M6, Hh6, G6⟩ := id p5
  obtain ⟨T6, h6, X6, e6, W6, st6⟩ := stB X3 hx hZ e3 Ar6 (j := ((1 : Int32) <<< ((1 : Int32) &&& 31))) (inb_of S6 ⟨by decide, by decide⟩) (g := (mkF m 43 #[(sr t), (si (((1 : Int32) <<< ((1 : Int32) &&& 31)) + (1 : Int32))), (si ch1)] [(.int ((ch1 >>> ((0 : Int32) &&& 31)).toInt8.toInt32)), (.int ((1 : Int32) <<< ((1 : Int32) &&& 31))), (.ref t)])) rfl rfl (D d23_43)
  have z7 : n0 ≤ h6.size := Nat.le_trans Z0 (Keep.of_wr W6).1
  have K8 : Keep h0 h6 [t] := (Keep.refl h0 [t]).wr W6 (Or.inl (List.mem_of_getElem? (i := 0) rfl))
  have N6 := Fr.snoc X6 N0 gt
  have f9 : Arv Z h6 t kb .byte (6 : Int32) [(.int (own_b0 ch0)), (.int (own_b1 ch0)), (.int (nar .byte ((ch1 >>> ((0 : Int32) &&& 31)).toInt8.toInt32)))] (.int (0 : Int32)) := Arv.set Ar6 q6 S6 M6 Hh6 G6 (fits_nar_byte _) W6 2 (by decide) (Nat.le_of_ble_eq_true rfl)
  have go6 : Go p e below E0 T6 m 44 #[(sr t), (si (((1 : Int32) <<< ((1 : Int32) &&& 31)) + (1 : Int32))), (si ch1)] [] := fun tgt kont => go4 tgt (st6 tgt kont)
  have f10 : Old Z n0 h6 := (O0.wr W6 gt)
  have go11 : Go p e below E0 T6 m 47 #[(sr t), (si (((1 : Int32) <<< ((1 : Int32) &&& 31)) + (1 : Int32))), (si ch1)] [(.int ch1), (.int (((1 : Int32) <<< ((1 : Int32) &&& 31)) + (1 : Int32))), (.ref t)] := fun tgt kont => go6 tgt (by
    refine XS.aloadN X6.here hx rfl (D d23_44) rfl rfl ?_; refine XS.iloadN X6.here hx rfl (D d23_45) rfl ?_; refine XS.iloadN X6.here hx rfl (D d23_46) rfl ?_; exact kont)
  obtain ⟨T12, X12, e12, st12⟩ := getS2 X6 hx hZ hown (host := "") (Or.inl (wd hw 122 rfl)) Via.refl e6 (W0.2.2.2.2.2.2.ext f10.2) (g := (mkF m 47 #[(sr t), (si (((1 : Int32) <<< ((1 : Int32) &&& 31)) + (1 : Int32))), (si ch1)] [(.int ch1), (.int (((1 : Int32) <<< ((1 : Int32) &&& 31)) + (1 : Int32))), (.ref t)])) rfl (D d23_47)
  have go12 : Go p e below E0 T12 m 50 #[(sr t), (si (((1 : Int32) <<< ((1 : Int32) &&& 31)) + (1 : Int32))), (si ch1)] [(.int 8), (.int ch1), (.int (((1 : Int32) <<< ((1 : Int32) &&& 31)) + (1 : Int32))), (.ref t)] := fun tgt kont => go11 tgt (st12 tgt kont)
  have go13 : Go p e below E0 T12 m 52 #[(sr t), (si (((1 : Int32) <<< ((1 : Int32) &&& 31)) + (1 : Int32))), (si ch1)] [(.int ((ch1 >>> ((8 : Int32) &&& 31)).toInt8.toInt32)), (.int (((1 : Int32) <<< ((1 : Int32) &&& 31)) + (1 : Int32))), (.ref t)] := fun tgt kont => go12 tgt (by
    refine XS.ishr X12.here hx rfl (D d23_50) rfl ?_; refine XS.i2b X12.here hx rfl (D d23_51) rfl ?_; exact kont)
  have p14 : Arv Z h6 t kb .byte (6 : Int32) [(.int (own_b0 ch0)), (.int (own_b1 ch0)), (.int (nar .byte ((ch1 >>> ((0 : Int32) &&& 31)).toInt8.toInt32))), (.int (0 : Int32))] (.int (0 : Int32)) := f9.pad (pad_rep [(.int (own_b0 ch0)), (.int (own_b1 ch0)), (.int (nar .byte ((ch1 >>> ((0 : Int32) &&& 31)).toInt8.toInt32)))] (.int (0 : Int32)) 1)
  obtain ⟨c15, Ar15, q15, S15, M15, Hh15, G15⟩ := id p14
  obtain ⟨T15, h15, X15, e15, W15, st15⟩ := stB X12 hx hZ e12 Ar15 (j := (((1 : Int32) <<< ((1 : Int32) &&& 31)) + (1 : Int32))) (inb_of S15 ⟨by decide, by decide⟩) (g := (mkF m 52 #[(sr t), (si (((1 : Int32) <<< ((1 : Int32) &&& 31)) + (1 : Int32))), (si ch1)] [(.int ((ch1 >>> ((8 : Int32) &&& 31)).toInt8.toInt32)), (.int (((1 : Int32) <<< ((1 : Int32) &&& 31)) + (1 : Int32))), (.ref t)])) rfl rfl (D d23_52)
  have z16 : n0 ≤ h15.size := Nat.le_trans z7 (Keep.of_wr W15).1
  have K17 : Keep h0 h15 [t] := K8.wr W15 (Or.inl (List.mem_of_getElem? (i := 0) rfl))
  have N15 := Fr.snoc X15 N6 gt
  have f18 : Arv Z h15 t kb .byte (6 : Int32) [(.int (own_b0 ch0)), (.int (own_b1 ch0)), (.int (nar .byte ((ch1 >>> ((0 : Int32) &&& 31)).toInt8.toInt32))), (.int (nar .byte ((ch1 >>> ((8 : Int32) &&& 31)).toInt8.toInt32)))] (.int (0 : Int32)) := Arv.set Ar15 q15 S15 M15 Hh15 G15 (fits_nar_byte _) W15 3 (by decide) (Nat.le_of_ble_eq_true rfl)
  have go15 : Go p e below E0 T15 m 53 #[(sr t), (si (((1 : Int32) <<< ((1 : Int32) &&& 31)) + (1 : Int32))), (si ch1)] [] := fun tgt kont => go13 tgt (st15 tgt kont)
  obtain ⟨fs, hr, hrun, hended, hW, hsame⟩ := X15.leave (v := none) (fun _ => rfl)
  refine ⟨_, _, go15 _ ?_, hrun, hended, _, _, rfl, ?_, ⟨_, rfl⟩, hW, hsame.mono (by decide) (by decide)⟩
  · show Steps p.tables e below (T15.setTop (mkF m 53 #[(sr t), (si (((1 : Int32) <<< ((1 : Int32) &&& 31)) + (1 : Int32))), (si ch1)] [])) _
    exact X15.returnOut hx Bd.returns (D d23_53) hr
  · show QPU31 Z t kb ch0 ch1 G fv h0 n0 _ T15.heap _
    rw [e15]
    exact ⟨rfl, N15, K17, f18⟩
theorem ef_PU32 (m : MethodId) (x0 : Addr) (x1 : Int32) (x2 : Int32) : entryFrame m #[(.ref x0), (.int x1), (.int x2)] 3 = mkF m 0 #[.val (.ref x0), .val (.int x1), .val (.int x2)] [] := by first | (simp [entryFrame, mkF, argsToLocals, Value.category, maxLocals]; done) | rfl
def QPU32 (Z : State) (t : Addr) (kb : ClassId) (ch0 : Int32) (ch1 : Int32) (ch2 : Int32) (G : Int32) (fv : Value) (h0 : Heap) (n0 : Nat) (v : Option Value) (h : Heap) (L : List Loc) : Prop := v = none ∧ Fr n0 L ∧ Keep h0 h [t] ∧ Arv Z h t kb .byte (6 : Int32) [(.int (own_b0 ch0)), (.int (own_b1 ch0)), (.int (own_b0 ch1)), (.int (own_b1 ch1)), (.int (own_b0 ch2)), (.int (own_b1 ch2))] (.int (0 : Int32))
abbrev RmPU32 : Room := ({ frames := 0, cells := 0, slots := 0, locals := 0 } : Room)
set_option maxRecDepth 65536 in
set_option maxHeartbeats 40000000 in
theorem rmPU32 (l : Launch) (Z : State) (a0 : Array Value) (hw : ∀ d ∈ tables_1, d.before a0 Z = true) (ws : List Jvm.Cond) (t : Addr) (kb : ClassId) (ch0 : Int32) (ch1 : Int32) (ch2 : Int32) (G : Int32) (fv : Value) (h0 : Heap) (n0 : Nat) (Z0 : n0 ≤ h0.size) (A0 : Arv Z h0 t kb .byte (6 : Int32) [(.int (own_b0 ch0)), (.int (own_b1 ch0)), (.int (own_b0 ch1)), (.int (own_b1 ch1))] (.int (0 : Int32))) (gt : n0 ≤ t) (W0 : own_W Z G fv) (O0 : Old Z n0 h0) :
    MetFree l (⟨"java/lang/StringUTF16", "putChar", "([BII)V"⟩ : MethodName) (head1 (Jvm.Cond.code (⟨"java/lang/StringUTF16", "putChar", "([BII)V"⟩ : MethodName) jdk_52_method_4_code 3 none :: ws) RmPU32) (fun as_ U => as_ = #[(.ref t), (.int (2 : Int32)), (.int ch2)] ∧ Z.Warmed39 U.vm ∧ U.heap = h0) (fun _ _ _ _ _ => True) (fun _ U o U' => ∃ v L, o = .returned v ∧ QPU32 Z t kb ch0 ch1 ch2 G fv h0 n0 v U'.heap L ∧ FrameEnd U o U' L RmPU32.cells RmPU32.slots) := by
  refine MetFree.of_bodySF (plainFor_of_name pn_5) hisR ?_
  intro p e s m args below meth c s₁ Bd hml0 hP hK
  obtain ⟨rfl, hZ, hh⟩ := hP
  have hx := Bd.exec
  have hby := Bd.bytes
  have D : ∀ {pc : Nat} {r : Except DecodeError (Instr × Nat)}, decode jdk_52_method_4_code pc = r → decode c.code pc = r := fun q => hb hby q
  have hml : c.maxLocals = 3 := hml0
  have hown : s.vm.findClass "java/lang/StringUTF16" = some m.cls := findClass_of_methodNamed Bd.named
  have hnm := (name_of_methodNamed Bd.named Bd.method).1
  have X0 : Stand p l e RmPU32 s m #[(.ref t), (.int (2 : Int32)), (.int ch2)] below meth c s₁ [] 0 0 := Stand.of_body Bd
  have e0 : s₁.heap = h0 := by rw [← hh, Bd.state]; rfl
  have N0 := Fr.nil n0
  obtain ⟨E0, hE0⟩ : ∃ z, z = s₁.setTop (entryFrame m #[(.ref t), (.int (2 : Int32)), (.int ch2)] 3) := ⟨_, rfl⟩
  rw [← hE0]
  have go0 : ∀ tgt, Steps p.tables e below (s₁.setTop (mkF m 0 #[(sr t), (si 2), (si ch2)] [])) tgt → Steps p.tables e below E0 tgt := fun tgt kont => by rw [hE0]; exact castTop (ef_PU32 m t (2 : Int32) ch2) kont
  obtain ⟨T1, X1, e1, st1⟩ := getS2 X0 hx hZ hown (host := "") (Or.inl (wd hw 120 rfl)) Via.refl e0 (W0.2.2.2.2.1.ext O0.2) (g := (mkF m 0 #[(sr t), (si 2), (si ch2)] [])) rfl (D d23_0)
  have go1 : Go p e below E0 T1 m 3 #[(sr t), (si 2), (si ch2)] [(.int 1)] := fun tgt kont => go0 tgt (st1 tgt kont)
  have go2 : Go p e below E0 T1 m 38 #[(sr t), (si (((2 : Int32) <<< ((1 : Int32) &&& 31)) + (1 : Int32))), (si ch2)] [(.int ch2), (.int ((2 : Int32) <<< ((1 : Int32) &&& 31))), (.ref t)] := fun tgt kont => go1 tgt (by
    refine XS.ifYes X1.here hx rfl (pc0 := 3) (pc' := 28) rfl (D d23_3) rfl ((if0 _ _).trans (feq (by decide)).2) (by decide) (by decide) ?_; refine XS.iloadN X1.here hx rfl (D d23_28) rfl ?_; refine XS.iconst X1.here hx rfl (D d23_29) ?_; refine XS.ishl X1.here hx rfl (D d23_30) rfl ?_; refine XS.istoreN X1.here hx rfl (D d23_31) rfl (l' := #[(sr t), (si ((2 : Int32) <<< ((1 : Int32) &&& 31))), (si ch2)]) rfl ?_; refine XS.aloadN X1.here hx rfl (D d23_32) rfl rfl ?_; refine XS.iloadN X1.here hx rfl (D d23_33) rfl ?_; refine XS.iinc X1.here hx rfl (D d23_34) rfl (l' := #[(sr t), (si (((2 : Int32) <<< ((1 : Int32) &&& 31)) + (1 : Int32))), (si ch2)]) rfl ?_; refine XS.iloadN X1.here hx rfl (D d23_37) rfl ?_; exact kont)
  obtain ⟨T3, X3, e3, st3⟩ := getS2 X1 hx hZ hown (host := "") (Or.inl (wd hw 121 rfl)) Via.refl e1 (W0.2.2.2.2.2.1.ext O0.2) (g := (mkF m 38 #[(sr t), (si (((2 : Int32) <<< ((1 : Int32) &&& 31)) + (1 : Int32))), (si ch2)] [(.int ch2), (.int ((2 : Int32) <<< ((1 : Int32) &&& 31))), (.ref t)])) rfl (D d23_38)
  have go3 : Go p e below E0 T3 m 41 #[(sr t), (si (((2 : Int32) <<< ((1 : Int32) &&& 31)) + (1 : Int32))), (si ch2)] [(.int 0), (.int ch2), (.int ((2 : Int32) <<< ((1 : Int32) &&& 31))), (.ref t)] := fun tgt kont => go2 tgt (st3 tgt kont)
  have go4 : Go p e below E0 T3 m 43 #[(sr t), (si (((2 : Int32) <<< ((1 : Int32) &&& 31)) + (1 : Int32))), (si ch2)] [(.int ((ch2 >>> ((0 : Int32) &&& 31)).toInt8.toInt32)), (.int ((2 : Int32) <<< ((1 : Int32) &&& 31))), (.ref t)] := fun tgt kont => go3 tgt (by
    refine XS.ishr X3.here hx rfl (D d23_41) rfl ?_; refine XS.i2b X3.here hx rfl (D d23_42) rfl ?_; exact kont)
  have p5 : Arv Z h0 t kb .byte (6 : Int32) [(.int (own_b0 ch0)), (.int (own_b1 ch0)), (.int (own_b0 ch1)), (.int (own_b1 ch1)), (.int (0 : Int32))] (.int (0 : Int32)) := A0.pad (pad_rep [(.int (own_b0 ch0)), (.int (own_b1 ch0)), (.int (own_b0 ch1)), (.int (own_b1 ch1))] (.int (0 : Int32)) 1)
  obtain ⟨c6, Ar6, q6, S6, M6, Hh6, G6⟩ := id p5
  obtain ⟨T6, h6, X6, e6, W6, st6⟩ := stB X3 hx hZ e3 Ar6 (j := ((2 : Int32) <<< ((1 : Int32) &&& 31))) (inb_of S6 ⟨by decide, by decide⟩) (g := (mkF m 43 #[(sr t), (si (((2 : Int32) <<< ((1 : Int32) &&& 31)) + (1 : Int32))), (si ch2)] [(.int ((ch2 >>> ((0 : Int32) &&& 31)).toInt8.toInt32)), (.int ((2 : Int32) <<< ((1 : Int32) &&& 31))), (.ref t)])) rfl rfl (D d23_43)
  have z7 : n0 ≤ h6.size := Nat.le_trans Z0 (Keep.of_wr W6).1
  have K8 : Keep h0 h6 [t] := (Keep.refl h0 [t]).wr W6 (Or.inl (List.mem_of_getElem? (i := 0) rfl))
  have N6 := Fr.snoc X6 N0 gt
  have f9 : Arv Z h6 t kb .byte (6 : Int32) [(.int (own_b0 ch0)), (.int (own_b1 ch0)), (.int (own_b0 ch1)), (.int (own_b1 ch1)), (.int (nar .byte ((ch2 >>> ((0 : Int32) &&& 31)).toInt8.toInt32)))] (.int (0 : Int32)) := Arv.set Ar6 q6 S6 M6 Hh6 G6 (fits_nar_byte _) W6 4 (by decide) (Nat.le_of_ble_eq_true rfl)
  have go6 : Go p e below E0 T6 m 44 #[(sr t), (si (((2 : Int32) <<< ((1 : Int32) &&& 31)) + (1 : Int32))), (si ch2)] [] := fun tgt kont => go4 tgt (st6 tgt kont)
  have f10 : Old Z n0 h6 := (O0.wr W6 gt)
  have go11 : Go p e below E0 T6 m 47 #[(sr t), (si (((2 : Int32) <<< ((1 : Int32) &&& 31)) + (1 : Int32))), (si ch2)] [(.int ch2), (.int (((2 : Int32) <<< ((1 : Int32) &&& 31)) + (1 : Int32))), (.ref t)] := fun tgt kont => go6 tgt (by
    refine XS.aloadN X6.here hx rfl (D d23_44) rfl rfl ?_; refine XS.iloadN X6.here hx rfl (D d23_45) rfl ?_; refine XS.iloadN X6.here hx rfl (D d23_46) rfl ?_; exact kont)
  obtain ⟨T12, X12, e12, st12⟩ := getS2 X6 hx hZ hown (host := "") (Or.inl (wd hw 122 rfl)) Via.refl e6 (W0.2.2.2.2.2.2.ext f10.2) (g := (mkF m 47 #[(sr t), (si (((2 : Int32) <<< ((1 : Int32) &&& 31)) + (1 : Int32))), (si ch2)] [(.int ch2), (.int (((2 : Int32) <<< ((1 : Int32) &&& 31)) + (1 : Int32))), (.ref t)])) rfl (D d23_47)
  have go12 : Go p e below E0 T12 m 50 #[(sr t), (si (((2 : Int32) <<< ((1 : Int32) &&& 31)) + (1 : Int32))), (si ch2)] [(.int 8), (.int ch2), (.int (((2 : Int32) <<< ((1 : Int32) &&& 31)) + (1 : Int32))), (.ref t)] := fun tgt kont => go11 tgt (st12 tgt kont)
  have go13 : Go p e below E0 T12 m 52 #[(sr t), (si (((2 : Int32) <<< ((1 : Int32) &&& 31)) + (1 : Int32))), (si ch2)] [(.int ((ch2 >>> ((8 : Int32) &&& 31)).toInt8.toInt32)), (.int (((2 : Int32) <<< ((1 : Int32) &&& 31)) + (1 : Int32))), (.ref t)] := fun tgt kont => go12 tgt (by
    refine XS.ishr X12.here hx rfl (D d23_50) rfl ?_; refine XS.i2b X12.here hx rfl (D d23_51) rfl ?_; exact kont)
  have p14 : Arv Z h6 t kb .byte (6 : Int32) [(.int (own_b0 ch0)), (.int (own_b1 ch0)), (.int (own_b0 ch1)), (.int (own_b1 ch1)), (.int (nar .byte ((ch2 >>> ((0 : Int32) &&& 31)).toInt8.toInt32))), (.int (0 : Int32))] (.int (0 : Int32)) := f9.pad (pad_rep [(.int (own_b0 ch0)), (.int (own_b1 ch0)), (.int (own_b0 ch1)), (.int (own_b1 ch1)), (.int (nar .byte ((ch2 >>> ((0 : Int32) &&& 31)).toInt8.toInt32)))] (.int (0 : Int32)) 1)
  obtain ⟨c15, Ar15, q15, S15, M15, Hh15, G15⟩ := id p14
  obtain ⟨T15, h15, X15, e15, W15, st15⟩ := stB X12 hx hZ e12 Ar15 (j := (((2 : Int32) <<< ((1 : Int32) &&& 31)) + (1 : Int32))) (inb_of S15 ⟨by decide, by decide⟩) (g := (mkF m 52 #[(sr t), (si (((2 : Int32) <<< ((1 : Int32) &&& 31)) + (1 : Int32))), (si ch2)] [(.int ((ch2 >>> ((8 : Int32) &&& 31)).toInt8.toInt32)), (.int (((2 : Int32) <<< ((1 : Int32) &&& 31)) + (1 : Int32))), (.ref t)])) rfl rfl (D d23_52)
  have z16 : n0 ≤ h15.size := Nat.le_trans z7 (Keep.of_wr W15).1
  have K17 : Keep h0 h15 [t] := K8.wr W15 (Or.inl (List.mem_of_getElem? (i := 0) rfl))
  have N15 := Fr.snoc X15 N6 gt
  have f18 : Arv Z h15 t kb .byte (6 : Int32) [(.int (own_b0 ch0)), (.int (own_b1 ch0)), (.int (own_b0 ch1)), (.int (own_b1 ch1)), (.int (nar .byte ((ch2 >>> ((0 : Int32) &&& 31)).toInt8.toInt32))), (.int (nar .byte ((ch2 >>> ((8 : Int32) &&& 31)).toInt8.toInt32)))] (.int (0 : Int32)) := Arv.set Ar15 q15 S15 M15 Hh15 G15 (fits_nar_byte _) W15 5 (by decide) (Nat.le_of_ble_eq_true rfl)
  have go15 : Go p e below E0 T15 m 53 #[(sr t), (si (((2 : Int32) <<< ((1 : Int32) &&& 31)) + (1 : Int32))), (si ch2)] [] := fun tgt kont => go13 tgt (st15 tgt kont)
  obtain ⟨fs, hr, hrun, hended, hW, hsame⟩ := X15.leave (v := none) (fun _ => rfl)
  refine ⟨_, _, go15 _ ?_, hrun, hended, _, _, rfl, ?_, ⟨_, rfl⟩, hW, hsame.mono (by decide) (by decide)⟩
  · show Steps p.tables e below (T15.setTop (mkF m 53 #[(sr t), (si (((2 : Int32) <<< ((1 : Int32) &&& 31)) + (1 : Int32))), (si ch2)] [])) _
    exact X15.returnOut hx Bd.returns (D d23_53) hr
  · show QPU32 Z t kb ch0 ch1 ch2 G fv h0 n0 _ T15.heap _
    rw [e15]
    exact ⟨rfl, N15, K17, f18⟩
theorem ef_TB3 (m : MethodId) (x0 : Addr) (x1 : Int32) (x2 : Int32) : entryFrame m #[(.ref x0), (.int x1), (.int x2)] 5 = mkF m 0 #[.val (.ref x0), .val (.int x1), .val (.int x2), .unset, .unset] [] := by first | (simp [entryFrame, mkF, argsToLocals, Value.category, maxLocals]; done) | rfl
def QTB3 (Z : State) (ca : Addr) (kc : ClassId) (ch0 : Int32) (ch1 : Int32) (ch2 : Int32) (G : Int32) (fv : Value) (h0 : Heap) (n0 : Nat) (v : Option Value) (h : Heap) (L : List Loc) : Prop := ∃ kb : ClassId, v = some (.ref h0.size) ∧ Fr n0 L ∧ Keep h0 h [] ∧ Arv Z h h0.size kb .byte (6 : Int32) [(.int (own_b0 ch0)), (.int (own_b1 ch0)), (.int (own_b0 ch1)), (.int (own_b1 ch1)), (.int (own_b0 ch2)), (.int (own_b1 ch2))] (.int (0 : Int32))
abbrev RmTB3 : Room := ({ frames := 2, cells := 1, slots := 6, locals := 24 } : Room)
set_option maxRecDepth 65536 in
set_option maxHeartbeats 40000000 in
theorem rmTB3 (l : Launch) (Z : State) (a0 : Array Value) (hw : ∀ d ∈ tables_1, d.before a0 Z = true) (ws : List Jvm.Cond) (ca : Addr) (kc : ClassId) (ch0 : Int32) (ch1 : Int32) (ch2 : Int32) (G : Int32) (fv : Value) (h0 : Heap) (n0 : Nat) (Z0 : n0 ≤ h0.size) (Ac : Arv Z h0 ca kc .char (3 : Int32) [(.int ch0), (.int ch1), (.int ch2)] (.int (0 : Int32))) (W0 : own_W Z G fv) (O0 : Old Z n0 h0) :
    MetFree l (⟨"java/lang/StringUTF16", "toBytes", "([CII)[B"⟩ : MethodName) (head1 (Jvm.Cond.code (⟨"java/lang/StringUTF16", "toBytes", "([CII)[B"⟩ : MethodName) jdk_52_method_14_code 5 (some (.array .byte)) :: ws) RmTB3) (fun as_ U => as_ = #[(.ref ca), (.int (0 : Int32)), (.int (3 : Int32))] ∧ Z.Warmed39 U.vm ∧ U.heap = h0) (fun _ _ _ _ _ => True) (fun _ U o U' => ∃ v L, o = .returned v ∧ QTB3 Z ca kc ch0 ch1 ch2 G fv h0 n0 v U'.heap L ∧ FrameEnd U o U' L RmTB3.cells RmTB3.slots) := by
  refine MetFree.of_bodySF (plainFor_of_name pn_5) hisR ?_
  intro p e s m args below meth c s₁ Bd hml0 hP hK
  obtain ⟨rfl, hZ, hh⟩ := hP
  have hx := Bd.exec
  have hby := Bd.bytes
  have D : ∀ {pc : Nat} {r : Except DecodeError (Instr × Nat)}, decode jdk_52_method_14_code pc = r → decode c.code pc = r := fun q => hb hby q
  have hml : c.maxLocals = 5 := hml0
  have hown : s.vm.findClass "java/lang/StringUTF16" = some m.cls := findClass_of_methodNamed Bd.named
  have hnm := (name_of_methodNamed Bd.named Bd.method).1
  have X0 : Stand p l e RmTB3 s m #[(.ref ca), (.int (0 : Int32)), (.int (3 : Int32))] below meth c s₁ [] 0 0 := Stand.of_body Bd
  have e0 : s₁.heap = h0 := by rw [← hh, Bd.state]; rfl
  have N0 := Fr.nil n0
  obtain ⟨E0, hE0⟩ : ∃ z, z = s₁.setTop (entryFrame m #[(.ref ca), (.int (0 : Int32)), (.int (3 : Int32))] 5) := ⟨_, rfl⟩
  rw [← hE0]
  have go0 : ∀ tgt, Steps p.tables e below (s₁.setTop (mkF m 0 #[(sr ca), (si 0), (si 3), .unset, .unset] [])) tgt → Steps p.tables e below E0 tgt := fun tgt kont => by rw [hE0]; exact castTop (ef_TB3 m ca (0 : Int32) (3 : Int32)) kont
  have go1 : Go p e below E0 s₁ m 1 #[(sr ca), (si 0), (si 3), .unset, .unset] [(.int 3)] := fun tgt kont => go0 tgt (by
    refine XS.iloadN X0.here hx rfl (D d24_0) rfl ?_; exact kont)
  obtain ⟨_, _, ⟨T2, L2, k2, n2⟩, -, X2, ⟨Lc2, hQ2, l2, y2, z2⟩, st2⟩ := Jvm.LawKit.callS X0 hx (y := (⟨"java/lang/StringUTF16", "newBytesFor", "(I)[B"⟩ : MethodName)) hown (mvT hZ (wd hw 110 rfl)) (mvT hZ (wd hw 111 rfl)) (mvT hZ (wd hw 45 rfl)) (mvT hZ (wd hw 112 rfl)) (by decide) (backOf (W := 0) (rmNF3 l Z a0 hw []  h0 n0 Z0 ) hZ (wd hw 112 rfl) (wd hw 45 rfl) (by decide) (by decide)) (g := (mkF m 1 #[(sr ca), (si 0), (si 3), .unset, .unset] [(.int 3)])) rfl (by rw [hml]; rfl) (argsL := [(.int (3 : Int32))]) (rest := []) (lenOf pd_17 rfl) rfl (by show 2 * 0 + _ ≤ _; exact Nat.le_of_eq rfl) (D d24_1) (fun _ _ => ⟨rfl, e0, (by decide : 0 + 1 ≤ _), (by decide : 0 + 6 ≤ _)⟩)
  dsimp only [Pt.U, Pt.locs, Pt.cells, Pt.slots] at X2 l2 y2 z2 st2 hQ2
  subst l2 y2 z2
  obtain ⟨kb, rfl, N2q, K1, A1⟩ := hQ2
  have N2 := Fr.app N0 N2q
  obtain ⟨t, g2⟩ : ∃ z, z = h0.size := ⟨_, rfl⟩
  rw [← g2] at st2 A1
  have ne_ca_t : ca ≠ t := Nat.ne_of_lt (Nat.lt_of_lt_of_le Ac.lt (Nat.le_of_eq g2.symm))
  have ge_t : n0 ≤ t := Nat.le_trans Z0 (Nat.le_of_eq g2.symm)
  have hz_t : h0.size ≤ t := Nat.le_trans (Keep.refl h0 []).1 (Nat.le_of_eq g2.symm)
  have z3 : n0 ≤ T2.heap.size := Nat.le_trans Z0 K1.1
  have K4 : Keep h0 T2.heap [] := (Keep.refl h0 []).trans K1 all0
  have go2 : Go p e below E0 T2 m 4 #[(sr ca), (si 0), (si 3), .unset, .unset] [(.ref t)] := fun tgt kont => go1 tgt (st2 tgt kont)
  have go5 : Go p e below E0 T2 m 19 #[(sr ca), (si 0), (si 3), (sr t), (si 0)] [(.int 0), (.ref ca), (.int 0), (.ref t)] := fun tgt kont => go2 tgt (by
    refine XS.astoreN X2.here hx rfl (D d24_4) rfl rfl (l' := #[(sr ca), (si 0), (si 3), (sr t), .unset]) rfl ?_; refine XS.iconst X2.here hx rfl (D d24_5) ?_; refine XS.istore X2.here hx rfl (D d24_6) rfl (l' := #[(sr ca), (si 0), (si 3), (sr t), (si 0)]) rfl ?_; refine XS.iload X2.here hx rfl (D d24_8) rfl ?_; refine XS.iloadN X2.here hx rfl (D d24_10) rfl ?_; refine XS.icmpNo X2.here hx rfl (D d24_11) rfl (tlt (by decide)).2.1 ?_; refine XS.aloadN X2.here hx rfl (D d24_14) rfl rfl ?_; refine XS.iload X2.here hx rfl (D d24_15) rfl ?_; refine XS.aloadN X2.here hx rfl (D d24_17) rfl rfl ?_; refine XS.iloadN X2.here hx rfl (D d24_18) rfl ?_; exact kont)
  have f6 : Arv Z T2.heap ca kc .char (3 : Int32) [(.int ch0), (.int ch1), (.int ch2)] (.int (0 : Int32)) := (Ac.keep K1 nin0)
  obtain ⟨c7, Ar7, q7, S7, M7, Hh7, G7⟩ := id f6
  have hin7 : ¬ ((0 : Int32) < 0 ∨ c7.slots.size ≤ ((0 : Int32)).toNatClampNeg) := inb_of S7 ⟨by decide, by decide⟩
  have hat7 : c7.slots[((0 : Int32)).toNatClampNeg]? = some (.int ch0) := Hh7.at hin7 rfl
  have f8 : Old Z n0 T2.heap := (O0.keep K1 all0)
  have go9 : Go p e below E0 T2 m 20 #[(sr ca), (si 0), (si 3), (sr t), (si 0)] [(.int ch0), (.int 0), (.ref t)] := fun tgt kont => go5 tgt (by
    refine X2.caload hx (j := (0 : Int32)) (v := (.int ch0)) Ar7.1 (State.isArrayOf_alike hZ.alike Ar7.2.1) Ar7.2.2 hin7 hat7 (g := (mkF m 19 #[(sr ca), (si 0), (si 3), (sr t), (si 0)] [(.int 0), (.ref ca), (.int 0), (.ref t)])) rfl rfl (D d24_19) _ ?_; exact kont)
  obtain ⟨_, _, ⟨T10, L10, k10, n10⟩, -, X10, ⟨Lc10, hQ10, l10, y10, z10⟩, st10⟩ := Jvm.LawKit.callS X2 hx (y := (⟨"java/lang/StringUTF16", "putChar", "([BII)V"⟩ : MethodName)) hown (mvT hZ (wd hw 117 rfl)) (mvT hZ (wd hw 118 rfl)) (mvT hZ (wd hw 45 rfl)) (mvT hZ (wd hw 119 rfl)) (by decide) (backOf (W := 0) (rmPU30 l Z a0 hw [] t kb ch0 G fv T2.heap n0 z3 A1 ge_t W0 f8) hZ (wd hw 119 rfl) (wd hw 45 rfl) (by decide) (by decide)) (g := (mkF m 20 #[(sr ca), (si 0), (si 3), (sr t), (si 0)] [(.int ch0), (.int 0), (.ref t)])) rfl (by rw [hml]; rfl) (argsL := [(.ref t), (.int (0 : Int32)), (.int ch0)]) (rest := []) (lenOf pd_18 rfl) rfl (by show 2 * 0 + _ ≤ _; exact Nat.le_of_eq rfl) (D d24_20) (fun _ _ => ⟨rfl, rfl, (by decide : 1 + 0 ≤ _), (by decide : 6 + 0 ≤ _)⟩)
  dsimp only [Pt.U, Pt.locs, Pt.cells, Pt.slots] at X10 l10 y10 z10 st10 hQ10
  subst l10 y10 z10
  obtain ⟨rfl, N10q, Kp0, Ap0⟩ := hQ10
  have N10 := Fr.app N2 N10q
  have z11 : n0 ≤ T10.heap.size := Nat.le_trans z3 Kp0.1
  have K12 : Keep h0 T10.heap [] := K4.trans Kp0 (allS (Or.inr hz_t) all0)
  have go10 : Go p e below E0 T10 m 23 #[(sr ca), (si 0), (si 3), (sr t), (si 0)] [] := fun tgt kont => go9 tgt (st10 tgt kont)
  have go13 : Go p e below E0 T10 m 19 #[(sr ca), (si 1), (si 3), (sr t), (si 1)] [(.int 1), (.ref ca), (.int 1), (.ref t)] := fun tgt kont => go10 tgt (by
    refine XS.iinc X10.here hx rfl (D d24_23) rfl (l' := #[(sr ca), (si 1), (si 3), (sr t), (si 0)]) rfl ?_; refine XS.iinc X10.here hx rfl (D d24_26) rfl (l' := #[(sr ca), (si 1), (si 3), (sr t), (si 1)]) rfl ?_; refine XS.goto X10.here hx rfl (pc0 := 29) (pc' := 8) rfl (D d24_29) (by decide) (by decide) ?_; refine XS.iload X10.here hx rfl (D d24_8) rfl ?_; refine XS.iloadN X10.here hx rfl (D d24_10) rfl ?_; refine XS.icmpNo X10.here hx rfl (D d24_11) rfl (tlt (by decide)).2.1 ?_; refine XS.aloadN X10.here hx rfl (D d24_14) rfl rfl ?_; refine XS.iload X10.here hx rfl (D d24_15) rfl ?_; refine XS.aloadN X10.here hx rfl (D d24_17) rfl rfl ?_; refine XS.iloadN X10.here hx rfl (D d24_18) rfl ?_; exact kont)
  have f14 : Arv Z T10.heap ca kc .char (3 : Int32) [(.int ch0), (.int ch1), (.int ch2)] (.int (0 : Int32)) := (f6.keep Kp0 (ninS ne_ca_t nin0))
  obtain ⟨c15, Ar15, q15, S15, M15, Hh15, G15⟩ := id f14
  have hin15 : ¬ ((1 : Int32) < 0 ∨ c15.slots.size ≤ ((1 : Int32)).toNatClampNeg) := inb_of S15 ⟨by decide, by decide⟩
  have hat15 : c15.slots[((1 : Int32)).toNatClampNeg]? = some (.int ch1) := Hh15.at hin15 rfl
  have f16 : Old Z n0 T10.heap := (f8.keep Kp0 (allS ge_t all0))
  have go17 : Go p e below E0 T10 m 20 #[(sr ca), (si 1), (si 3), (sr t), (si 1)] [(.int ch1), (.int 1), (.ref t)] := fun tgt kont => go13 tgt (by
    refine X10.caload hx (j := (1 : Int32)) (v := (.int ch1)) Ar15.1 (State.isArrayOf_alike hZ.alike Ar15.2.1) Ar15.2.2 hin15 hat15 (g := (mkF m 19 #[(sr ca), (si 1), (si 3), (sr t), (si 1)] [(.int 1), (.ref ca), (.int 1), (.ref t)])) rfl rfl (D d24_19) _ ?_; exact kont)
  obtain ⟨_, _, ⟨T18, L18, k18, n18⟩, -, X18, ⟨Lc18, hQ18, l18, y18, z18⟩, st18⟩ := Jvm.LawKit.callS X10 hx (y := (⟨"java/lang/StringUTF16", "putChar", "([BII)V"⟩ : MethodName)) hown (mvT hZ (wd hw 117 rfl)) (mvT hZ (wd hw 118 rfl)) (mvT hZ (wd hw 45 rfl)) (mvT hZ (wd hw 119 rfl)) (by decide) (backOf (W := 0) (rmPU31 l Z a0 hw [] t kb ch0 ch1 G fv T10.heap n0 z11 Ap0 ge_t W0 f16) hZ (wd hw 119 rfl) (wd hw 45 rfl) (by decide) (by decide)) (g := (mkF m 20 #[(sr ca), (si 1), (si 3), (sr t), (si 1)] [(.int ch1), (.int 1), (.ref t)])) rfl (by rw [hml]; rfl) (argsL := [(.ref t), (.int (1 : Int32)), (.int ch1)]) (rest := []) (lenOf pd_18 rfl) rfl (by show 2 * 0 + _ ≤ _; exact Nat.le_of_eq rfl) (D d24_20) (fun _ _ => ⟨rfl, rfl, (by decide : 1 + 0 ≤ _), (by decide : 6 + 0 ≤ _)⟩)
  dsimp only [Pt.U, Pt.locs, Pt.cells, Pt.slots] at X18 l18 y18 z18 st18 hQ18
  subst l18 y18 z18
  obtain ⟨rfl, N18q, Kp1, Ap1⟩ := hQ18
  have N18 := Fr.app N10 N18q
  have z19 : n0 ≤ T18.heap.size := Nat.le_trans z11 Kp1.1
  have K20 : Keep h0 T18.heap [] := K12.trans Kp1 (allS (Or.inr hz_t) all0)
  have go18 : Go p e below E0 T18 m 23 #[(sr ca), (si 1), (si 3), (sr t), (si 1)] [] := fun tgt kont => go17 tgt (st18 tgt kont)
  have go21 : Go p e below E0 T18 m 19 #[(sr ca), (si 2), (si 3), (sr t), (si 2)] [(.int 2), (.ref ca), (.int 2), (.ref t)] := fun tgt kont => go18 tgt (by
    refine XS.iinc X18.here hx rfl (D d24_23) rfl (l' := #[(sr ca), (si 2), (si 3), (sr t), (si 1)]) rfl ?_; refine XS.iinc X18.here hx rfl (D d24_26) rfl (l' := #[(sr ca), (si 2), (si 3), (sr t), (si 2)]) rfl ?_; refine XS.goto X18.here hx rfl (pc0 := 29) (pc' := 8) rfl (D d24_29) (by decide) (by decide) ?_; refine XS.iload X18.here hx rfl (D d24_8) rfl ?_; refine XS.iloadN X18.here hx rfl (D d24_10) rfl ?_; refine XS.icmpNo X18.here hx rfl (D d24_11) rfl (tlt (by decide)).2.1 ?_; refine XS.aloadN X18.here hx rfl (D d24_14) rfl rfl ?_; refine XS.iload X18.here hx rfl (D d24_15) rfl ?_; refine XS.aloadN X18.here hx rfl (D d24_17) rfl rfl ?_; refine XS.iloadN X18.here hx rfl (D d24_18) rfl ?_; exact kont)
  have f22 : Arv Z T18.heap ca kc .char (3 : Int32) [(.int ch0), (.int ch1), (.int ch2)] (.int (0 : Int32)) := (f14.keep Kp1 (ninS ne_ca_t nin0))
  obtain ⟨c23, Ar23, q23, S23, M23, Hh23, G23⟩ := id f22
  have hin23 : ¬ ((2 : Int32) < 0 ∨ c23.slots.size ≤ ((2 : Int32)).toNatClampNeg) := inb_of S23 ⟨by decide, by decide⟩
  have hat23 : c23.slots[((2 : Int32)).toNatClampNeg]? = some (.int ch2) := Hh23.at hin23 rfl
  have f24 : Old Z n0 T18.heap := (f16.keep Kp1 (allS ge_t all0))
  have go25 : Go p e below E0 T18 m 20 #[(sr ca), (si 2), (si 3), (sr t), (si 2)] [(.int ch2), (.int 2), (.ref t)] := fun tgt kont => go21 tgt (by
    refine X18.caload hx (j := (2 : Int32)) (v := (.int ch2)) Ar23.1 (State.isArrayOf_alike hZ.alike Ar23.2.1) Ar23.2.2 hin23 hat23 (g := (mkF m 19 #[(sr ca), (si 2), (si 3), (sr t), (si 2)] [(.int 2), (.ref ca), (.int 2), (.ref t)])) rfl rfl (D d24_19) _ ?_; exact kont)
  obtain ⟨_, _, ⟨T26, L26, k26, n26⟩, -, X26, ⟨Lc26, hQ26, l26, y26, z26⟩, st26⟩ := Jvm.LawKit.callS X18 hx (y := (⟨"java/lang/StringUTF16", "putChar", "([BII)V"⟩ : MethodName)) hown (mvT hZ (wd hw 117 rfl)) (mvT hZ (wd hw 118 rfl)) (mvT hZ (wd hw 45 rfl)) (mvT hZ (wd hw 119 rfl)) (by decide) (backOf (W := 0) (rmPU32 l Z a0 hw [] t kb ch0 ch1 ch2 G fv T18.heap n0 z19 Ap1 ge_t W0 f24) hZ (wd hw 119 rfl) (wd hw 45 rfl) (by decide) (by decide)) (g := (mkF m 20 #[(sr ca), (si 2), (si 3), (sr t), (si 2)] [(.int ch2), (.int 2), (.ref t)])) rfl (by rw [hml]; rfl) (argsL := [(.ref t), (.int (2 : Int32)), (.int ch2)]) (rest := []) (lenOf pd_18 rfl) rfl (by show 2 * 0 + _ ≤ _; exact Nat.le_of_eq rfl) (D d24_20) (fun _ _ => ⟨rfl, rfl, (by decide : 1 + 0 ≤ _), (by decide : 6 + 0 ≤ _)⟩)
  dsimp only [Pt.U, Pt.locs, Pt.cells, Pt.slots] at X26 l26 y26 z26 st26 hQ26
  subst l26 y26 z26
  obtain ⟨rfl, N26q, Kp2, Ap2⟩ := hQ26
  have N26 := Fr.app N18 N26q
  have z27 : n0 ≤ T26.heap.size := Nat.le_trans z19 Kp2.1
  have K28 : Keep h0 T26.heap [] := K20.trans Kp2 (allS (Or.inr hz_t) all0)
  have go26 : Go p e below E0 T26 m 23 #[(sr ca), (si 2), (si 3), (sr t), (si 2)] [] := fun tgt kont => go25 tgt (st26 tgt kont)
  have go29 : Go p e below E0 T26 m 33 #[(sr ca), (si 3), (si 3), (sr t), (si 3)] [(.ref t)] := fun tgt kont => go26 tgt (by
    refine XS.iinc X26.here hx rfl (D d24_23) rfl (l' := #[(sr ca), (si 3), (si 3), (sr t), (si 2)]) rfl ?_; refine XS.iinc X26.here hx rfl (D d24_26) rfl (l' := #[(sr ca), (si 3), (si 3), (sr t), (si 3)]) rfl ?_; refine XS.goto X26.here hx rfl (pc0 := 29) (pc' := 8) rfl (D d24_29) (by decide) (by decide) ?_; refine XS.iload X26.here hx rfl (D d24_8) rfl ?_; refine XS.iloadN X26.here hx rfl (D d24_10) rfl ?_; refine XS.icmpYes X26.here hx rfl (pc0 := 11) (pc' := 32) rfl (D d24_11) rfl (flt (by decide)).2.1 (by decide) (by decide) ?_; refine XS.aloadN X26.here hx rfl (D d24_32) rfl rfl ?_; exact kont)
  subst g2
  obtain ⟨fs, hr, hrun, hended, hW, hsame⟩ := X26.leave (v := some (.ref h0.size)) (fun h => by rw [Bd.returns] at h; cases h)
  refine ⟨_, _, go29 _ ?_, hrun, hended, _, _, rfl, ?_, ⟨_, rfl⟩, hW, hsame.mono (by decide) (by decide)⟩
  · show Steps p.tables e below (T26.setTop (mkF m 33 #[(sr ca), (si 3), (si 3), (sr h0.size), (si 3)] [(.ref h0.size)])) _
    exact retOut X26 hx Bd.returns rfl (Or.inr (Or.inr (Or.inr (Or.inr ⟨rfl, rfl, rfl⟩)))) (D d24_33) hr
  · show QTB3 Z ca kc ch0 ch1 ch2 G fv h0 n0 _ T26.heap _
    exact ⟨_, rfl, N26, K28, Ap2⟩
theorem ef_CM3 (m : MethodId) (x0 : Addr) (x1 : Int32) (x2 : Addr) (x3 : Int32) (x4 : Int32) : entryFrame m #[(.ref x0), (.int x1), (.ref x2), (.int x3), (.int x4)] 7 = mkF m 0 #[.val (.ref x0), .val (.int x1), .val (.ref x2), .val (.int x3), .val (.int x4), .unset, .unset] [] := by first | (simp [entryFrame, mkF, argsToLocals, Value.category, maxLocals]; done) | rfl
def QCM3 (Z : State) (ca : Addr) (kc : ClassId) (ba : Addr) (kb : ClassId) (ch0 : Int32) (ch1 : Int32) (ch2 : Int32) (h0 : Heap) (n0 : Nat) (v : Option Value) (h : Heap) (L : List Loc) : Prop := ∃ r : Int32, v = some (.int r) ∧ Fr n0 L ∧ Keep h0 h [ba] ∧ ((r = (3 : Int32) ∧ (¬ (255 : Int32) < ch0 ∧ ¬ (255 : Int32) < ch1 ∧ ¬ (255 : Int32) < ch2) ∧ Arv Z h ba kb .byte (3 : Int32) [(.int (own_lo ch0)), (.int (own_lo ch1)), (.int (own_lo ch2))] (.int (0 : Int32))) ∨ (r = (0 : Int32) ∧ (255 : Int32) < ch0) ∨ (r = (1 : Int32) ∧ (255 : Int32) < ch1) ∨ (r = (2 : Int32) ∧ (255 : Int32) < ch2))
abbrev RmCM3 : Room := ({ frames := 0, cells := 0, slots := 0, locals := 0 } : Room)
set_option maxRecDepth 65536 in
set_option maxHeartbeats 40000000 in
theorem rmCM3 (l : Launch) (Z : State) (a0 : Array Value) (hw : ∀ d ∈ tables_1, d.before a0 Z = true) (ws : List Jvm.Cond) (ca : Addr) (kc : ClassId) (ba : Addr) (kb : ClassId) (ch0 : Int32) (ch1 : Int32) (ch2 : Int32) (h0 : Heap) (n0 : Nat) (Z0 : n0 ≤ h0.size) (Ac : Arv Z h0 ca kc .char (3 : Int32) [(.int ch0), (.int ch1), (.int ch2)] (.int (0 : Int32))) (A0 : Arv Z h0 ba kb .byte (3 : Int32) [] (.int (0 : Int32))) (gb : n0 ≤ ba) (nab : ca ≠ ba) :
    MetFree l (⟨"java/lang/StringUTF16", "compress", "([CI[BII)I"⟩ : MethodName) (head1 (Jvm.Cond.code (⟨"java/lang/StringUTF16", "compress", "([CI[BII)I"⟩ : MethodName) jdk_52_method_21_code 7 (some .int) :: ws) RmCM3) (fun as_ U => as_ = #[(.ref ca), (.int (0 : Int32)), (.ref ba), (.int (0 : Int32)), (.int (3 : Int32))] ∧ Z.Warmed39 U.vm ∧ U.heap = h0) (fun _ _ _ _ _ => True) (fun _ U o U' => ∃ v L, o = .returned v ∧ QCM3 Z ca kc ba kb ch0 ch1 ch2 h0 n0 v U'.heap L ∧ FrameEnd U o U' L RmCM3.cells RmCM3.slots) := by
  refine MetFree.of_bodySF (plainFor_of_name pn_5) hisR ?_
  intro p e s m args below meth c s₁ Bd hml0 hP hK
  obtain ⟨rfl, hZ, hh⟩ := hP
  have hx := Bd.exec
  have hby := Bd.bytes
  have D : ∀ {pc : Nat} {r : Except DecodeError (Instr × Nat)}, decode jdk_52_method_21_code pc = r → decode c.code pc = r := fun q => hb hby q
  have hml : c.maxLocals = 7 := hml0
  have hown : s.vm.findClass "java/lang/StringUTF16" = some m.cls := findClass_of_methodNamed Bd.named
  have hnm := (name_of_methodNamed Bd.named Bd.method).1
  have X0 : Stand p l e RmCM3 s m #[(.ref ca), (.int (0 : Int32)), (.ref ba), (.int (0 : Int32)), (.int (3 : Int32))] below meth c s₁ [] 0 0 := Stand.of_body Bd
  have e0 : s₁.heap = h0 := by rw [← hh, Bd.state]; rfl
  have N0 := Fr.nil n0
  obtain ⟨E0, hE0⟩ : ∃ z, z = s₁.setTop (entryFrame m #[(.ref ca), (.int (0 : Int32)), (.ref ba), (.int (0 : Int32)), (.int (3 : Int32))] 7) := ⟨_, rfl⟩
  rw [← hE0]
  have go0 : ∀ tgt, Steps p.tables e below (s₁.setTop (mkF m 0 #[(sr ca), (si 0), (sr ba), (si 0), (si 3), .unset, .unset] [])) tgt → Steps p.tables e below E0 tgt := fun tgt kont => by rw [hE0]; exact castTop (ef_CM3 m ca (0 : Int32) ba (0 : Int32) (3 : Int32)) kont
  have go1 : Go p e below E0 s₁ m 12 #[(sr ca), (si 0), (sr ba), (si 0), (si 3), (si 0), .unset] [(.int 0), (.ref ca)] := fun tgt kont => go0 tgt (by
    refine XS.iconst X0.here hx rfl (D d25_0) ?_; refine XS.istore X0.here hx rfl (D d25_1) rfl (l' := #[(sr ca), (si 0), (sr ba), (si 0), (si 3), (si 0), .unset]) rfl ?_; refine XS.iload X0.here hx rfl (D d25_3) rfl ?_; refine XS.iload X0.here hx rfl (D d25_5) rfl ?_; refine XS.icmpNo X0.here hx rfl (D d25_7) rfl (tlt (by decide)).2.1 ?_; refine XS.aloadN X0.here hx rfl (D d25_10) rfl rfl ?_; refine XS.iloadN X0.here hx rfl (D d25_11) rfl ?_; exact kont)
  obtain ⟨c2, Ar2, q2, S2, M2, Hh2, G2⟩ := id Ac
  have hin2 : ¬ ((0 : Int32) < 0 ∨ c2.slots.size ≤ ((0 : Int32)).toNatClampNeg) := inb_of S2 ⟨by decide, by decide⟩
  have hat2 : c2.slots[((0 : Int32)).toNatClampNeg]? = some (.int ch0) := Hh2.at hin2 rfl
  have go3 : Go p e below E0 s₁ m 20 #[(sr ca), (si 0), (sr ba), (si 0), (si 3), (si 0), (si ch0)] [(.int 255), (.int ch0)] := fun tgt kont => go1 tgt (by
    refine X0.caload hx (j := (0 : Int32)) (v := (.int ch0)) (by rw [e0]; exact Ar2.1) (State.isArrayOf_alike hZ.alike Ar2.2.1) Ar2.2.2 hin2 hat2 (g := (mkF m 12 #[(sr ca), (si 0), (sr ba), (si 0), (si 3), (si 0), .unset] [(.int 0), (.ref ca)])) rfl rfl (D d25_12) _ ?_; refine XS.istore X0.here hx rfl (D d25_13) rfl (l' := #[(sr ca), (si 0), (sr ba), (si 0), (si 3), (si 0), (si ch0)]) rfl ?_; refine XS.iload X0.here hx rfl (D d25_15) rfl ?_; refine XS.sipush X0.here hx rfl (D d25_17) ?_; exact kont)
  by_cases u0 : (255 : Int32) < ch0
  · have go4 : Go p e below E0 s₁ m 25 #[(sr ca), (si 0), (sr ba), (si 0), (si 3), (si 0), (si ch0)] [(.int 0)] := fun tgt kont => go3 tgt (by
      refine XS.icmpNo X0.here hx rfl (D d25_20) rfl (tlt u0).2.2.2 ?_; refine XS.iload X0.here hx rfl (D d25_23) rfl ?_; exact kont)
    obtain ⟨fs, hr, hrun, hended, hW, hsame⟩ := X0.leave (v := some (.int (0 : Int32))) (fun h => by rw [Bd.returns] at h; cases h)
    refine ⟨_, _, go4 _ ?_, hrun, hended, _, _, rfl, ?_, ⟨_, rfl⟩, hW, hsame.mono (by decide) (by decide)⟩
    · show Steps p.tables e below (s₁.setTop (mkF m 25 #[(sr ca), (si 0), (sr ba), (si 0), (si 3), (si 0), (si ch0)] [(.int 0)])) _
      exact retOut X0 hx Bd.returns rfl (Or.inl ⟨rfl, Or.inl rfl, _, rfl⟩) (D d25_25) hr
    · show QCM3 Z ca kc ba kb ch0 ch1 ch2 h0 n0 _ s₁.heap _
      rw [e0]
      exact ⟨_, rfl, N0, (Keep.refl h0 [ba]), Or.inr (Or.inl ⟨rfl, u0⟩)⟩
  · have go5 : Go p e below E0 s₁ m 31 #[(sr ca), (si 0), (sr ba), (si 0), (si 3), (si 0), (si ch0)] [(.int (ch0.toInt8.toInt32)), (.int 0), (.ref ba)] := fun tgt kont => go3 tgt (by
      refine XS.icmpYes X0.here hx rfl (pc0 := 20) (pc' := 26) rfl (D d25_20) rfl (flt u0).2.2.2 (by decide) (by decide) ?_; refine XS.aloadN X0.here hx rfl (D d25_26) rfl rfl ?_; refine XS.iloadN X0.here hx rfl (D d25_27) rfl ?_; refine XS.iload X0.here hx rfl (D d25_28) rfl ?_; refine XS.i2b X0.here hx rfl (D d25_30) rfl ?_; exact kont)
    have p6 : Arv Z h0 ba kb .byte (3 : Int32) [(.int (0 : Int32))] (.int (0 : Int32)) := A0.pad (pad_rep [] (.int (0 : Int32)) 1)
    obtain ⟨c7, Ar7, q7, S7, M7, Hh7, G7⟩ := id p6
    obtain ⟨T7, h7, X7, e7, W7, st7⟩ := stB X0 hx hZ e0 Ar7 (j := (0 : Int32)) (inb_of S7 ⟨by decide, by decide⟩) (g := (mkF m 31 #[(sr ca), (si 0), (sr ba), (si 0), (si 3), (si 0), (si ch0)] [(.int (ch0.toInt8.toInt32)), (.int 0), (.ref ba)])) rfl rfl (D d25_31)
    have z8 : n0 ≤ h7.size := Nat.le_trans Z0 (Keep.of_wr W7).1
    have K9 : Keep h0 h7 [ba] := (Keep.refl h0 [ba]).wr W7 (Or.inl (List.mem_of_getElem? (i := 0) rfl))
    have N7 := Fr.snoc X7 N0 gb
    have f10 : Arv Z h7 ba kb .byte (3 : Int32) [(.int (nar .byte (ch0.toInt8.toInt32)))] (.int (0 : Int32)) := Arv.set Ar7 q7 S7 M7 Hh7 G7 (fits_nar_byte _) W7 0 rfl (Nat.le_of_ble_eq_true rfl)
    have go7 : Go p e below E0 T7 m 32 #[(sr ca), (si 0), (sr ba), (si 0), (si 3), (si 0), (si ch0)] [] := fun tgt kont => go5 tgt (st7 tgt kont)
    have go11 : Go p e below E0 T7 m 12 #[(sr ca), (si 1), (sr ba), (si 1), (si 3), (si 1), (si ch0)] [(.int 1), (.ref ca)] := fun tgt kont => go7 tgt (by
      refine XS.iinc X7.here hx rfl (D d25_32) rfl (l' := #[(sr ca), (si 1), (sr ba), (si 0), (si 3), (si 0), (si ch0)]) rfl ?_; refine XS.iinc X7.here hx rfl (D d25_35) rfl (l' := #[(sr ca), (si 1), (sr ba), (si 1), (si 3), (si 0), (si ch0)]) rfl ?_; refine XS.iinc X7.here hx rfl (D d25_38) rfl (l' := #[(sr ca), (si 1), (sr ba), (si 1), (si 3), (si 1), (si ch0)]) rfl ?_; refine XS.goto X7.here hx rfl (pc0 := 41) (pc' := 3) rfl (D d25_41) (by decide) (by decide) ?_; refine XS.iload X7.here hx rfl (D d25_3) rfl ?_; refine XS.iload X7.here hx rfl (D d25_5) rfl ?_; refine XS.icmpNo X7.here hx rfl (D d25_7) rfl (tlt (by decide)).2.1 ?_; refine XS.aloadN X7.here hx rfl (D d25_10) rfl rfl ?_; refine XS.iloadN X7.here hx rfl (D d25_11) rfl ?_; exact kont)
    have f12 : Arv Z h7 ca kc .char (3 : Int32) [(.int ch0), (.int ch1), (.int ch2)] (.int (0 : Int32)) := (Ac.other W7 nab)
    obtain ⟨c13, Ar13, q13, S13, M13, Hh13, G13⟩ := id f12
    have hin13 : ¬ ((1 : Int32) < 0 ∨ c13.slots.size ≤ ((1 : Int32)).toNatClampNeg) := inb_of S13 ⟨by decide, by decide⟩
    have hat13 : c13.slots[((1 : Int32)).toNatClampNeg]? = some (.int ch1) := Hh13.at hin13 rfl
    have go14 : Go p e below E0 T7 m 20 #[(sr ca), (si 1), (sr ba), (si 1), (si 3), (si 1), (si ch1)] [(.int 255), (.int ch1)] := fun tgt kont => go11 tgt (by
      refine X7.caload hx (j := (1 : Int32)) (v := (.int ch1)) (by rw [e7]; exact Ar13.1) (State.isArrayOf_alike hZ.alike Ar13.2.1) Ar13.2.2 hin13 hat13 (g := (mkF m 12 #[(sr ca), (si 1), (sr ba), (si 1), (si 3), (si 1), (si ch0)] [(.int 1), (.ref ca)])) rfl rfl (D d25_12) _ ?_; refine XS.istore X7.here hx rfl (D d25_13) rfl (l' := #[(sr ca), (si 1), (sr ba), (si 1), (si 3), (si 1), (si ch1)]) rfl ?_; refine XS.iload X7.here hx rfl (D d25_15) rfl ?_; refine XS.sipush X7.here hx rfl (D d25_17) ?_; exact kont)
    by_cases u1 : (255 : Int32) < ch1
    · have go15 : Go p e below E0 T7 m 25 #[(sr ca), (si 1), (sr ba), (si 1), (si 3), (si 1), (si ch1)] [(.int 1)] := fun tgt kont => go14 tgt (by
        refine XS.icmpNo X7.here hx rfl (D d25_20) rfl (tlt u1).2.2.2 ?_; refine XS.iload X7.here hx rfl (D d25_23) rfl ?_; exact kont)
      obtain ⟨fs, hr, hrun, hended, hW, hsame⟩ := X7.leave (v := some (.int (1 : Int32))) (fun h => by rw [Bd.returns] at h; cases h)
      refine ⟨_, _, go15 _ ?_, hrun, hended, _, _, rfl, ?_, ⟨_, rfl⟩, hW, hsame.mono (by decide) (by decide)⟩
      · show Steps p.tables e below (T7.setTop (mkF m 25 #[(sr ca), (si 1), (sr ba), (si 1), (si 3), (si 1), (si ch1)] [(.int 1)])) _
        exact retOut X7 hx Bd.returns rfl (Or.inl ⟨rfl, Or.inl rfl, _, rfl⟩) (D d25_25) hr
      · show QCM3 Z ca kc ba kb ch0 ch1 ch2 h0 n0 _ T7.heap _
        rw [e7]
        exact ⟨_, rfl, N7, K9, Or.inr (Or.inr (Or.inl ⟨rfl, u1⟩))⟩
    · have go16 : Go p e below E0 T7 m 31 #[(sr ca), (si 1), (sr ba), (si 1), (si 3), (si 1), (si ch1)] [(.int (ch1.toInt8.toInt32)), (.int 1), (.ref ba)] := fun tgt kont => go14 tgt (by
        refine XS.icmpYes X7.here hx rfl (pc0 := 20) (pc' := 26) rfl (D d25_20) rfl (flt u1).2.2.2 (by decide) (by decide) ?_; refine XS.aloadN X7.here hx rfl (D d25_26) rfl rfl ?_; refine XS.iloadN X7.here hx rfl (D d25_27) rfl ?_; refine XS.iload X7.here hx rfl (D d25_28) rfl ?_; refine XS.i2b X7.here hx rfl (D d25_30) rfl ?_; exact kont)
      have p17 : Arv Z h7 ba kb .byte (3 : Int32) [(.int (nar .byte (ch0.toInt8.toInt32))), (.int (0 : Int32))] (.int (0 : Int32)) := f10.pad (pad_rep [(.int (nar .byte (ch0.toInt8.toInt32)))] (.int (0 : Int32)) 1)
      obtain ⟨c18, Ar18, q18, S18, M18, Hh18, G18⟩ := id p17
      obtain ⟨T18, h18, X18, e18, W18, st18⟩ := stB X7 hx hZ e7 Ar18 (j := (1 : Int32)) (inb_of S18 ⟨by decide, by decide⟩) (g := (mkF m 31 #[(sr ca), (si 1), (sr ba), (si 1), (si 3), (si 1), (si ch1)] [(.int (ch1.toInt8.toInt32)), (.int 1), (.ref ba)])) rfl rfl (D d25_31)
      have z19 : n0 ≤ h18.size := Nat.le_trans z8 (Keep.of_wr W18).1
      have K20 : Keep h0 h18 [ba] := K9.wr W18 (Or.inl (List.mem_of_getElem? (i := 0) rfl))
      have N18 := Fr.snoc X18 N7 gb
      have f21 : Arv Z h18 ba kb .byte (3 : Int32) [(.int (nar .byte (ch0.toInt8.toInt32))), (.int (nar .byte (ch1.toInt8.toInt32)))] (.int (0 : Int32)) := Arv.set Ar18 q18 S18 M18 Hh18 G18 (fits_nar_byte _) W18 1 rfl (Nat.le_of_ble_eq_true rfl)
      have go18 : Go p e below E0 T18 m 32 #[(sr ca), (si 1), (sr ba), (si 1), (si 3), (si 1), (si ch1)] [] := fun tgt kont => go16 tgt (st18 tgt kont)
      have go22 : Go p e below E0 T18 m 12 #[(sr ca), (si 2), (sr ba), (si 2), (si 3), (si 2), (si ch1)] [(.int 2), (.ref ca)] := fun tgt kont => go18 tgt (by
        refine XS.iinc X18.here hx rfl (D d25_32) rfl (l' := #[(sr ca), (si 2), (sr ba), (si 1), (si 3), (si 1), (si ch1)]) rfl ?_; refine XS.iinc X18.here hx rfl (D d25_35) rfl (l' := #[(sr ca), (si 2), (sr ba), (si 2), (si 3), (si 1), (si ch1)]) rfl ?_; refine XS.iinc X18.here hx rfl (D d25_38) rfl (l' := #[(sr ca), (si 2), (sr ba), (si 2), (si 3), (si 2), (si ch1)]) rfl ?_; refine XS.goto X18.here hx rfl (pc0 := 41) (pc' := 3) rfl (D d25_41) (by decide) (by decide) ?_; refine XS.iload X18.here hx rfl (D d25_3) rfl ?_; refine XS.iload X18.here hx rfl (D d25_5) rfl ?_; refine XS.icmpNo X18.here hx rfl (D d25_7) rfl (tlt (by decide)).2.1 ?_; refine XS.aloadN X18.here hx rfl (D d25_10) rfl rfl ?_; refine XS.iloadN X18.here hx rfl (D d25_11) rfl ?_; exact kont)
      have f23 : Arv Z h18 ca kc .char (3 : Int32) [(.int ch0), (.int ch1), (.int ch2)] (.int (0 : Int32)) := (f12.other W18 nab)
      obtain ⟨c24, Ar24, q24, S24, M24, Hh24, G24⟩ := id f23
      have hin24 : ¬ ((2 : Int32) < 0 ∨ c24.slots.size ≤ ((2 : Int32)).toNatClampNeg) := inb_of S24 ⟨by decide, by decide⟩
      have hat24 : c24.slots[((2 : Int32)).toNatClampNeg]? = some (.int ch2) := Hh24.at hin24 rfl
      have go25 : Go p e below E0 T18 m 20 #[(sr ca), (si 2), (sr ba), (si 2), (si 3), (si 2), (si ch2)] [(.int 255), (.int ch2)] := fun tgt kont => go22 tgt (by
        refine X18.caload hx (j := (2 : Int32)) (v := (.int ch2)) (by rw [e18]; exact Ar24.1) (State.isArrayOf_alike hZ.alike Ar24.2.1) Ar24.2.2 hin24 hat24 (g := (mkF m 12 #[(sr ca), (si 2), (sr ba), (si 2), (si 3), (si 2), (si ch1)] [(.int 2), (.ref ca)])) rfl rfl (D d25_12) _ ?_; refine XS.istore X18.here hx rfl (D d25_13) rfl (l' := #[(sr ca), (si 2), (sr ba), (si 2), (si 3), (si 2), (si ch2)]) rfl ?_; refine XS.iload X18.here hx rfl (D d25_15) rfl ?_; refine XS.sipush X18.here hx rfl (D d25_17) ?_; exact kont)
      by_cases u2 : (255 : Int32) < ch2
      · have go26 : Go p e below E0 T18 m 25 #[(sr ca), (si 2), (sr ba), (si 2), (si 3), (si 2), (si ch2)] [(.int 2)] := fun tgt kont => go25 tgt (by
          refine XS.icmpNo X18.here hx rfl (D d25_20) rfl (tlt u2).2.2.2 ?_; refine XS.iload X18.here hx rfl (D d25_23) rfl ?_; exact kont)
        obtain ⟨fs, hr, hrun, hended, hW, hsame⟩ := X18.leave (v := some (.int (2 : Int32))) (fun h => by rw [Bd.returns] at h; cases h)
        refine ⟨_, _, go26 _ ?_, hrun, hended, _, _, rfl, ?_, ⟨_, rfl⟩, hW, hsame.mono (by decide) (by decide)⟩
        · show Steps p.tables e below (T18.setTop (mkF m 25 #[(sr ca), (si 2), (sr ba), (si 2), (si 3), (si 2), (si ch2)] [(.int 2)])) _
          exact retOut X18 hx Bd.returns rfl (Or.inl ⟨rfl, Or.inl rfl, _, rfl⟩) (D d25_25) hr
        · show QCM3 Z ca kc ba kb ch0 ch1 ch2 h0 n0 _ T18.heap _
          rw [e18]
          exact ⟨_, rfl, N18, K20, Or.inr (Or.inr (Or.inr (⟨rfl, u2⟩)))⟩
      · have go27 : Go p e below E0 T18 m 31 #[(sr ca), (si 2), (sr ba), (si 2), (si 3), (si 2), (si ch2)] [(.int (ch2.toInt8.toInt32)), (.int 2), (.ref ba)] := fun tgt kont => go25 tgt (by
          refine XS.icmpYes X18.here hx rfl (pc0 := 20) (pc' := 26) rfl (D d25_20) rfl (flt u2).2.2.2 (by decide) (by decide) ?_; refine XS.aloadN X18.here hx rfl (D d25_26) rfl rfl ?_; refine XS.iloadN X18.here hx rfl (D d25_27) rfl ?_; refine XS.iload X18.here hx rfl (D d25_28) rfl ?_; refine XS.i2b X18.here hx rfl (D d25_30) rfl ?_; exact kont)
        have p28 : Arv Z h18 ba kb .byte (3 : Int32) [(.int (nar .byte (ch0.toInt8.toInt32))), (.int (nar .byte (ch1.toInt8.toInt32))), (.int (0 : Int32))] (.int (0 : Int32)) := f21.pad (pad_rep [(.int (nar .byte (ch0.toInt8.toInt32))), (.int (nar .byte (ch1.toInt8.toInt32)))] (.int (0 : Int32)) 1)
        obtain ⟨c29, Ar29, q29, S29, M29, Hh29, G29⟩ := id p28
        obtain ⟨T29, h29, X29, e29, W29, st29⟩ := stB X18 hx hZ e18 Ar29 (j := (2 : Int32)) (inb_of S29 ⟨by decide, by decide⟩) (g := (mkF m 31 #[(sr ca), (si 2), (sr ba), (si 2), (si 3), (si 2), (si ch2)] [(.int (ch2.toInt8.toInt32)), (.int 2), (.ref ba)])) rfl rfl (D d25_31)
        have z30 : n0 ≤ h29.size := Nat.le_trans z19 (Keep.of_wr W29).1
        have K31 : Keep h0 h29 [ba] := K20.wr W29 (Or.inl (List.mem_of_getElem? (i := 0) rfl))
        have N29 := Fr.snoc X29 N18 gb
        have f32 : Arv Z h29 ba kb .byte (3 : Int32) [(.int (nar .byte (ch0.toInt8.toInt32))), (.int (nar .byte (ch1.toInt8.toInt32))), (.int (nar .byte (ch2.toInt8.toInt32)))] (.int (0 : Int32)) := Arv.set Ar29 q29 S29 M29 Hh29 G29 (fits_nar_byte _) W29 2 rfl (Nat.le_of_ble_eq_true rfl)
        have go29 : Go p e below E0 T29 m 32 #[(sr ca), (si 2), (sr ba), (si 2), (si 3), (si 2), (si ch2)] [] := fun tgt kont => go27 tgt (st29 tgt kont)
        have go33 : Go p e below E0 T29 m 46 #[(sr ca), (si 3), (sr ba), (si 3), (si 3), (si 3), (si ch2)] [(.int 3)] := fun tgt kont => go29 tgt (by
          refine XS.iinc X29.here hx rfl (D d25_32) rfl (l' := #[(sr ca), (si 3), (sr ba), (si 2), (si 3), (si 2), (si ch2)]) rfl ?_; refine XS.iinc X29.here hx rfl (D d25_35) rfl (l' := #[(sr ca), (si 3), (sr ba), (si 3), (si 3), (si 2), (si ch2)]) rfl ?_; refine XS.iinc X29.here hx rfl (D d25_38) rfl (l' := #[(sr ca), (si 3), (sr ba), (si 3), (si 3), (si 3), (si ch2)]) rfl ?_; refine XS.goto X29.here hx rfl (pc0 := 41) (pc' := 3) rfl (D d25_41) (by decide) (by decide) ?_; refine XS.iload X29.here hx rfl (D d25_3) rfl ?_; refine XS.iload X29.here hx rfl (D d25_5) rfl ?_; refine XS.icmpYes X29.here hx rfl (pc0 := 7) (pc' := 44) rfl (D d25_7) rfl (flt (by decide)).2.1 (by decide) (by decide) ?_; refine XS.iload X29.here hx rfl (D d25_44) rfl ?_; exact kont)
        obtain ⟨fs, hr, hrun, hended, hW, hsame⟩ := X29.leave (v := some (.int (3 : Int32))) (fun h => by rw [Bd.returns] at h; cases h)
        refine ⟨_, _, go33 _ ?_, hrun, hended, _, _, rfl, ?_, ⟨_, rfl⟩, hW, hsame.mono (by decide) (by decide)⟩
        · show Steps p.tables e below (T29.setTop (mkF m 46 #[(sr ca), (si 3), (sr ba), (si 3), (si 3), (si 3), (si ch2)] [(.int 3)])) _
          exact retOut X29 hx Bd.returns rfl (Or.inl ⟨rfl, Or.inl rfl, _, rfl⟩) (D d25_46) hr
        · show QCM3 Z ca kc ba kb ch0 ch1 ch2 h0 n0 _ T29.heap _
          rw [e29]
          exact ⟨_, rfl, N29, K31, Or.inl ⟨rfl, ⟨u0, u1, u2⟩, f32⟩⟩
theorem ef_CP3 (m : MethodId) (x0 : Addr) (x1 : Int32) (x2 : Int32) : entryFrame m #[(.ref x0), (.int x1), (.int x2)] 6 = mkF m 0 #[.val (.ref x0), .val (.int x1), .val (.int x2), .unset, .unset, .unset] [] := by first | (simp [entryFrame, mkF, argsToLocals, Value.category, maxLocals]; done) | rfl
def QCP3 (Z : State) (ca : Addr) (kc : ClassId) (ch0 : Int32) (ch1 : Int32) (ch2 : Int32) (G : Int32) (fv : Value) (h0 : Heap) (n0 : Nat) (v : Option Value) (h : Heap) (L : List Loc) : Prop := ∃ (t : Addr) (kb : ClassId), v = some (.ref t) ∧ Fr n0 L ∧ Keep h0 h [] ∧ n0 ≤ t ∧ h0.size ≤ t ∧ (((¬ (255 : Int32) < ch0 ∧ ¬ (255 : Int32) < ch1 ∧ ¬ (255 : Int32) < ch2) ∧ Arv Z h t kb .byte (3 : Int32) [(.int (own_lo ch0)), (.int (own_lo ch1)), (.int (own_lo ch2))] (.int (0 : Int32))) ∨ Arv Z h t kb .byte (6 : Int32) [(.int (own_b0 ch0)), (.int (own_b1 ch0)), (.int (own_b0 ch1)), (.int (own_b1 ch1)), (.int (own_b0 ch2)), (.int (own_b1 ch2))] (.int (0 : Int32)))
abbrev RmCP3 : Room := ({ frames := 3, cells := 2, slots := 9, locals := 40 } : Room)
set_option maxRecDepth 65536 in
set_option maxHeartbeats 40000000 in
theorem rmCP3 (l : Launch) (Z : State) (a0 : Array Value) (hw : ∀ d ∈ tables_1, d.before a0 Z = true) (ws : List Jvm.Cond) (ca : Addr) (kc : ClassId) (ch0 : Int32) (ch1 : Int32) (ch2 : Int32) (G : Int32) (fv : Value) (h0 : Heap) (n0 : Nat) (Z0 : n0 ≤ h0.size) (Ac : Arv Z h0 ca kc .char (3 : Int32) [(.int ch0), (.int ch1), (.int ch2)] (.int (0 : Int32))) (kch0 : own_ch ch0) (kch1 : own_ch ch1) (kch2 : own_ch ch2) (W0 : own_W Z G fv) (O0 : Old Z n0 h0) :
    MetFree l (⟨"java/lang/StringUTF16", "compress", "([CII)[B"⟩ : MethodName) (head1 (Jvm.Cond.code (⟨"java/lang/StringUTF16", "compress", "([CII)[B"⟩ : MethodName) jdk_52_method_16_code 6 (some (.array .byte)) :: ws) RmCP3) (fun as_ U => as_ = #[(.ref ca), (.int (0 : Int32)), (.int (3 : Int32))] ∧ Z.Warmed39 U.vm ∧ U.heap = h0) (fun _ _ _ _ _ => True) (fun _ U o U' => ∃ v L, o = .returned v ∧ QCP3 Z ca kc ch0 ch1 ch2 G fv h0 n0 v U'.heap L ∧ FrameEnd U o U' L RmCP3.cells RmCP3.slots) := by
  refine MetFree.of_bodySF (plainFor_of_name pn_5) hisR ?_
  intro p e s m args below meth c s₁ Bd hml0 hP hK
  obtain ⟨rfl, hZ, hh⟩ := hP
  have hx := Bd.exec
  have hby := Bd.bytes
  have D : ∀ {pc : Nat} {r : Except DecodeError (Instr × Nat)}, decode jdk_52_method_16_code pc = r → decode c.code pc = r := fun q => hb hby q
  have hml : c.maxLocals = 6 := hml0
  have hown : s.vm.findClass "java/lang/StringUTF16" = some m.cls := findClass_of_methodNamed Bd.named
  have hnm := (name_of_methodNamed Bd.named Bd.method).1
  have X0 : Stand p l e RmCP3 s m #[(.ref ca), (.int (0 : Int32)), (.int (3 : Int32))] below meth c s₁ [] 0 0 := Stand.of_body Bd
  have e0 : s₁.heap = h0 := by rw [← hh, Bd.state]; rfl
  have N0 := Fr.nil n0
  obtain ⟨E0, hE0⟩ : ∃ z, z = s₁.setTop (entryFrame m #[(.ref ca), (.int (0 : Int32)), (.int (3 : Int32))] 6) := ⟨_, rfl⟩
  rw [← hE0]
  have go0 : ∀ tgt, Steps p.tables e below (s₁.setTop (mkF m 0 #[(sr ca), (si 0), (si 3), .unset, .unset, .unset] [])) tgt → Steps p.tables e below E0 tgt := fun tgt kont => by rw [hE0]; exact castTop (ef_CP3 m ca (0 : Int32) (3 : Int32)) kont
  have go1 : Go p e below E0 s₁ m 1 #[(sr ca), (si 0), (si 3), .unset, .unset, .unset] [(.int 3)] := fun tgt kont => go0 tgt (by
    refine XS.iloadN X0.here hx rfl (D d26_0) rfl ?_; exact kont)
  obtain ⟨T2, h2, k2, X2, e2, E2, A2, st2⟩ := newP X0 hx hZ (wd hw 16 rfl) e0 (g := (mkF m 1 #[(sr ca), (si 0), (si 3), .unset, .unset, .unset] [(.int 3)])) rfl (D d26_1) rfl (by decide) (cap := 3) (by decide) (by decide) (by decide) (by decide)
  obtain ⟨ba, g2⟩ : ∃ z, z = h0.size := ⟨_, rfl⟩
  rw [← g2] at A2 st2
  have ne_ca_ba : ca ≠ ba := Nat.ne_of_lt (Nat.lt_of_lt_of_le Ac.lt (Nat.le_of_eq g2.symm))
  have ge_ba : n0 ≤ ba := Nat.le_trans Z0 (Nat.le_of_eq g2.symm)
  have hz_ba : h0.size ≤ ba := Nat.le_trans (Keep.refl h0 []).1 (Nat.le_of_eq g2.symm)
  have z3 : n0 ≤ h2.size := Nat.le_trans Z0 E2.1
  have K4 : Keep h0 h2 [] := (Keep.refl h0 []).ext E2
  have V2 : Arv Z h2 ba k2 .byte (3 : Int32) [] (.int (0 : Int32)) := Arv.new A2 (by decide)
  have go2 : Go p e below E0 T2 m 3 #[(sr ca), (si 0), (si 3), .unset, .unset, .unset] [(.ref ba)] := fun tgt kont => go1 tgt (st2 tgt kont)
  have f5 : Arv Z h2 ca kc .char (3 : Int32) [(.int ch0), (.int ch1), (.int ch2)] (.int (0 : Int32)) := (Ac.ext E2)
  have go6 : Go p e below E0 T2 m 9 #[(sr ca), (si 0), (si 3), (sr ba), .unset, .unset] [(.int 3), (.int 0), (.ref ba), (.int 0), (.ref ca)] := fun tgt kont => go2 tgt (by
    refine XS.astoreN X2.here hx rfl (D d26_3) rfl rfl (l' := #[(sr ca), (si 0), (si 3), (sr ba), .unset, .unset]) rfl ?_; refine XS.aloadN X2.here hx rfl (D d26_4) rfl rfl ?_; refine XS.iloadN X2.here hx rfl (D d26_5) rfl ?_; refine XS.aloadN X2.here hx rfl (D d26_6) rfl rfl ?_; refine XS.iconst X2.here hx rfl (D d26_7) ?_; refine XS.iloadN X2.here hx rfl (D d26_8) rfl ?_; exact kont)
  obtain ⟨_, _, ⟨T7, L7, k7, n7⟩, -, X7, ⟨Lc7, hQ7, l7, y7, z7⟩, st7⟩ := Jvm.LawKit.callS X2 hx (y := (⟨"java/lang/StringUTF16", "compress", "([CI[BII)I"⟩ : MethodName)) hown (mvT hZ (wd hw 47 rfl)) (mvT hZ (wd hw 48 rfl)) (mvT hZ (wd hw 45 rfl)) (mvT hZ (wd hw 49 rfl)) (by decide) (backOf (W := 0) (rmCM3 l Z a0 hw [] ca kc ba k2 ch0 ch1 ch2 h2 n0 z3 f5 V2 ge_ba ne_ca_ba) hZ (wd hw 49 rfl) (wd hw 45 rfl) (by decide) (by decide)) (g := (mkF m 9 #[(sr ca), (si 0), (si 3), (sr ba), .unset, .unset] [(.int 3), (.int 0), (.ref ba), (.int 0), (.ref ca)])) rfl (by rw [hml]; rfl) (argsL := [(.ref ca), (.int (0 : Int32)), (.ref ba), (.int (0 : Int32)), (.int (3 : Int32))]) (rest := []) (lenOf pd_19 rfl) rfl (by show 2 * 0 + _ ≤ _; exact Nat.le_of_eq rfl) (D d26_9) (fun _ _ => ⟨rfl, e2, (by decide : 1 + 0 ≤ _), (by decide : 3 + 0 ≤ _)⟩)
  dsimp only [Pt.U, Pt.locs, Pt.cells, Pt.slots] at X7 l7 y7 z7 st7 hQ7
  subst l7 y7 z7
  obtain ⟨r, rfl, N7q, Kc, hr⟩ := hQ7
  have N7 := Fr.app N0 N7q
  have z8 : n0 ≤ T7.heap.size := Nat.le_trans z3 Kc.1
  have K9 : Keep h0 T7.heap [] := K4.trans Kc (allS (Or.inr hz_ba) all0)
  have go7 : Go p e below E0 T7 m 12 #[(sr ca), (si 0), (si 3), (sr ba), .unset, .unset] [(.int r)] := fun tgt kont => go6 tgt (st7 tgt kont)
  have go10 : Go p e below E0 T7 m 17 #[(sr ca), (si 0), (si 3), (sr ba), (si r), .unset] [(.int 3), (.int r)] := fun tgt kont => go7 tgt (by
    refine XS.istore X7.here hx rfl (D d26_12) rfl (l' := #[(sr ca), (si 0), (si 3), (sr ba), (si r), .unset]) rfl ?_; refine XS.iload X7.here hx rfl (D d26_14) rfl ?_; refine XS.iloadN X7.here hx rfl (D d26_16) rfl ?_; exact kont)
  rcases hr with ⟨rfl, hall, Ab⟩ | ⟨rfl, hbig⟩ | ⟨rfl, hbig⟩ | ⟨rfl, hbig⟩
  · have go11 : Go p e below E0 T7 m 58 #[(sr ca), (si 0), (si 3), (sr ba), (si 3), .unset] [(.ref ba)] := fun tgt kont => go10 tgt (by
      refine XS.icmpYes X7.here hx rfl (pc0 := 17) (pc' := 57) rfl (D d26_17) rfl (teq rfl).1 (by decide) (by decide) ?_; refine XS.aloadN X7.here hx rfl (D d26_57) rfl rfl ?_; exact kont)
    obtain ⟨fs, hr, hrun, hended, hW, hsame⟩ := X7.leave (v := some (.ref ba)) (fun h => by rw [Bd.returns] at h; cases h)
    refine ⟨_, _, go11 _ ?_, hrun, hended, _, _, rfl, ?_, ⟨_, rfl⟩, hW, hsame.mono (by decide) (by decide)⟩
    · show Steps p.tables e below (T7.setTop (mkF m 58 #[(sr ca), (si 0), (si 3), (sr ba), (si 3), .unset] [(.ref ba)])) _
      exact retOut X7 hx Bd.returns rfl (Or.inr (Or.inr (Or.inr (Or.inr ⟨rfl, rfl, rfl⟩)))) (D d26_58) hr
    · show QCP3 Z ca kc ch0 ch1 ch2 G fv h0 n0 _ T7.heap _
      exact ⟨ba, k2, rfl, N7, K9, ge_ba, hz_ba, Or.inl ⟨hall, Ab⟩⟩
  · have f12 : Arv Z T7.heap ca kc .char (3 : Int32) [(.int ch0), (.int ch1), (.int ch2)] (.int (0 : Int32)) := (f5.keep Kc (ninS ne_ca_ba nin0))
    have f13 : Old Z n0 T7.heap := ((O0.ext E2).keep Kc (allS ge_ba all0))
    have go14 : Go p e below E0 T7 m 23 #[(sr ca), (si 0), (si 3), (sr ba), (si 0), .unset] [(.int 3), (.int 0), (.ref ca)] := fun tgt kont => go10 tgt (by
      refine XS.icmpNo X7.here hx rfl (D d26_17) rfl (feq (by decide)).1 ?_; refine XS.aloadN X7.here hx rfl (D d26_20) rfl rfl ?_; refine XS.iloadN X7.here hx rfl (D d26_21) rfl ?_; refine XS.iloadN X7.here hx rfl (D d26_22) rfl ?_; exact kont)
    obtain ⟨_, _, ⟨T15, L15, k15, n15⟩, -, X15, ⟨Lc15, hQ15, l15, y15, z15⟩, st15⟩ := Jvm.LawKit.callS X7 hx (y := (⟨"java/lang/StringUTF16", "toBytes", "([CII)[B"⟩ : MethodName)) hown (mvT hZ (wd hw 107 rfl)) (mvT hZ (wd hw 108 rfl)) (mvT hZ (wd hw 45 rfl)) (mvT hZ (wd hw 109 rfl)) (by decide) (backOf (W := 0) (rmTB3 l Z a0 hw [] ca kc ch0 ch1 ch2 G fv T7.heap n0 z8 f12 W0 f13) hZ (wd hw 109 rfl) (wd hw 45 rfl) (by decide) (by decide)) (g := (mkF m 23 #[(sr ca), (si 0), (si 3), (sr ba), (si 0), .unset] [(.int 3), (.int 0), (.ref ca)])) rfl (by rw [hml]; rfl) (argsL := [(.ref ca), (.int (0 : Int32)), (.int (3 : Int32))]) (rest := []) (lenOf pd_20 rfl) rfl (by show 2 * 0 + _ ≤ _; exact Nat.le_of_eq rfl) (D d26_23) (fun _ _ => ⟨rfl, rfl, (by decide : 1 + 1 ≤ _), (by decide : 3 + 6 ≤ _)⟩)
    dsimp only [Pt.U, Pt.locs, Pt.cells, Pt.slots] at X15 l15 y15 z15 st15 hQ15
    subst l15 y15 z15
    obtain ⟨kt, rfl, N15q, Kt, At⟩ := hQ15
    have N15 := Fr.app N7 N15q
    obtain ⟨t, g15⟩ : ∃ z, z = T7.heap.size := ⟨_, rfl⟩
    rw [← g15] at st15 At
    have ne_ca_t : ca ≠ t := Nat.ne_of_lt (Nat.lt_of_lt_of_le (Nat.lt_of_lt_of_le Ac.lt (Nat.le_trans E2.1 Kc.1)) (Nat.le_of_eq g15.symm))
    have ne_ba_t : ba ≠ t := Nat.ne_of_lt (Nat.lt_of_lt_of_le (Nat.lt_of_lt_of_le V2.lt Kc.1) (Nat.le_of_eq g15.symm))
    have ge_t : n0 ≤ t := Nat.le_trans z8 (Nat.le_of_eq g15.symm)
    have hz_t : h0.size ≤ t := Nat.le_trans K9.1 (Nat.le_of_eq g15.symm)
    have z16 : n0 ≤ T15.heap.size := Nat.le_trans z8 Kt.1
    have K17 : Keep h0 T15.heap [] := K9.trans Kt all0
    have go15 : Go p e below E0 T15 m 26 #[(sr ca), (si 0), (si 3), (sr ba), (si 0), .unset] [(.ref t)] := fun tgt kont => go14 tgt (st15 tgt kont)
    have f18 : Old Z n0 T15.heap := (f13.keep Kt all0)
    have go19 : Go p e below E0 T15 m 32 #[(sr ca), (si 0), (si 3), (sr ba), (si 0), (sr t)] [(.int 0), (.ref t)] := fun tgt kont => go15 tgt (by
      refine XS.astore X15.here hx rfl (D d26_26) rfl rfl (l' := #[(sr ca), (si 0), (si 3), (sr ba), (si 0), (sr t)]) rfl ?_; refine XS.aload X15.here hx rfl (D d26_28) rfl rfl ?_; refine XS.iload X15.here hx rfl (D d26_30) rfl ?_; exact kont)
    obtain ⟨_, _, ⟨T20, L20, k20, n20⟩, -, X20, ⟨Lc20, hQ20, l20, y20, z20⟩, st20⟩ := Jvm.LawKit.callS X15 hx (y := (⟨"java/lang/StringUTF16", "getChar", "([BI)C"⟩ : MethodName)) hown (mvT hZ (wd hw 123 rfl)) (mvT hZ (wd hw 124 rfl)) (mvT hZ (wd hw 45 rfl)) (mvT hZ (wd hw 125 rfl)) (by decide) (backOf (W := 0) (rmGC l Z a0 hw [] t kt (6 : Int32) [(.int (own_b0 ch0)), (.int (own_b1 ch0)), (.int (own_b0 ch1)), (.int (own_b1 ch1)), (.int (own_b0 ch2)), (.int (own_b1 ch2))] (0 : Int32) (own_b0 ch0) (own_b1 ch0) ch0 G fv T15.heap n0 z16 At (by decide) rfl (by decide) rfl (own_utfc kch0) W0 f18) hZ (wd hw 125 rfl) (wd hw 45 rfl) (by decide) (by decide)) (g := (mkF m 32 #[(sr ca), (si 0), (si 3), (sr ba), (si 0), (sr t)] [(.int 0), (.ref t)])) rfl (by rw [hml]; rfl) (argsL := [(.ref t), (.int (0 : Int32))]) (rest := []) (lenOf pd_8 rfl) rfl (by show 2 * 0 + _ ≤ _; exact Nat.le_of_eq rfl) (D d26_32) (fun _ _ => ⟨rfl, rfl, (by decide : 2 + 0 ≤ _), (by decide : 9 + 0 ≤ _)⟩)
    dsimp only [Pt.U, Pt.locs, Pt.cells, Pt.slots] at X20 l20 y20 z20 st20 hQ20
    subst l20 y20 z20
    obtain ⟨rfl, rfl, e20⟩ := hQ20
    have N20 := Fr.app N15 (Fr.nil n0)
    have go20 : Go p e below E0 T20 m 35 #[(sr ca), (si 0), (si 3), (sr ba), (si 0), (sr t)] [(.int ch0)] := fun tgt kont => go19 tgt (st20 tgt kont)
    have go21 : Go p e below E0 T20 m 56 #[(sr ca), (si 0), (si 3), (sr ba), (si 0), (sr t)] [(.ref t)] := fun tgt kont => go20 tgt (by
      refine XS.sipush X20.here hx rfl (D d26_35) ?_; refine XS.icmpYes X20.here hx rfl (pc0 := 38) (pc' := 54) rfl (D d26_38) rfl (tlt hbig).2.2.1 (by decide) (by decide) ?_; refine XS.aload X20.here hx rfl (D d26_54) rfl rfl ?_; exact kont)
    obtain ⟨fs, hr, hrun, hended, hW, hsame⟩ := X20.leave (v := some (.ref t)) (fun h => by rw [Bd.returns] at h; cases h)
    refine ⟨_, _, go21 _ ?_, hrun, hended, _, _, rfl, ?_, ⟨_, rfl⟩, hW, hsame.mono (by decide) (by decide)⟩
    · show Steps p.tables e below (T20.setTop (mkF m 56 #[(sr ca), (si 0), (si 3), (sr ba), (si 0), (sr t)] [(.ref t)])) _
      exact retOut X20 hx Bd.returns rfl (Or.inr (Or.inr (Or.inr (Or.inr ⟨rfl, rfl, rfl⟩)))) (D d26_56) hr
    · show QCP3 Z ca kc ch0 ch1 ch2 G fv h0 n0 _ T20.heap _
      rw [e20]
      exact ⟨t, kt, rfl, N20, K17, ge_t, hz_t, Or.inr At⟩
  · have f22 : Arv Z T7.heap ca kc .char (3 : Int32) [(.int ch0), (.int ch1), (.int ch2)] (.int (0 : Int32)) := (f5.keep Kc (ninS ne_ca_ba nin0))
    have f23 : Old Z n0 T7.heap := ((O0.ext E2).keep Kc (allS ge_ba all0))
    have go24 : Go p e below E0 T7 m 23 #[(sr ca), (si 0), (si 3), (sr ba), (si 1), .unset] [(.int 3), (.int 0), (.ref ca)] := fun tgt kont => go10 tgt (by
      refine XS.icmpNo X7.here hx rfl (D d26_17) rfl (feq (by decide)).1 ?_; refine XS.aloadN X7.here hx rfl (D d26_20) rfl rfl ?_; refine XS.iloadN X7.here hx rfl (D d26_21) rfl ?_; refine XS.iloadN X7.here hx rfl (D d26_22) rfl ?_; exact kont)
    obtain ⟨_, _, ⟨T25, L25, k25, n25⟩, -, X25, ⟨Lc25, hQ25, l25, y25, z25⟩, st25⟩ := Jvm.LawKit.callS X7 hx (y := (⟨"java/lang/StringUTF16", "toBytes", "([CII)[B"⟩ : MethodName)) hown (mvT hZ (wd hw 107 rfl)) (mvT hZ (wd hw 108 rfl)) (mvT hZ (wd hw 45 rfl)) (mvT hZ (wd hw 109 rfl)) (by decide) (backOf (W := 0) (rmTB3 l Z a0 hw [] ca kc ch0 ch1 ch2 G fv T7.heap n0 z8 f22 W0 f23) hZ (wd hw 109 rfl) (wd hw 45 rfl) (by decide) (by decide)) (g := (mkF m 23 #[(sr ca), (si 0), (si 3), (sr ba), (si 1), .unset] [(.int 3), (.int 0), (.ref ca)])) rfl (by rw [hml]; rfl) (argsL := [(.ref ca), (.int (0 : Int32)), (.int (3 : Int32))]) (rest := []) (lenOf pd_20 rfl) rfl (by show 2 * 0 + _ ≤ _; exact Nat.le_of_eq rfl) (D d26_23) (fun _ _ => ⟨rfl, rfl, (by decide : 1 + 1 ≤ _), (by decide : 3 + 6 ≤ _)⟩)
    dsimp only [Pt.U, Pt.locs, Pt.cells, Pt.slots] at X25 l25 y25 z25 st25 hQ25
    subst l25 y25 z25
    obtain ⟨kt, rfl, N25q, Kt, At⟩ := hQ25
    have N25 := Fr.app N7 N25q
    obtain ⟨t, g25⟩ : ∃ z, z = T7.heap.size := ⟨_, rfl⟩
    rw [← g25] at st25 At
    have ne_ca_t : ca ≠ t := Nat.ne_of_lt (Nat.lt_of_lt_of_le (Nat.lt_of_lt_of_le Ac.lt (Nat.le_trans E2.1 Kc.1)) (Nat.le_of_eq g25.symm))
    have ne_ba_t : ba ≠ t := Nat.ne_of_lt (Nat.lt_of_lt_of_le (Nat.lt_of_lt_of_le V2.lt Kc.1) (Nat.le_of_eq g25.symm))
    have ge_t : n0 ≤ t := Nat.le_trans z8 (Nat.le_of_eq g25.symm)
    have hz_t : h0.size ≤ t := Nat.le_trans K9.1 (Nat.le_of_eq g25.symm)
    have z26 : n0 ≤ T25.heap.size := Nat.le_trans z8 Kt.1
    have K27 : Keep h0 T25.heap [] := K9.trans Kt all0
    have go25 : Go p e below E0 T25 m 26 #[(sr ca), (si 0), (si 3), (sr ba), (si 1), .unset] [(.ref t)] := fun tgt kont => go24 tgt (st25 tgt kont)
    have f28 : Old Z n0 T25.heap := (f23.keep Kt all0)
    have go29 : Go p e below E0 T25 m 32 #[(sr ca), (si 0), (si 3), (sr ba), (si 1), (sr t)] [(.int 1), (.ref t)] := fun tgt kont => go25 tgt (by
      refine XS.astore X25.here hx rfl (D d26_26) rfl rfl (l' := #[(sr ca), (si 0), (si 3), (sr ba), (si 1), (sr t)]) rfl ?_; refine XS.aload X25.here hx rfl (D d26_28) rfl rfl ?_; refine XS.iload X25.here hx rfl (D d26_30) rfl ?_; exact kont)
    obtain ⟨_, _, ⟨T30, L30, k30, n30⟩, -, X30, ⟨Lc30, hQ30, l30, y30, z30⟩, st30⟩ := Jvm.LawKit.callS X25 hx (y := (⟨"java/lang/StringUTF16", "getChar", "([BI)C"⟩ : MethodName)) hown (mvT hZ (wd hw 123 rfl)) (mvT hZ (wd hw 124 rfl)) (mvT hZ (wd hw 45 rfl)) (mvT hZ (wd hw 125 rfl)) (by decide) (backOf (W := 0) (rmGC l Z a0 hw [] t kt (6 : Int32) [(.int (own_b0 ch0)), (.int (own_b1 ch0)), (.int (own_b0 ch1)), (.int (own_b1 ch1)), (.int (own_b0 ch2)), (.int (own_b1 ch2))] (1 : Int32) (own_b0 ch1) (own_b1 ch1) ch1 G fv T25.heap n0 z26 At (by decide) rfl (by decide) rfl (own_utfc kch1) W0 f28) hZ (wd hw 125 rfl) (wd hw 45 rfl) (by decide) (by decide)) (g := (mkF m 32 #[(sr ca), (si 0), (si 3), (sr ba), (si 1), (sr t)] [(.int 1), (.ref t)])) rfl (by rw [hml]; rfl) (argsL := [(.ref t), (.int (1 : Int32))]) (rest := []) (lenOf pd_8 rfl) rfl (by show 2 * 0 + _ ≤ _; exact Nat.le_of_eq rfl) (D d26_32) (fun _ _ => ⟨rfl, rfl, (by decide : 2 + 0 ≤ _), (by decide : 9 + 0 ≤ _)⟩)
    dsimp only [Pt.U, Pt.locs, Pt.cells, Pt.slots] at X30 l30 y30 z30 st30 hQ30
    subst l30 y30 z30
    obtain ⟨rfl, rfl, e30⟩ := hQ30
    have N30 := Fr.app N25 (Fr.nil n0)
    have go30 : Go p e below E0 T30 m 35 #[(sr ca), (si 0), (si 3), (sr ba), (si 1), (sr t)] [(.int ch1)] := fun tgt kont => go29 tgt (st30 tgt kont)
    have go31 : Go p e below E0 T30 m 56 #[(sr ca), (si 0), (si 3), (sr ba), (si 1), (sr t)] [(.ref t)] := fun tgt kont => go30 tgt (by
      refine XS.sipush X30.here hx rfl (D d26_35) ?_; refine XS.icmpYes X30.here hx rfl (pc0 := 38) (pc' := 54) rfl (D d26_38) rfl (tlt hbig).2.2.1 (by decide) (by decide) ?_; refine XS.aload X30.here hx rfl (D d26_54) rfl rfl ?_; exact kont)
    obtain ⟨fs, hr, hrun, hended, hW, hsame⟩ := X30.leave (v := some (.ref t)) (fun h => by rw [Bd.returns] at h; cases h)
    refine ⟨_, _, go31 _ ?_, hrun, hended, _, _, rfl, ?_, ⟨_, rfl⟩, hW, hsame.mono (by decide) (by decide)⟩
    · show Steps p.tables e below (T30.setTop (mkF m 56 #[(sr ca), (si 0), (si 3), (sr ba), (si 1), (sr t)] [(.ref t)])) _
      exact retOut X30 hx Bd.returns rfl (Or.inr (Or.inr (Or.inr (Or.inr ⟨rfl, rfl, rfl⟩)))) (D d26_56) hr
    · show QCP3 Z ca kc ch0 ch1 ch2 G fv h0 n0 _ T30.heap _
      rw [e30]
      exact ⟨t, kt, rfl, N30, K27, ge_t, hz_t, Or.inr At⟩
  · have f32 : Arv Z T7.heap ca kc .char (3 : Int32) [(.int ch0), (.int ch1), (.int ch2)] (.int (0 : Int32)) := (f5.keep Kc (ninS ne_ca_ba nin0))
    have f33 : Old Z n0 T7.heap := ((O0.ext E2).keep Kc (allS ge_ba all0))
    have go34 : Go p e below E0 T7 m 23 #[(sr ca), (si 0), (si 3), (sr ba), (si 2), .unset] [(.int 3), (.int 0), (.ref ca)] := fun tgt kont => go10 tgt (by
      refine XS.icmpNo X7.here hx rfl (D d26_17) rfl (feq (by decide)).1 ?_; refine XS.aloadN X7.here hx rfl (D d26_20) rfl rfl ?_; refine XS.iloadN X7.here hx rfl (D d26_21) rfl ?_; refine XS.iloadN X7.here hx rfl (D d26_22) rfl ?_; exact kont)
    obtain ⟨_, _, ⟨T35, L35, k35, n35⟩, -, X35, ⟨Lc35, hQ35, l35, y35, z35⟩, st35⟩ := Jvm.LawKit.callS X7 hx (y := (⟨"java/lang/StringUTF16", "toBytes", "([CII)[B"⟩ : MethodName)) hown (mvT hZ (wd hw 107 rfl)) (mvT hZ (wd hw 108 rfl)) (mvT hZ (wd hw 45 rfl)) (mvT hZ (wd hw 109 rfl)) (by decide) (backOf (W := 0) (rmTB3 l Z a0 hw [] ca kc ch0 ch1 ch2 G fv T7.heap n0 z8 f32 W0 f33) hZ (wd hw 109 rfl) (wd hw 45 rfl) (by decide) (by decide)) (g := (mkF m 23 #[(sr ca), (si 0), (si 3), (sr ba), (si 2), .unset] [(.int 3), (.int 0), (.ref ca)])) rfl (by rw [hml]; rfl) (argsL := [(.ref ca), (.int (0 : Int32)), (.int (3 : Int32))]) (rest := []) (lenOf pd_20 rfl) rfl (by show 2 * 0 + _ ≤ _; exact Nat.le_of_eq rfl) (D d26_23) (fun _ _ => ⟨rfl, rfl, (by decide : 1 + 1 ≤ _), (by decide : 3 + 6 ≤ _)⟩)
    dsimp only [Pt.U, Pt.locs, Pt.cells, Pt.slots] at X35 l35 y35 z35 st35 hQ35
    subst l35 y35 z35
    obtain ⟨kt, rfl, N35q, Kt, At⟩ := hQ35
    have N35 := Fr.app N7 N35q
    obtain ⟨t, g35⟩ : ∃ z, z = T7.heap.size := ⟨_, rfl⟩
    rw [← g35] at st35 At
    have ne_ca_t : ca ≠ t := Nat.ne_of_lt (Nat.lt_of_lt_of_le (Nat.lt_of_lt_of_le Ac.lt (Nat.le_trans E2.1 Kc.1)) (Nat.le_of_eq g35.symm))
    have ne_ba_t : ba ≠ t := Nat.ne_of_lt (Nat.lt_of_lt_of_le (Nat.lt_of_lt_of_le V2.lt Kc.1) (Nat.le_of_eq g35.symm))
    have ge_t : n0 ≤ t := Nat.le_trans z8 (Nat.le_of_eq g35.symm)
    have hz_t : h0.size ≤ t := Nat.le_trans K9.1 (Nat.le_of_eq g35.symm)
    have z36 : n0 ≤ T35.heap.size := Nat.le_trans z8 Kt.1
    have K37 : Keep h0 T35.heap [] := K9.trans Kt all0
    have go35 : Go p e below E0 T35 m 26 #[(sr ca), (si 0), (si 3), (sr ba), (si 2), .unset] [(.ref t)] := fun tgt kont => go34 tgt (st35 tgt kont)
    have f38 : Old Z n0 T35.heap := (f33.keep Kt all0)
    have go39 : Go p e below E0 T35 m 32 #[(sr ca), (si 0), (si 3), (sr ba), (si 2), (sr t)] [(.int 2), (.ref t)] := fun tgt kont => go35 tgt (by
      refine XS.astore X35.here hx rfl (D d26_26) rfl rfl (l' := #[(sr ca), (si 0), (si 3), (sr ba), (si 2), (sr t)]) rfl ?_; refine XS.aload X35.here hx rfl (D d26_28) rfl rfl ?_; refine XS.iload X35.here hx rfl (D d26_30) rfl ?_; exact kont)
    obtain ⟨_, _, ⟨T40, L40, k40, n40⟩, -, X40, ⟨Lc40, hQ40, l40, y40, z40⟩, st40⟩ := Jvm.LawKit.callS X35 hx (y := (⟨"java/lang/StringUTF16", "getChar", "([BI)C"⟩ : MethodName)) hown (mvT hZ (wd hw 123 rfl)) (mvT hZ (wd hw 124 rfl)) (mvT hZ (wd hw 45 rfl)) (mvT hZ (wd hw 125 rfl)) (by decide) (backOf (W := 0) (rmGC l Z a0 hw [] t kt (6 : Int32) [(.int (own_b0 ch0)), (.int (own_b1 ch0)), (.int (own_b0 ch1)), (.int (own_b1 ch1)), (.int (own_b0 ch2)), (.int (own_b1 ch2))] (2 : Int32) (own_b0 ch2) (own_b1 ch2) ch2 G fv T35.heap n0 z36 At (by decide) rfl (by decide) rfl (own_utfc kch2) W0 f38) hZ (wd hw 125 rfl) (wd hw 45 rfl) (by decide) (by decide)) (g := (mkF m 32 #[(sr ca), (si 0), (si 3), (sr ba), (si 2), (sr t)] [(.int 2), (.ref t)])) rfl (by rw [hml]; rfl) (argsL := [(.ref t), (.int (2 : Int32))]) (rest := []) (lenOf pd_8 rfl) rfl (by show 2 * 0 + _ ≤ _; exact Nat.le_of_eq rfl) (D d26_32) (fun _ _ => ⟨rfl, rfl, (by decide : 2 + 0 ≤ _), (by decide : 9 + 0 ≤ _)⟩)
    dsimp only [Pt.U, Pt.locs, Pt.cells, Pt.slots] at X40 l40 y40 z40 st40 hQ40
    subst l40 y40 z40
    obtain ⟨rfl, rfl, e40⟩ := hQ40
    have N40 := Fr.app N35 (Fr.nil n0)
    have go40 : Go p e below E0 T40 m 35 #[(sr ca), (si 0), (si 3), (sr ba), (si 2), (sr t)] [(.int ch2)] := fun tgt kont => go39 tgt (st40 tgt kont)
    have go41 : Go p e below E0 T40 m 56 #[(sr ca), (si 0), (si 3), (sr ba), (si 2), (sr t)] [(.ref t)] := fun tgt kont => go40 tgt (by
      refine XS.sipush X40.here hx rfl (D d26_35) ?_; refine XS.icmpYes X40.here hx rfl (pc0 := 38) (pc' := 54) rfl (D d26_38) rfl (tlt hbig).2.2.1 (by decide) (by decide) ?_; refine XS.aload X40.here hx rfl (D d26_54) rfl rfl ?_; exact kont)
    obtain ⟨fs, hr, hrun, hended, hW, hsame⟩ := X40.leave (v := some (.ref t)) (fun h => by rw [Bd.returns] at h; cases h)
    refine ⟨_, _, go41 _ ?_, hrun, hended, _, _, rfl, ?_, ⟨_, rfl⟩, hW, hsame.mono (by decide) (by decide)⟩
    · show Steps p.tables e below (T40.setTop (mkF m 56 #[(sr ca), (si 0), (si 3), (sr ba), (si 2), (sr t)] [(.ref t)])) _
      exact retOut X40 hx Bd.returns rfl (Or.inr (Or.inr (Or.inr (Or.inr ⟨rfl, rfl, rfl⟩)))) (D d26_56) hr
    · show QCP3 Z ca kc ch0 ch1 ch2 G fv h0 n0 _ T40.heap _
      rw [e40]
      exact ⟨t, kt, rfl, N40, K37, ge_t, hz_t, Or.inr At⟩
theorem ef_V3 (m : MethodId) (x0 : Addr) (x1 : Addr) (x2 : Int32) (x3 : Int32) : entryFrame m #[(.ref x0), (.ref x1), (.int x2), (.int x3), .null] 6 = mkF m 0 #[.val (.ref x0), .val (.ref x1), .val (.int x2), .val (.int x3), .val .null, .unset] [] := by first | (simp [entryFrame, mkF, argsToLocals, Value.category, maxLocals]; done) | rfl
def QV3 (Z : State) (x : Addr) (ca : Addr) (kc : ClassId) (ch0 : Int32) (ch1 : Int32) (ch2 : Int32) (G : Int32) (fv : Value) (h0 : Heap) (n0 : Nat) (v : Option Value) (h : Heap) (L : List Loc) : Prop := v = none ∧ Fr n0 L ∧ Keep h0 h [x] ∧ own_S3 Z h x ch0 ch1 ch2
abbrev RmV3 : Room := ({ frames := 4, cells := 2, slots := 9, locals := 57 } : Room)
set_option maxRecDepth 65536 in
set_option maxHeartbeats 40000000 in
theorem rmV3 (l : Launch) (Z : State) (a0 : Array Value) (hw : ∀ d ∈ tables_1, d.before a0 Z = true) (ws : List Jvm.Cond) (x : Addr) (ca : Addr) (kc : ClassId) (ch0 : Int32) (ch1 : Int32) (ch2 : Int32) (G : Int32) (fv : Value) (h0 : Heap) (n0 : Nat) (Z0 : n0 ≤ h0.size) (Ex : Exa Z h0 x "java/lang/String") (gx : n0 ≤ x) (Fv : Fld Z h0 x "java/lang/String" "value" "[B" .null) (Fc : Fld Z h0 x "java/lang/String" "coder" "B" (.int (0 : Int32))) (Ac : Arv Z h0 ca kc .char (3 : Int32) [(.int ch0), (.int ch1), (.int ch2)] (.int (0 : Int32))) (kch0 : own_ch ch0) (kch1 : own_ch ch1) (kch2 : own_ch ch2) (W0 : own_W Z G fv) (O0 : Old Z n0 h0) :
    MetFree l (⟨"java/lang/String", "<init>", "([CIILjava/lang/Void;)V"⟩ : MethodName) (head1 (Jvm.Cond.code (⟨"java/lang/String", "<init>", "([CIILjava/lang/Void;)V"⟩ : MethodName) jdk_42_method_149_code 6 none :: ws) RmV3) (fun as_ U => as_ = #[(.ref x), (.ref ca), (.int (0 : Int32)), (.int (3 : Int32)), .null] ∧ Z.Warmed39 U.vm ∧ U.heap = h0) (fun _ _ _ _ _ => True) (fun _ U o U' => ∃ v L, o = .returned v ∧ QV3 Z x ca kc ch0 ch1 ch2 G fv h0 n0 v U'.heap L ∧ FrameEnd U o U' L RmV3.cells RmV3.slots) := by
  refine MetFree.of_bodySF (plainFor_of_name pn_2) hisR ?_
  intro p e s m args below meth c s₁ Bd hml0 hP hK
  obtain ⟨rfl, hZ, hh⟩ := hP
  have hx := Bd.exec
  have hby := Bd.bytes
  have D : ∀ {pc : Nat} {r : Except DecodeError (Instr × Nat)}, decode jdk_42_method_149_code pc = r → decode c.code pc = r := fun q => hb hby q
  have hml : c.maxLocals = 6 := hml0
  have hown : s.vm.findClass "java/lang/String" = some m.cls := findClass_of_methodNamed Bd.named
  have hnm := (name_of_methodNamed Bd.named Bd.method).1
  have X0 : Stand p l e RmV3 s m #[(.ref x), (.ref ca), (.int (0 : Int32)), (.int (3 : Int32)), .null] below meth c s₁ [] 0 0 := Stand.of_body Bd
  have e0 : s₁.heap = h0 := by rw [← hh, Bd.state]; rfl
  have N0 := Fr.nil n0
  obtain ⟨E0, hE0⟩ : ∃ z, z = s₁.setTop (entryFrame m #[(.ref x), (.ref ca), (.int (0 : Int32)), (.int (3 : Int32)), .null] 6) := ⟨_, rfl⟩
  rw [← hE0]
  have go0 : ∀ tgt, Steps p.tables e below (s₁.setTop (mkF m 0 #[(sr x), (sr ca), (si 0), (si 3), .val .null, .unset] [])) tgt → Steps p.tables e below E0 tgt := fun tgt kont => by rw [hE0]; exact castTop (ef_V3 m x ca (0 : Int32) (3 : Int32)) kont
  have go1 : Go p e below E0 s₁ m 1 #[(sr x), (sr ca), (si 0), (si 3), .val .null, .unset] [(.ref x)] := fun tgt kont => go0 tgt (by
    refine XS.aloadN X0.here hx rfl (D d27_0) rfl rfl ?_; exact kont)
  obtain ⟨T2, X2, e2, st2⟩ := initO X0 hx hZ hown (wd hw 12 rfl) (wd hw 13 rfl) (wd hw 14 rfl) e0 (g := (mkF m 1 #[(sr x), (sr ca), (si 0), (si 3), .val .null, .unset] [(.ref x)])) rfl (by rw [hml]; rfl) rfl (D d27_1) (by decide) (W := 0) (by show 2 * 0 + _ ≤ _; exact Nat.le_of_eq rfl) (by decide)
  have go2 : Go p e below E0 T2 m 4 #[(sr x), (sr ca), (si 0), (si 3), .val .null, .unset] [] := fun tgt kont => go1 tgt (st2 tgt kont)
  have go3 : Go p e below E0 T2 m 27 #[(sr x), (sr ca), (si 0), (si 3), .val .null, .unset] [] := fun tgt kont => go2 tgt (by
    refine XS.iloadN X2.here hx rfl (D d27_4) rfl ?_; refine XS.ifYes X2.here hx rfl (pc0 := 5) (pc' := 27) rfl (D d27_5) rfl ((if0 _ _).trans (feq (by decide)).2) (by decide) (by decide) ?_; exact kont)
  obtain ⟨T4, X4, e4, st4⟩ := getS2 X2 hx hZ hown (host := "") (Or.inl (wd hw 37 rfl)) Via.refl e2 (W0.1.ext O0.2) (g := (mkF m 27 #[(sr x), (sr ca), (si 0), (si 3), .val .null, .unset] [])) rfl (D d27_27)
  have go4 : Go p e below E0 T4 m 30 #[(sr x), (sr ca), (si 0), (si 3), .val .null, .unset] [(.int G)] := fun tgt kont => go3 tgt (st4 tgt kont)
  have go5 : Go p e below E0 T4 m 36 #[(sr x), (sr ca), (si 0), (si 3), .val .null, .unset] [(.int 3), (.int 0), (.ref ca)] := fun tgt kont => go4 tgt (by
    refine XS.ifNo X4.here hx rfl (D d27_30) rfl ((if0 _ _).trans (feq W0.2.1).1) ?_; refine XS.aloadN X4.here hx rfl (D d27_33) rfl rfl ?_; refine XS.iloadN X4.here hx rfl (D d27_34) rfl ?_; refine XS.iloadN X4.here hx rfl (D d27_35) rfl ?_; exact kont)
  obtain ⟨_, _, ⟨T6, L6, k6, n6⟩, -, X6, ⟨Lc6, hQ6, l6, y6, z6⟩, st6⟩ := Jvm.LawKit.callS X4 hx (y := (⟨"java/lang/StringUTF16", "compress", "([CII)[B"⟩ : MethodName)) hown (mvT hZ (wd hw 43 rfl)) (mvT hZ (wd hw 44 rfl)) (mvT hZ (wd hw 45 rfl)) (mvT hZ (wd hw 46 rfl)) (by decide) (backOf (W := 0) (rmCP3 l Z a0 hw [] ca kc ch0 ch1 ch2 G fv h0 n0 Z0 Ac kch0 kch1 kch2 W0 O0) hZ (wd hw 46 rfl) (wd hw 45 rfl) (by decide) (by decide)) (g := (mkF m 36 #[(sr x), (sr ca), (si 0), (si 3), .val .null, .unset] [(.int 3), (.int 0), (.ref ca)])) rfl (by rw [hml]; rfl) (argsL := [(.ref ca), (.int (0 : Int32)), (.int (3 : Int32))]) (rest := []) (lenOf pd_20 rfl) rfl (by show 2 * 0 + _ ≤ _; exact Nat.le_of_eq rfl) (D d27_36) (fun _ _ => ⟨rfl, e4, (by decide : 0 + 2 ≤ _), (by decide : 0 + 9 ≤ _)⟩)
  dsimp only [Pt.U, Pt.locs, Pt.cells, Pt.slots] at X6 l6 y6 z6 st6 hQ6
  subst l6 y6 z6
  obtain ⟨t, kb, rfl, N6q, Kc, gt, zt, hd⟩ := hQ6
  have N6 := Fr.app N0 N6q
  have z7 : n0 ≤ T6.heap.size := Nat.le_trans Z0 Kc.1
  have K8 : Keep h0 T6.heap [x] := (Keep.refl h0 [x]).trans Kc all0
  have go6 : Go p e below E0 T6 m 39 #[(sr x), (sr ca), (si 0), (si 3), .val .null, .unset] [(.ref t)] := fun tgt kont => go5 tgt (st6 tgt kont)
  have ne_x_t : x ≠ t := Nat.ne_of_lt (Nat.lt_of_lt_of_le Ex.lt zt)
  have go9 : Go p e below E0 T6 m 45 #[(sr x), (sr ca), (si 0), (si 3), .val .null, (sr t)] [(.int 3), (.ref t), (.ref x)] := fun tgt kont => go6 tgt (by
    refine XS.astore X6.here hx rfl (D d27_39) rfl rfl (l' := #[(sr x), (sr ca), (si 0), (si 3), .val .null, (sr t)]) rfl ?_; refine XS.aloadN X6.here hx rfl (D d27_41) rfl rfl ?_; refine XS.aload X6.here hx rfl (D d27_42) rfl rfl ?_; refine XS.iloadN X6.here hx rfl (D d27_44) rfl ?_; exact kont)
  rcases hd with ⟨hall, Ab⟩ | Ab
  · obtain ⟨_, _, ⟨T10, L10, k10, n10⟩, -, X10, ⟨Lc10, hQ10, l10, y10, z10⟩, st10⟩ := Jvm.LawKit.callS X6 hx (y := (⟨"java/lang/StringUTF16", "coderFromArrayLen", "([BI)B"⟩ : MethodName)) hown (mvT hZ (wd hw 50 rfl)) (mvT hZ (wd hw 51 rfl)) (mvT hZ (wd hw 45 rfl)) (mvT hZ (wd hw 52 rfl)) (by decide) (backOf (W := 1) (rmCF l Z a0 hw [] t kb (3 : Int32) [(.int (own_lo ch0)), (.int (own_lo ch1)), (.int (own_lo ch2))] (3 : Int32) (0 : Int32) T6.heap n0 z7 Ab (by decide)) hZ (wd hw 52 rfl) (wd hw 45 rfl) (by decide) (by decide)) (g := (mkF m 45 #[(sr x), (sr ca), (si 0), (si 3), .val .null, (sr t)] [(.int 3), (.ref t), (.ref x)])) rfl (by rw [hml]; rfl) (argsL := [(.ref t), (.int (3 : Int32))]) (rest := [(.ref x)]) (lenOf pd_21 rfl) rfl (by show 2 * 0 + _ ≤ _; exact Nat.le_of_eq rfl) (D d27_45) (fun _ _ => ⟨rfl, rfl, (by decide : 2 + 0 ≤ _), (by decide : 9 + 0 ≤ _)⟩)
    dsimp only [Pt.U, Pt.locs, Pt.cells, Pt.slots] at X10 l10 y10 z10 st10 hQ10
    subst l10 y10 z10
    obtain ⟨rfl, rfl, e10⟩ := hQ10
    have N10 := Fr.app N6 (Fr.nil n0)
    have go10 : Go p e below E0 T10 m 48 #[(sr x), (sr ca), (si 0), (si 3), .val .null, (sr t)] [(.int 0), (.ref x)] := fun tgt kont => go9 tgt (st10 tgt kont)
    have f11 : Fld Z T6.heap x "java/lang/String" "coder" "B" (.int (0 : Int32)) := (Fc.keep Kc nin0)
    have f12 : Exa Z T6.heap x "java/lang/String" := (Ex.keep Kc)
    obtain ⟨T13, h13, X13, e13, W13, st13⟩ := putF X10 hx hZ hown (host := "") (Or.inl (wd hw 22 rfl)) Via.refl e10 f11 f12 (Or.inr ⟨(wd hw 18 rfl), rfl, hnm⟩) (wd hw 3 rfl) (ty := .byte) (by decide) rfl rfl (g := (mkF m 48 #[(sr x), (sr ca), (si 0), (si 3), .val .null, (sr t)] [(.int 0), (.ref x)])) rfl rfl (D d27_48)
    have z14 : n0 ≤ h13.size := Nat.le_trans z7 (Keep.of_wr W13).1
    have K15 : Keep h0 h13 [x] := K8.wr W13 (Or.inl (List.mem_of_getElem? (i := 0) rfl))
    have N13 := Fr.snoc X13 N10 gx
    have f16 : Fld Z h13 x "java/lang/String" "coder" "B" (.int (0 : Int32)) := (f11.same W13)
    have go13 : Go p e below E0 T13 m 51 #[(sr x), (sr ca), (si 0), (si 3), .val .null, (sr t)] [] := fun tgt kont => go10 tgt (st13 tgt kont)
    have go17 : Go p e below E0 T13 m 54 #[(sr x), (sr ca), (si 0), (si 3), .val .null, (sr t)] [(.ref t), (.ref x)] := fun tgt kont => go13 tgt (by
      refine XS.aloadN X13.here hx rfl (D d27_51) rfl rfl ?_; refine XS.aload X13.here hx rfl (D d27_52) rfl rfl ?_; exact kont)
    have f18 : Fld Z h13 x "java/lang/String" "value" "[B" .null := ((Fv.keep Kc nin0).other W13 (Or.inr (slot_ne (Or.inr (wd hw 17 rfl)) (Or.inr (wd hw 18 rfl)) (by decide) (t := (.array .byte)) (t' := .byte) (by decide) (by decide))))
    have f19 : Exa Z h13 x "java/lang/String" := (f12.wr W13)
    obtain ⟨T20, h20, X20, e20, W20, st20⟩ := putF X13 hx hZ hown (host := "") (Or.inl (wd hw 21 rfl)) Via.refl e13 f18 f19 (Or.inr ⟨(wd hw 17 rfl), rfl, hnm⟩) (wd hw 3 rfl) (ty := (.array .byte)) (by decide) rfl rfl (g := (mkF m 54 #[(sr x), (sr ca), (si 0), (si 3), .val .null, (sr t)] [(.ref t), (.ref x)])) rfl rfl (D d27_54)
    have z21 : n0 ≤ h20.size := Nat.le_trans z14 (Keep.of_wr W20).1
    have K22 : Keep h0 h20 [x] := K15.wr W20 (Or.inl (List.mem_of_getElem? (i := 0) rfl))
    have N20 := Fr.snoc X20 N13 gx
    have f23 : Fld Z h20 x "java/lang/String" "value" "[B" (.ref t) := (f18.same W20)
    have go20 : Go p e below E0 T20 m 57 #[(sr x), (sr ca), (si 0), (si 3), .val .null, (sr t)] [] := fun tgt kont => go17 tgt (st20 tgt kont)
    have f24 : Exa Z h20 x "java/lang/String" := (f19.wr W20)
    have f25 : Fld Z h20 x "java/lang/String" "coder" "B" (.int (0 : Int32)) := (f16.other W20 (Or.inr (slot_ne (Or.inr (wd hw 18 rfl)) (Or.inr (wd hw 17 rfl)) (by decide) (t := .byte) (t' := (.array .byte)) (by decide) (by decide))))
    have f26 : Arv Z h20 t kb .byte (3 : Int32) [(.int (own_lo ch0)), (.int (own_lo ch1)), (.int (own_lo ch2))] (.int (0 : Int32)) := ((Ab.other W13 (Ne.symm ne_x_t)).other W20 (Ne.symm ne_x_t))
    obtain ⟨fs, hr, hrun, hended, hW, hsame⟩ := X20.leave (v := none) (fun _ => rfl)
    refine ⟨_, _, go20 _ ?_, hrun, hended, _, _, rfl, ?_, ⟨_, rfl⟩, hW, hsame.mono (by decide) (by decide)⟩
    · show Steps p.tables e below (T20.setTop (mkF m 57 #[(sr x), (sr ca), (si 0), (si 3), .val .null, (sr t)] [])) _
      exact X20.returnOut hx Bd.returns (D d27_57) hr
    · show QV3 Z x ca kc ch0 ch1 ch2 G fv h0 n0 _ T20.heap _
      rw [e20]
      exact ⟨rfl, N20, K22, t, kb, f24, f23, Or.inl ⟨f25, f26, hall⟩⟩
  · obtain ⟨_, _, ⟨T27, L27, k27, n27⟩, -, X27, ⟨Lc27, hQ27, l27, y27, z27⟩, st27⟩ := Jvm.LawKit.callS X6 hx (y := (⟨"java/lang/StringUTF16", "coderFromArrayLen", "([BI)B"⟩ : MethodName)) hown (mvT hZ (wd hw 50 rfl)) (mvT hZ (wd hw 51 rfl)) (mvT hZ (wd hw 45 rfl)) (mvT hZ (wd hw 52 rfl)) (by decide) (backOf (W := 1) (rmCF l Z a0 hw [] t kb (6 : Int32) [(.int (own_b0 ch0)), (.int (own_b1 ch0)), (.int (own_b0 ch1)), (.int (own_b1 ch1)), (.int (own_b0 ch2)), (.int (own_b1 ch2))] (3 : Int32) (1 : Int32) T6.heap n0 z7 Ab (by decide)) hZ (wd hw 52 rfl) (wd hw 45 rfl) (by decide) (by decide)) (g := (mkF m 45 #[(sr x), (sr ca), (si 0), (si 3), .val .null, (sr t)] [(.int 3), (.ref t), (.ref x)])) rfl (by rw [hml]; rfl) (argsL := [(.ref t), (.int (3 : Int32))]) (rest := [(.ref x)]) (lenOf pd_21 rfl) rfl (by show 2 * 0 + _ ≤ _; exact Nat.le_of_eq rfl) (D d27_45) (fun _ _ => ⟨rfl, rfl, (by decide : 2 + 0 ≤ _), (by decide : 9 + 0 ≤ _)⟩)
    dsimp only [Pt.U, Pt.locs, Pt.cells, Pt.slots] at X27 l27 y27 z27 st27 hQ27
    subst l27 y27 z27
    obtain ⟨rfl, rfl, e27⟩ := hQ27
    have N27 := Fr.app N6 (Fr.nil n0)
    have go27 : Go p e below E0 T27 m 48 #[(sr x), (sr ca), (si 0), (si 3), .val .null, (sr t)] [(.int 1), (.ref x)] := fun tgt kont => go9 tgt (st27 tgt kont)
    have f28 : Fld Z T6.heap x "java/lang/String" "coder" "B" (.int (0 : Int32)) := (Fc.keep Kc nin0)
    have f29 : Exa Z T6.heap x "java/lang/String" := (Ex.keep Kc)
    obtain ⟨T30, h30, X30, e30, W30, st30⟩ := putF X27 hx hZ hown (host := "") (Or.inl (wd hw 22 rfl)) Via.refl e27 f28 f29 (Or.inr ⟨(wd hw 18 rfl), rfl, hnm⟩) (wd hw 3 rfl) (ty := .byte) (by decide) rfl rfl (g := (mkF m 48 #[(sr x), (sr ca), (si 0), (si 3), .val .null, (sr t)] [(.int 1), (.ref x)])) rfl rfl (D d27_48)
    have z31 : n0 ≤ h30.size := Nat.le_trans z7 (Keep.of_wr W30).1
    have K32 : Keep h0 h30 [x] := K8.wr W30 (Or.inl (List.mem_of_getElem? (i := 0) rfl))
    have N30 := Fr.snoc X30 N27 gx
    have f33 : Fld Z h30 x "java/lang/String" "coder" "B" (.int (1 : Int32)) := (f28.same W30)
    have go30 : Go p e below E0 T30 m 51 #[(sr x), (sr ca), (si 0), (si 3), .val .null, (sr t)] [] := fun tgt kont => go27 tgt (st30 tgt kont)
    have go34 : Go p e below E0 T30 m 54 #[(sr x), (sr ca), (si 0), (si 3), .val .null, (sr t)] [(.ref t), (.ref x)] := fun tgt kont => go30 tgt (by
      refine XS.aloadN X30.here hx rfl (D d27_51) rfl rfl ?_; refine XS.aload X30.here hx rfl (D d27_52) rfl rfl ?_; exact kont)
    have f35 : Fld Z h30 x "java/lang/String" "value" "[B" .null := ((Fv.keep Kc nin0).other W30 (Or.inr (slot_ne (Or.inr (wd hw 17 rfl)) (Or.inr (wd hw 18 rfl)) (by decide) (t := (.array .byte)) (t' := .byte) (by decide) (by decide))))
    have f36 : Exa Z h30 x "java/lang/String" := (f29.wr W30)
    obtain ⟨T37, h37, X37, e37, W37, st37⟩ := putF X30 hx hZ hown (host := "") (Or.inl (wd hw 21 rfl)) Via.refl e30 f35 f36 (Or.inr ⟨(wd hw 17 rfl), rfl, hnm⟩) (wd hw 3 rfl) (ty := (.array .byte)) (by decide) rfl rfl (g := (mkF m 54 #[(sr x), (sr ca), (si 0), (si 3), .val .null, (sr t)] [(.ref t), (.ref x)])) rfl rfl (D d27_54)
    have z38 : n0 ≤ h37.size := Nat.le_trans z31 (Keep.of_wr W37).1
    have K39 : Keep h0 h37 [x] := K32.wr W37 (Or.inl (List.mem_of_getElem? (i := 0) rfl))
    have N37 := Fr.snoc X37 N30 gx
    have f40 : Fld Z h37 x "java/lang/String" "value" "[B" (.ref t) := (f35.same W37)
    have go37 : Go p e below E0 T37 m 57 #[(sr x), (sr ca), (si 0), (si 3), .val .null, (sr t)] [] := fun tgt kont => go34 tgt (st37 tgt kont)
    have f41 : Exa Z h37 x "java/lang/String" := (f36.wr W37)
    have f42 : Fld Z h37 x "java/lang/String" "coder" "B" (.int (1 : Int32)) := (f33.other W37 (Or.inr (slot_ne (Or.inr (wd hw 18 rfl)) (Or.inr (wd hw 17 rfl)) (by decide) (t := .byte) (t' := (.array .byte)) (by decide) (by decide))))
    have f43 : Arv Z h37 t kb .byte (6 : Int32) [(.int (own_b0 ch0)), (.int (own_b1 ch0)), (.int (own_b0 ch1)), (.int (own_b1 ch1)), (.int (own_b0 ch2)), (.int (own_b1 ch2))] (.int (0 : Int32)) := ((Ab.other W30 (Ne.symm ne_x_t)).other W37 (Ne.symm ne_x_t))
    obtain ⟨fs, hr, hrun, hended, hW, hsame⟩ := X37.leave (v := none) (fun _ => rfl)
    refine ⟨_, _, go37 _ ?_, hrun, hended, _, _, rfl, ?_, ⟨_, rfl⟩, hW, hsame.mono (by decide) (by decide)⟩
    · show Steps p.tables e below (T37.setTop (mkF m 57 #[(sr x), (sr ca), (si 0), (si 3), .val .null, (sr t)] [])) _
      exact X37.returnOut hx Bd.returns (D d27_57) hr
    · show QV3 Z x ca kc ch0 ch1 ch2 G fv h0 n0 _ T37.heap _
      rw [e37]
      exact ⟨rfl, N37, K39, t, kb, f41, f40, Or.inr ⟨f42, f43⟩⟩
theorem ef_N3 (m : MethodId) (x0 : Addr) (x1 : Addr) : entryFrame m #[(.ref x0), (.ref x1)] 2 = mkF m 0 #[.val (.ref x0), .val (.ref x1)] [] := by first | (simp [entryFrame, mkF, argsToLocals, Value.category, maxLocals]; done) | rfl
def QN3 (Z : State) (x : Addr) (ca : Addr) (kc : ClassId) (ch0 : Int32) (ch1 : Int32) (ch2 : Int32) (G : Int32) (fv : Value) (h0 : Heap) (n0 : Nat) (v : Option Value) (h : Heap) (L : List Loc) : Prop := v = none ∧ Fr n0 L ∧ Keep h0 h [x] ∧ own_S3 Z h x ch0 ch1 ch2
abbrev RmN3 : Room := ({ frames := 5, cells := 2, slots := 9, locals := 74 } : Room)
set_option maxRecDepth 65536 in
set_option maxHeartbeats 40000000 in
theorem rmN3 (l : Launch) (Z : State) (a0 : Array Value) (hw : ∀ d ∈ tables_1, d.before a0 Z = true) (ws : List Jvm.Cond) (x : Addr) (ca : Addr) (kc : ClassId) (ch0 : Int32) (ch1 : Int32) (ch2 : Int32) (G : Int32) (fv : Value) (h0 : Heap) (n0 : Nat) (Z0 : n0 ≤ h0.size) (Ex : Exa Z h0 x "java/lang/String") (gx : n0 ≤ x) (Fv : Fld Z h0 x "java/lang/String" "value" "[B" .null) (Fc : Fld Z h0 x "java/lang/String" "coder" "B" (.int (0 : Int32))) (Ac : Arv Z h0 ca kc .char (3 : Int32) [(.int ch0), (.int ch1), (.int ch2)] (.int (0 : Int32))) (kch0 : own_ch ch0) (kch1 : own_ch ch1) (kch2 : own_ch ch2) (W0 : own_W Z G fv) (O0 : Old Z n0 h0) :
    MetFree l (⟨"java/lang/String", "<init>", "([C)V"⟩ : MethodName) (head1 (Jvm.Cond.code (⟨"java/lang/String", "<init>", "([C)V"⟩ : MethodName) jdk_42_method_3_code 2 none :: ws) RmN3) (fun as_ U => as_ = #[(.ref x), (.ref ca)] ∧ Z.Warmed39 U.vm ∧ U.heap = h0) (fun _ _ _ _ _ => True) (fun _ U o U' => ∃ v L, o = .returned v ∧ QN3 Z x ca kc ch0 ch1 ch2 G fv h0 n0 v U'.heap L ∧ FrameEnd U o U' L RmN3.cells RmN3.slots) := by
  refine MetFree.of_bodySF (plainFor_of_name pn_2) hisR ?_
  intro p e s m args below meth c s₁ Bd hml0 hP hK
  obtain ⟨rfl, hZ, hh⟩ := hP
  have hx := Bd.exec
  have hby := Bd.bytes
  have D : ∀ {pc : Nat} {r : Except DecodeError (Instr × Nat)}, decode jdk_42_method_3_code pc = r → decode c.code pc = r := fun q => hb hby q
  have hml : c.maxLocals = 2 := hml0
  have hown : s.vm.findClass "java/lang/String" = some m.cls := findClass_of_methodNamed Bd.named
  have hnm := (name_of_methodNamed Bd.named Bd.method).1
  have X0 : Stand p l e RmN3 s m #[(.ref x), (.ref ca)] below meth c s₁ [] 0 0 := Stand.of_body Bd
  have e0 : s₁.heap = h0 := by rw [← hh, Bd.state]; rfl
  have N0 := Fr.nil n0
  obtain ⟨E0, hE0⟩ : ∃ z, z = s₁.setTop (entryFrame m #[(.ref x), (.ref ca)] 2) := ⟨_, rfl⟩
  rw [← hE0]
  have go0 : ∀ tgt, Steps p.tables e below (s₁.setTop (mkF m 0 #[(sr x), (sr ca)] [])) tgt → Steps p.tables e below E0 tgt := fun tgt kont => by rw [hE0]; exact castTop (ef_N3 m x ca) kont
  have go1 : Go p e below E0 s₁ m 4 #[(sr x), (sr ca)] [(.ref ca), (.int 0), (.ref ca), (.ref x)] := fun tgt kont => go0 tgt (by
    refine XS.aloadN X0.here hx rfl (D d28_0) rfl rfl ?_; refine XS.aloadN X0.here hx rfl (D d28_1) rfl rfl ?_; refine XS.iconst X0.here hx rfl (D d28_2) ?_; refine XS.aloadN X0.here hx rfl (D d28_3) rfl rfl ?_; exact kont)
  obtain ⟨c2, Ar2, q2, S2, M2, -, -⟩ := id Ac
  have go3 : Go p e below E0 s₁ m 6 #[(sr x), (sr ca)] [.null, (.int 3), (.int 0), (.ref ca), (.ref x)] := fun tgt kont => go1 tgt (by
    refine X0.arraylength hx (by rw [e0]; exact Ar2.1) (State.isArrayOf_alike hZ.alike Ar2.2.1) (g := (mkF m 4 #[(sr x), (sr ca)] [(.ref ca), (.int 0), (.ref ca), (.ref x)])) rfl rfl (D d28_4) _ ?_; rw [len_of S2 M2]; refine XS.aconstNull X0.here hx rfl (D d28_5) ?_; exact kont)
  obtain ⟨_, _, ⟨T4, L4, k4, n4⟩, -, X4, ⟨Lc4, hQ4, l4, y4, z4⟩, st4⟩ := X0.specialBack hx (y := (⟨"java/lang/String", "<init>", "([CIILjava/lang/Void;)V"⟩ : MethodName)) rfl hown (mvT hZ (wd hw 8 rfl)) (mvT hZ (wd hw 9 rfl)) (mvT hZ (wd hw 11 rfl)) (by decide) (backOf (W := 0) (rmV3 l Z a0 hw [] x ca kc ch0 ch1 ch2 G fv h0 n0 Z0 Ex gx Fv Fc Ac kch0 kch1 kch2 W0 O0) hZ (wd hw 11 rfl) (wd hw 4 rfl) (by decide) (by decide)) (g := (mkF m 6 #[(sr x), (sr ca)] [.null, (.int 3), (.int 0), (.ref ca), (.ref x)])) rfl (by rw [hml]; rfl) (Steps.refl _) (a := x) (argsL := [(.ref ca), (.int (0 : Int32)), (.int (3 : Int32)), .null]) (rest := []) (lenOf pd_22 rfl) rfl (by show 2 * 0 + _ ≤ _; exact Nat.le_of_eq rfl) (D d28_6) (fun _ _ => ⟨rfl, e0, (by decide : 0 + 2 ≤ _), (by decide : 0 + 9 ≤ _)⟩)
  dsimp only [Pt.U, Pt.locs, Pt.cells, Pt.slots] at X4 l4 y4 z4 st4 hQ4
  subst l4 y4 z4
  obtain ⟨rfl, N4q, K1, S1⟩ := hQ4
  have N4 := Fr.app N0 N4q
  have z5 : n0 ≤ T4.heap.size := Nat.le_trans Z0 K1.1
  have K6 : Keep h0 T4.heap [x] := (Keep.refl h0 [x]).trans K1 (allS (Or.inl (List.mem_of_getElem? (i := 0) rfl)) all0)
  have go4 : Go p e below E0 T4 m 9 #[(sr x), (sr ca)] [] := fun tgt kont => go3 tgt (st4.trans kont)
  obtain ⟨fs, hr, hrun, hended, hW, hsame⟩ := X4.leave (v := none) (fun _ => rfl)
  refine ⟨_, _, go4 _ ?_, hrun, hended, _, _, rfl, ?_, ⟨_, rfl⟩, hW, hsame.mono (by decide) (by decide)⟩
  · show Steps p.tables e below (T4.setTop (mkF m 9 #[(sr x), (sr ca)] [])) _
    exact X4.returnOut hx Bd.returns (D d28_9) hr
  · show QN3 Z x ca kc ch0 ch1 ch2 G fv h0 n0 _ T4.heap _
    exact ⟨rfl, N4, K6, S1⟩
theorem pn_23 : plainName "com/example/ample_dispatch/ampledispatch/FieldValues" = true := by first | (simp [plainName, overriddenIn]; done) | decide +kernel
theorem d29_0 : decode prog_11_method_4_code 0 = .ok (.iconst 0, 1) := by decide +kernel
theorem d29_1 : decode prog_11_method_4_code 1 = .ok (.istore_n 1, 1) := by decide +kernel
theorem d29_2 : decode prog_11_method_4_code 2 = .ok (.iload_n 1, 1) := by decide +kernel
theorem d29_3 : decode prog_11_method_4_code 3 = .ok (.aload_n 0, 1) := by decide +kernel
theorem d29_4 : decode prog_11_method_4_code 4 = .ok (.invokevirtual 10, 3) := by decide +kernel
theorem d29_7 : decode prog_11_method_4_code 7 = .ok (.if_icmp .ge 72, 3) := by decide +kernel
theorem d29_79 : decode prog_11_method_4_code 79 = .ok (.aload_n 0, 1) := by decide +kernel
theorem d29_80 : decode prog_11_method_4_code 80 = .ok (.invokevirtual 36, 3) := by decide +kernel
theorem d29_83 : decode prog_11_method_4_code 83 = .ok (.ifCond .ne 7, 3) := by decide +kernel
theorem d29_90 : decode prog_11_method_4_code 90 = .ok (.iconst 0, 1) := by decide +kernel
theorem d29_91 : decode prog_11_method_4_code 91 = .ok (.ireturn, 1) := by decide +kernel
theorem ef_T0 (m : MethodId) (x0 : Addr) : entryFrame m #[(.ref x0)] 4 = mkF m 0 #[.val (.ref x0), .unset, .unset, .unset] [] := by first | (simp [entryFrame, mkF, argsToLocals, Value.category, maxLocals]; done) | rfl
def QT0 (Z : State) (x : Addr) (G : Int32) (fv : Value) (h0 : Heap) (n0 : Nat) (v : Option Value) (h : Heap) (L : List Loc) : Prop := v = some (.int (0 : Int32)) ∧ L = [] ∧ h = h0
abbrev RmT0 : Room := ({ frames := 2, cells := 0, slots := 0, locals := 26 } : Room)
set_option maxRecDepth 65536 in
set_option maxHeartbeats 40000000 in
theorem rmT0 (l : Launch) (Z : State) (a0 : Array Value) (hw : ∀ d ∈ tables_1, d.before a0 Z = true) (ws : List Jvm.Cond) (x : Addr) (G : Int32) (fv : Value) (h0 : Heap) (n0 : Nat) (Z0 : n0 ≤ h0.size) (S0 : own_S0 Z h0 x) (W0 : own_W Z G fv) (O0 : Old Z n0 h0) :
    MetFree l (⟨"com/example/ample_dispatch/ampledispatch/FieldValues", "isToken", "(Ljava/lang/String;)Z"⟩ : MethodName) (head1 (Jvm.Cond.code (⟨"com/example/ample_dispatch/ampledispatch/FieldValues", "isToken", "(Ljava/lang/String;)Z"⟩ : MethodName) prog_11_method_4_code 4 (some .boolean) :: ws) RmT0) (fun as_ U => as_ = #[(.ref x)] ∧ Z.Warmed39 U.vm ∧ U.heap = h0) (fun _ _ _ _ _ => True) (fun _ U o U' => ∃ v L, o = .returned v ∧ QT0 Z x G fv h0 n0 v U'.heap L ∧ FrameEnd U o U' L RmT0.cells RmT0.slots) := by
  refine MetFree.of_bodySF (plainFor_of_name pn_23) hisR ?_
  intro p e s m args below meth c s₁ Bd hml0 hP hK
  obtain ⟨rfl, hZ, hh⟩ := hP
  have hx := Bd.exec
  have hby := Bd.bytes
  have D : ∀ {pc : Nat} {r : Except DecodeError (Instr × Nat)}, decode prog_11_method_4_code pc = r → decode c.code pc = r := fun q => hb hby q
  have hml : c.maxLocals = 4 := hml0
  have hown : s.vm.findClass "com/example/ample_dispatch/ampledispatch/FieldValues" = some m.cls := findClass_of_methodNamed Bd.named
  have hnm := (name_of_methodNamed Bd.named Bd.method).1
  have X0 : Stand p l e RmT0 s m #[(.ref x)] below meth c s₁ [] 0 0 := Stand.of_body Bd
  have e0 : s₁.heap = h0 := by rw [← hh, Bd.state]; rfl
  have N0 := Fr.nil n0
  obtain ⟨E0, hE0⟩ : ∃ z, z = s₁.setTop (entryFrame m #[(.ref x)] 4) := ⟨_, rfl⟩
  rw [← hE0]
  have go0 : ∀ tgt, Steps p.tables e below (s₁.setTop (mkF m 0 #[(sr x), .unset, .unset, .unset] [])) tgt → Steps p.tables e below E0 tgt := fun tgt kont => by rw [hE0]; exact castTop (ef_T0 m x) kont
  have Ex := S0.choose_spec.choose_spec.1
  have go1 : Go p e below E0 s₁ m 4 #[(sr x), (si 0), .unset, .unset] [(.ref x), (.int 0)] := fun tgt kont => go0 tgt (by
    refine XS.iconst X0.here hx rfl (D d29_0) ?_; refine XS.istoreN X0.here hx rfl (D d29_1) rfl (l' := #[(sr x), (si 0), .unset, .unset]) rfl ?_; refine XS.iloadN X0.here hx rfl (D d29_2) rfl ?_; refine XS.aloadN X0.here hx rfl (D d29_3) rfl rfl ?_; exact kont)
  obtain ⟨cq2, kq2, q2a, q2b, q2c⟩ := isOf hZ e0 Ex
  obtain ⟨_, _, ⟨T2, L2, k2, n2⟩, -, X2, ⟨Lc2, hQ2, l2, y2, z2⟩, st2⟩ := X0.virtualBack hx (y := (⟨"java/lang/String", "length", "()I"⟩ : MethodName)) (z := (⟨"java/lang/String", "length", "()I"⟩ : MethodName)) hown (mvT hZ (wd hw 27 rfl)) (mvT hZ (wd hw 28 rfl)) (notFace_of_selects (args := #[]) (mvT hZ (wd hw 30 rfl))) (mvT hZ (wd hw 30 rfl)) (mvT hZ (wd hw 29 rfl)) (by decide) (backOf (W := 1) (rmE0 l Z a0 hw [] x G fv h0 n0 Z0 S0 W0 O0) hZ (wd hw 31 rfl) (wd hw 4 rfl) (by decide) (by decide)) q2a q2c (g := (mkF m 4 #[(sr x), (si 0), .unset, .unset] [(.ref x), (.int 0)])) rfl (by rw [hml]; rfl) (Steps.refl _) (argsL := []) (rest := [(.int (0 : Int32))]) (lenOf pd_15 rfl) rfl (by show 2 * 0 + _ ≤ _; exact Nat.le_of_eq rfl) (D d29_4) (fun _ _ => ⟨rfl, e0, (by decide : 0 + 0 ≤ _), (by decide : 0 + 0 ≤ _)⟩)
  dsimp only [Pt.U, Pt.locs, Pt.cells, Pt.slots] at X2 l2 y2 z2 st2 hQ2
  subst l2 y2 z2
  obtain ⟨rfl, rfl, e2⟩ := hQ2
  have N2 := Fr.app N0 (Fr.nil n0)
  have go2 : Go p e below E0 T2 m 7 #[(sr x), (si 0), .unset, .unset] [(.int 0), (.int 0)] := fun tgt kont => go1 tgt (st2.trans kont)
  have go3 : Go p e below E0 T2 m 80 #[(sr x), (si 0), .unset, .unset] [(.ref x)] := fun tgt kont => go2 tgt (by
    refine XS.icmpYes X2.here hx rfl (pc0 := 7) (pc' := 79) rfl (D d29_7) rfl (flt (by decide)).2.1 (by decide) (by decide) ?_; refine XS.aloadN X2.here hx rfl (D d29_79) rfl rfl ?_; exact kont)
  obtain ⟨cq4, kq4, q4a, q4b, q4c⟩ := isOf hZ e2 Ex
  obtain ⟨_, _, ⟨T4, L4, k4, n4⟩, -, X4, ⟨Lc4, hQ4, l4, y4, z4⟩, st4⟩ := X2.virtualBack hx (y := (⟨"java/lang/String", "isEmpty", "()Z"⟩ : MethodName)) (z := (⟨"java/lang/String", "isEmpty", "()Z"⟩ : MethodName)) hown (mvT hZ (wd hw 38 rfl)) (mvT hZ (wd hw 39 rfl)) (notFace_of_selects (args := #[]) (mvT hZ (wd hw 41 rfl))) (mvT hZ (wd hw 41 rfl)) (mvT hZ (wd hw 40 rfl)) (by decide) (backOf (W := 0) (rmM0 l Z a0 hw [] x G fv h0 n0 Z0 S0 W0 O0) hZ (wd hw 42 rfl) (wd hw 4 rfl) (by decide) (by decide)) q4a q4c (g := (mkF m 80 #[(sr x), (si 0), .unset, .unset] [(.ref x)])) rfl (by rw [hml]; rfl) (Steps.refl _) (argsL := []) (rest := []) (lenOf pd_10 rfl) rfl (by show 2 * 0 + _ ≤ _; exact Nat.le_of_eq rfl) (D d29_80) (fun _ _ => ⟨rfl, e2, (by decide : 0 + 0 ≤ _), (by decide : 0 + 0 ≤ _)⟩)
  dsimp only [Pt.U, Pt.locs, Pt.cells, Pt.slots] at X4 l4 y4 z4 st4 hQ4
  subst l4 y4 z4
  obtain ⟨rfl, rfl, e4⟩ := hQ4
  have N4 := Fr.app N2 (Fr.nil n0)
  have go4 : Go p e below E0 T4 m 83 #[(sr x), (si 0), .unset, .unset] [(.int 1)] := fun tgt kont => go3 tgt (st4.trans kont)
  have go5 : Go p e below E0 T4 m 91 #[(sr x), (si 0), .unset, .unset] [(.int 0)] := fun tgt kont => go4 tgt (by
    refine XS.ifYes X4.here hx rfl (pc0 := 83) (pc' := 90) rfl (D d29_83) rfl ((if0 _ _).trans (feq (by decide)).2) (by decide) (by decide) ?_; refine XS.iconst X4.here hx rfl (D d29_90) ?_; exact kont)
  obtain ⟨fs, hr, hrun, hended, hW, hsame⟩ := X4.leave (v := some (.int (0 : Int32))) (fun h => by rw [Bd.returns] at h; cases h)
  refine ⟨_, _, go5 _ ?_, hrun, hended, _, _, rfl, ?_, ⟨_, rfl⟩, hW, hsame.mono (by decide) (by decide)⟩
  · show Steps p.tables e below (T4.setTop (mkF m 91 #[(sr x), (si 0), .unset, .unset] [(.int 0)])) _
    exact retN X4 hx (t := .boolean) Bd.returns (by simp) (D d29_91) hr
  · show QT0 Z x G fv h0 n0 _ T4.heap _
    rw [e4]
    exact ⟨rfl, rfl, rfl⟩
def own_I (Z : State) (vm : Vm) : Prop := IB Z vm []
theorem own_Iwarm {Z s : State} {vm' : Vm} (J : own_I Z s.vm) (hW : s.WarmedH vm') : own_I Z vm' := by
  obtain ⟨more, e, q⟩ := J
  exact ⟨more, hW.interned_eq.trans e, q⟩
theorem pd_24 : parseMethodDescriptor "(I)C" = some ⟨[.int], some .char⟩ := by decide +kernel
theorem d29_10 : decode prog_11_method_4_code 10 = .ok (.aload_n 0, 1) := by decide +kernel
theorem d29_11 : decode prog_11_method_4_code 11 = .ok (.iload_n 1, 1) := by decide +kernel
theorem d29_12 : decode prog_11_method_4_code 12 = .ok (.invokevirtual 16, 3) := by decide +kernel
theorem d29_15 : decode prog_11_method_4_code 15 = .ok (.istore_n 2, 1) := by decide +kernel
theorem d29_16 : decode prog_11_method_4_code 16 = .ok (.iload_n 2, 1) := by decide +kernel
theorem d29_17 : decode prog_11_method_4_code 17 = .ok (.bipush 97, 2) := by decide +kernel
theorem d29_19 : decode prog_11_method_4_code 19 = .ok (.if_icmp .lt 9, 3) := by decide +kernel
theorem d29_22 : decode prog_11_method_4_code 22 = .ok (.iload_n 2, 1) := by decide +kernel
theorem d29_23 : decode prog_11_method_4_code 23 = .ok (.bipush 122, 2) := by decide +kernel
theorem d29_25 : decode prog_11_method_4_code 25 = .ok (.if_icmp .le 27, 3) := by decide +kernel
theorem d29_28 : decode prog_11_method_4_code 28 = .ok (.iload_n 2, 1) := by decide +kernel
theorem d29_29 : decode prog_11_method_4_code 29 = .ok (.bipush 65, 2) := by decide +kernel
theorem d29_31 : decode prog_11_method_4_code 31 = .ok (.if_icmp .lt 9, 3) := by decide +kernel
theorem d29_34 : decode prog_11_method_4_code 34 = .ok (.iload_n 2, 1) := by decide +kernel
theorem d29_35 : decode prog_11_method_4_code 35 = .ok (.bipush 90, 2) := by decide +kernel
theorem d29_37 : decode prog_11_method_4_code 37 = .ok (.if_icmp .le 15, 3) := by decide +kernel
theorem d29_40 : decode prog_11_method_4_code 40 = .ok (.iload_n 2, 1) := by decide +kernel
theorem d29_41 : decode prog_11_method_4_code 41 = .ok (.bipush 48, 2) := by decide +kernel
theorem d29_43 : decode prog_11_method_4_code 43 = .ok (.if_icmp .lt 13, 3) := by decide +kernel
theorem d29_46 : decode prog_11_method_4_code 46 = .ok (.iload_n 2, 1) := by decide +kernel
theorem d29_47 : decode prog_11_method_4_code 47 = .ok (.bipush 57, 2) := by decide +kernel
theorem d29_49 : decode prog_11_method_4_code 49 = .ok (.if_icmp .gt 7, 3) := by decide +kernel
theorem d29_52 : decode prog_11_method_4_code 52 = .ok (.iconst 1, 1) := by decide +kernel
theorem d29_53 : decode prog_11_method_4_code 53 = .ok (.goto 4, 3) := by decide +kernel
theorem d29_56 : decode prog_11_method_4_code 56 = .ok (.iconst 0, 1) := by decide +kernel
theorem d29_57 : decode prog_11_method_4_code 57 = .ok (.istore_n 3, 1) := by decide +kernel
theorem d29_58 : decode prog_11_method_4_code 58 = .ok (.iload_n 3, 1) := by decide +kernel
theorem d29_59 : decode prog_11_method_4_code 59 = .ok (.ifCond .ne 14, 3) := by decide +kernel
theorem d29_62 : decode prog_11_method_4_code 62 = .ok (.ldc 30, 2) := by decide +kernel
theorem d29_64 : decode prog_11_method_4_code 64 = .ok (.iload_n 2, 1) := by decide +kernel
theorem d29_65 : decode prog_11_method_4_code 65 = .ok (.invokevirtual 32, 3) := by decide +kernel
theorem d29_68 : decode prog_11_method_4_code 68 = .ok (.ifCond .ge 5, 3) := by decide +kernel
theorem d29_71 : decode prog_11_method_4_code 71 = .ok (.iconst 0, 1) := by decide +kernel
theorem d29_72 : decode prog_11_method_4_code 72 = .ok (.ireturn, 1) := by decide +kernel
theorem d29_73 : decode prog_11_method_4_code 73 = .ok (.iinc 1 1, 3) := by decide +kernel
theorem d29_76 : decode prog_11_method_4_code 76 = .ok (.goto (-74), 3) := by decide +kernel
theorem d29_86 : decode prog_11_method_4_code 86 = .ok (.iconst 1, 1) := by decide +kernel
theorem d29_87 : decode prog_11_method_4_code 87 = .ok (.goto 4, 3) := by decide +kernel
theorem ef_T1 (m : MethodId) (x0 : Addr) : entryFrame m #[(.ref x0)] 4 = mkF m 0 #[.val (.ref x0), .unset, .unset, .unset] [] := by first | (simp [entryFrame, mkF, argsToLocals, Value.category, maxLocals]; done) | rfl
def QT1 (Z : State) (x : Addr) (ch0 : Int32) (G : Int32) (fv : Value) (h0 : Heap) (n0 : Nat) (v : Option Value) (h : Heap) (L : List Loc) (vm : Vm) : Prop := ∃ r : Int32, v = some (.int r) ∧ Fr n0 L ∧ Keep h0 h [] ∧ ((r = 1 ∧ (own_tc ch0)) ∨ (r = 0 ∧ ¬ (own_tc ch0)))
abbrev RmT1 : Room := ({ frames := 5, cells := 2, slots := 64, locals := 66 } : Room)
set_option maxRecDepth 65536 in
set_option maxHeartbeats 40000000 in
theorem rmT1 (l : Launch) (Z : State) (a0 : Array Value) (hw : ∀ d ∈ tables_1, d.before a0 Z = true) (ws : List Jvm.Cond) (x : Addr) (ch0 : Int32) (G : Int32) (fv : Value) (h0 : Heap) (n0 : Nat) (Z0 : n0 ≤ h0.size) (S0 : own_S1 Z h0 x ch0) (kch0 : own_ch ch0) (hH3 : Jvm.Lit.constHeld Z "com/example/ample_dispatch/ampledispatch/FieldValues" 30) (hCW : Jvm.Lit.compactW.before a0 Z = true) (W0 : own_W Z G fv) (O0 : Old Z n0 h0) :
    MetFree l (⟨"com/example/ample_dispatch/ampledispatch/FieldValues", "isToken", "(Ljava/lang/String;)Z"⟩ : MethodName) (head1 (Jvm.Cond.code (⟨"com/example/ample_dispatch/ampledispatch/FieldValues", "isToken", "(Ljava/lang/String;)Z"⟩ : MethodName) prog_11_method_4_code 4 (some .boolean) :: ws) RmT1) (fun as_ U => as_ = #[(.ref x)] ∧ Z.Warmed39 U.vm ∧ U.heap = h0 ∧ (own_I Z) U.vm) (fun _ _ _ _ _ => True) (fun _ U o U' => ∃ v L, o = .returned v ∧ QT1 Z x ch0 G fv h0 n0 v U'.heap L U'.vm ∧ ReturnedEndW U o U' L RmT1.cells RmT1.slots) := by
  refine MetFree.of_bodySF (plainFor_of_name pn_23) hisR ?_
  intro p e s m args below meth c s₁ Bd hml0 hP hK
  obtain ⟨rfl, hZ, hh, hJ0⟩ := hP
  have hx := Bd.exec
  have hby := Bd.bytes
  have D : ∀ {pc : Nat} {r : Except DecodeError (Instr × Nat)}, decode prog_11_method_4_code pc = r → decode c.code pc = r := fun q => hb hby q
  have hml : c.maxLocals = 4 := hml0
  have hown : s.vm.findClass "com/example/ample_dispatch/ampledispatch/FieldValues" = some m.cls := findClass_of_methodNamed Bd.named
  have hnm := (name_of_methodNamed Bd.named Bd.method).1
  have X0 : Stand p l e RmT1 (s.setVm s.vm) m #[(.ref x)] below meth c s₁ [] 0 0 := Stand.of_body Bd
  have e0 : s₁.heap = h0 := by rw [← hh, Bd.state]; rfl
  have N0 := Fr.nil n0
  obtain ⟨E0, hE0⟩ : ∃ z, z = s₁.setTop (entryFrame m #[(.ref x)] 4) := ⟨_, rfl⟩
  rw [← hE0]
  have go0 : ∀ tgt, Steps p.tables e below (s₁.setTop (mkF m 0 #[(sr x), .unset, .unset, .unset] [])) tgt → Steps p.tables e below E0 tgt := fun tgt kont => by rw [hE0]; exact castTop (ef_T1 m x) kont
  have hS0 : s.Since s.vm h0.size := (State.WarmedH.refl s).since _
  have hk0 : h0.size ≤ h0.size := Nat.le_refl _
  have hwS : ∀ a ∈ Bundle.stringAtoms, a.before a0 Z = true := fun d hd => hw d ((by decide +kernel : ∀ d ∈ Bundle.stringAtoms, d ∈ tables_1) d hd)
  have Ex := S0.choose_spec.choose_spec.1
  have go1 : Go p e below E0 s₁ m 4 #[(sr x), (si 0), .unset, .unset] [(.ref x), (.int 0)] := fun tgt kont => go0 tgt (by
    refine XS.iconst X0.here hx rfl (D d29_0) ?_; refine XS.istoreN X0.here hx rfl (D d29_1) rfl (l' := #[(sr x), (si 0), .unset, .unset]) rfl ?_; refine XS.iloadN X0.here hx rfl (D d29_2) rfl ?_; refine XS.aloadN X0.here hx rfl (D d29_3) rfl rfl ?_; exact kont)
  obtain ⟨cq2, kq2, q2a, q2b, q2c⟩ := isOf hZ e0 Ex
  obtain ⟨_, _, ⟨T2, L2, k2, n2⟩, -, X2, ⟨Lc2, hQ2, l2, y2, z2⟩, st2⟩ := X0.virtualBack hx (y := (⟨"java/lang/String", "length", "()I"⟩ : MethodName)) (z := (⟨"java/lang/String", "length", "()I"⟩ : MethodName)) hown (mvT hZ (wd hw 27 rfl)) (mvT hZ (wd hw 28 rfl)) (notFace_of_selects (args := #[]) (mvT hZ (wd hw 30 rfl))) (mvT hZ (wd hw 30 rfl)) (mvT hZ (wd hw 29 rfl)) (by decide) (backOf (W := 1) (rmE1 l Z a0 hw [] x ch0 G fv h0 n0 Z0 S0 kch0 W0 O0) hZ (wd hw 31 rfl) (wd hw 4 rfl) (by decide) (by decide)) q2a q2c (g := (mkF m 4 #[(sr x), (si 0), .unset, .unset] [(.ref x), (.int 0)])) rfl (by rw [hml]; rfl) (Steps.refl _) (argsL := []) (rest := [(.int (0 : Int32))]) (lenOf pd_15 rfl) rfl (by show 2 * 0 + _ ≤ _; exact Nat.le_of_eq rfl) (D d29_4) (fun _ _ => ⟨rfl, e0, (by decide : 0 + 0 ≤ _), (by decide : 0 + 0 ≤ _)⟩)
  dsimp only [Pt.U, Pt.locs, Pt.cells, Pt.slots] at X2 l2 y2 z2 st2 hQ2
  subst l2 y2 z2
  obtain ⟨rfl, rfl, e2⟩ := hQ2
  have N2 := Fr.app N0 (Fr.nil n0)
  have go2 : Go p e below E0 T2 m 7 #[(sr x), (si 0), .unset, .unset] [(.int 1), (.int 0)] := fun tgt kont => go1 tgt (st2.trans kont)
  have go3 : Go p e below E0 T2 m 12 #[(sr x), (si 0), .unset, .unset] [(.int 0), (.ref x)] := fun tgt kont => go2 tgt (by
    refine XS.icmpNo X2.here hx rfl (D d29_7) rfl (tlt (by decide)).2.1 ?_; refine XS.aloadN X2.here hx rfl (D d29_10) rfl rfl ?_; refine XS.iloadN X2.here hx rfl (D d29_11) rfl ?_; exact kont)
  obtain ⟨cq4, kq4, q4a, q4b, q4c⟩ := isOf hZ e2 Ex
  obtain ⟨_, _, ⟨T4, L4, k4, n4⟩, -, X4, ⟨Lc4, hQ4, l4, y4, z4⟩, st4⟩ := X2.virtualBack hx (y := (⟨"java/lang/String", "charAt", "(I)C"⟩ : MethodName)) (z := (⟨"java/lang/String", "charAt", "(I)C"⟩ : MethodName)) hown (mvT hZ (wd hw 57 rfl)) (mvT hZ (wd hw 58 rfl)) (notFace_of_selects (args := #[]) (mvT hZ (wd hw 60 rfl))) (mvT hZ (wd hw 60 rfl)) (mvT hZ (wd hw 59 rfl)) (by decide) (backOf (W := 0) (rmC10 l Z a0 hw [] x ch0 G fv h0 n0 Z0 S0 kch0 W0 O0) hZ (wd hw 61 rfl) (wd hw 4 rfl) (by decide) (by decide)) q4a q4c (g := (mkF m 12 #[(sr x), (si 0), .unset, .unset] [(.int 0), (.ref x)])) rfl (by rw [hml]; rfl) (Steps.refl _) (argsL := [(.int (0 : Int32))]) (rest := []) (lenOf pd_24 rfl) rfl (by show 2 * 0 + _ ≤ _; exact Nat.le_of_eq rfl) (D d29_12) (fun _ _ => ⟨rfl, e2, (by decide : 0 + 0 ≤ _), (by decide : 0 + 0 ≤ _)⟩)
  dsimp only [Pt.U, Pt.locs, Pt.cells, Pt.slots] at X4 l4 y4 z4 st4 hQ4
  subst l4 y4 z4
  obtain ⟨rfl, rfl, e4⟩ := hQ4
  have N4 := Fr.app N2 (Fr.nil n0)
  have go4 : Go p e below E0 T4 m 15 #[(sr x), (si 0), .unset, .unset] [(.int ch0)] := fun tgt kont => go3 tgt (st4.trans kont)
  have go5 : Go p e below E0 T4 m 16 #[(sr x), (si 0), (si ch0), .unset] [] := fun tgt kont => go4 tgt (by
    refine XS.istoreN X4.here hx rfl (D d29_15) rfl (l' := #[(sr x), (si 0), (si ch0), .unset]) rfl ?_; exact kont)
  obtain ⟨b0, hb0, go6⟩ : ∃ b0 : Int32, ((b0 = 1 ∧ own_an ch0) ∨ (b0 = 0 ∧ ¬ own_an ch0)) ∧ Go p e below E0 T4 m 58 #[(sr x), (si 0), (si ch0), (si b0)] [] := by
    by_cases y0 : ch0 < (97 : Int32)
    · by_cases y1 : ch0 < (65 : Int32)
      · by_cases y2 : ch0 < (48 : Int32)
        · exact ⟨(0 : Int32), Or.inr ⟨rfl, (by simp only [own_tc, own_an, own_sp, Int32.lt_iff_toInt_lt, ← Int32.toInt_inj, Int32.reduceToInt] at y0 y1 y2 ⊢; omega)⟩, fun tgt kont => go5 tgt (by refine XS.iloadN X4.here hx rfl (D d29_16) rfl ?_; refine XS.bipush X4.here hx rfl (D d29_17) ?_; refine XS.icmpYes X4.here hx rfl (pc0 := 19) (pc' := 28) rfl (D d29_19) rfl (tlt y0).1 (by decide) (by decide) ?_; refine XS.iloadN X4.here hx rfl (D d29_28) rfl ?_; refine XS.bipush X4.here hx rfl (D d29_29) ?_; refine XS.icmpYes X4.here hx rfl (pc0 := 31) (pc' := 40) rfl (D d29_31) rfl (tlt y1).1 (by decide) (by decide) ?_; refine XS.iloadN X4.here hx rfl (D d29_40) rfl ?_; refine XS.bipush X4.here hx rfl (D d29_41) ?_; refine XS.icmpYes X4.here hx rfl (pc0 := 43) (pc' := 56) rfl (D d29_43) rfl (tlt y2).1 (by decide) (by decide) ?_; refine XS.iconst X4.here hx rfl (D d29_56) ?_; refine XS.istoreN X4.here hx rfl (D d29_57) rfl (l' := #[(sr x), (si 0), (si ch0), (si 0)]) rfl ?_; exact kont)⟩
        · by_cases y3 : (57 : Int32) < ch0
          · exact ⟨(0 : Int32), Or.inr ⟨rfl, (by simp only [own_tc, own_an, own_sp, Int32.lt_iff_toInt_lt, ← Int32.toInt_inj, Int32.reduceToInt] at y0 y1 y2 y3 ⊢; omega)⟩, fun tgt kont => go5 tgt (by refine XS.iloadN X4.here hx rfl (D d29_16) rfl ?_; refine XS.bipush X4.here hx rfl (D d29_17) ?_; refine XS.icmpYes X4.here hx rfl (pc0 := 19) (pc' := 28) rfl (D d29_19) rfl (tlt y0).1 (by decide) (by decide) ?_; refine XS.iloadN X4.here hx rfl (D d29_28) rfl ?_; refine XS.bipush X4.here hx rfl (D d29_29) ?_; refine XS.icmpYes X4.here hx rfl (pc0 := 31) (pc' := 40) rfl (D d29_31) rfl (tlt y1).1 (by decide) (by decide) ?_; refine XS.iloadN X4.here hx rfl (D d29_40) rfl ?_; refine XS.bipush X4.here hx rfl (D d29_41) ?_; refine XS.icmpNo X4.here hx rfl (D d29_43) rfl (flt y2).1 ?_; refine XS.iloadN X4.here hx rfl (D d29_46) rfl ?_; refine XS.bipush X4.here hx rfl (D d29_47) ?_; refine XS.icmpYes X4.here hx rfl (pc0 := 49) (pc' := 56) rfl (D d29_49) rfl (tlt y3).2.2.1 (by decide) (by decide) ?_; refine XS.iconst X4.here hx rfl (D d29_56) ?_; refine XS.istoreN X4.here hx rfl (D d29_57) rfl (l' := #[(sr x), (si 0), (si ch0), (si 0)]) rfl ?_; exact kont)⟩
          · exact ⟨(1 : Int32), Or.inl ⟨rfl, (by simp only [own_tc, own_an, own_sp, Int32.lt_iff_toInt_lt, ← Int32.toInt_inj, Int32.reduceToInt] at y0 y1 y2 y3 ⊢; omega)⟩, fun tgt kont => go5 tgt (by refine XS.iloadN X4.here hx rfl (D d29_16) rfl ?_; refine XS.bipush X4.here hx rfl (D d29_17) ?_; refine XS.icmpYes X4.here hx rfl (pc0 := 19) (pc' := 28) rfl (D d29_19) rfl (tlt y0).1 (by decide) (by decide) ?_; refine XS.iloadN X4.here hx rfl (D d29_28) rfl ?_; refine XS.bipush X4.here hx rfl (D d29_29) ?_; refine XS.icmpYes X4.here hx rfl (pc0 := 31) (pc' := 40) rfl (D d29_31) rfl (tlt y1).1 (by decide) (by decide) ?_; refine XS.iloadN X4.here hx rfl (D d29_40) rfl ?_; refine XS.bipush X4.here hx rfl (D d29_41) ?_; refine XS.icmpNo X4.here hx rfl (D d29_43) rfl (flt y2).1 ?_; refine XS.iloadN X4.here hx rfl (D d29_46) rfl ?_; refine XS.bipush X4.here hx rfl (D d29_47) ?_; refine XS.icmpNo X4.here hx rfl (D d29_49) rfl (flt y3).2.2.1 ?_; refine XS.iconst X4.here hx rfl (D d29_52) ?_; refine XS.goto X4.here hx rfl (pc0 := 53) (pc' := 57) rfl (D d29_53) (by decide) (by decide) ?_; refine XS.istoreN X4.here hx rfl (D d29_57) rfl (l' := #[(sr x), (si 0), (si ch0), (si 1)]) rfl ?_; exact kont)⟩
      · by_cases y2 : (90 : Int32) < ch0
        · exact ⟨(0 : Int32), Or.inr ⟨rfl, (by simp only [own_tc, own_an, own_sp, Int32.lt_iff_toInt_lt, ← Int32.toInt_inj, Int32.reduceToInt] at y0 y1 y2 ⊢; omega)⟩, fun tgt kont => go5 tgt (by refine XS.iloadN X4.here hx rfl (D d29_16) rfl ?_; refine XS.bipush X4.here hx rfl (D d29_17) ?_; refine XS.icmpYes X4.here hx rfl (pc0 := 19) (pc' := 28) rfl (D d29_19) rfl (tlt y0).1 (by decide) (by decide) ?_; refine XS.iloadN X4.here hx rfl (D d29_28) rfl ?_; refine XS.bipush X4.here hx rfl (D d29_29) ?_; refine XS.icmpNo X4.here hx rfl (D d29_31) rfl (flt y1).1 ?_; refine XS.iloadN X4.here hx rfl (D d29_34) rfl ?_; refine XS.bipush X4.here hx rfl (D d29_35) ?_; refine XS.icmpNo X4.here hx rfl (D d29_37) rfl (tlt y2).2.2.2 ?_; refine XS.iloadN X4.here hx rfl (D d29_40) rfl ?_; refine XS.bipush X4.here hx rfl (D d29_41) ?_; refine XS.icmpNo X4.here hx rfl (D d29_43) rfl (flt (by simp only [Int32.lt_iff_toInt_lt, ← Int32.toInt_inj, Int32.reduceToInt] at y0 y1 y2 ⊢; omega : ¬ ch0 < (48 : Int32))).1 ?_; refine XS.iloadN X4.here hx rfl (D d29_46) rfl ?_; refine XS.bipush X4.here hx rfl (D d29_47) ?_; refine XS.icmpYes X4.here hx rfl (pc0 := 49) (pc' := 56) rfl (D d29_49) rfl (tlt (by simp only [Int32.lt_iff_toInt_lt, ← Int32.toInt_inj, Int32.reduceToInt] at y0 y1 y2 ⊢; omega : (57 : Int32) < ch0)).2.2.1 (by decide) (by decide) ?_; refine XS.iconst X4.here hx rfl (D d29_56) ?_; refine XS.istoreN X4.here hx rfl (D d29_57) rfl (l' := #[(sr x), (si 0), (si ch0), (si 0)]) rfl ?_; exact kont)⟩
        · exact ⟨(1 : Int32), Or.inl ⟨rfl, (by simp only [own_tc, own_an, own_sp, Int32.lt_iff_toInt_lt, ← Int32.toInt_inj, Int32.reduceToInt] at y0 y1 y2 ⊢; omega)⟩, fun tgt kont => go5 tgt (by refine XS.iloadN X4.here hx rfl (D d29_16) rfl ?_; refine XS.bipush X4.here hx rfl (D d29_17) ?_; refine XS.icmpYes X4.here hx rfl (pc0 := 19) (pc' := 28) rfl (D d29_19) rfl (tlt y0).1 (by decide) (by decide) ?_; refine XS.iloadN X4.here hx rfl (D d29_28) rfl ?_; refine XS.bipush X4.here hx rfl (D d29_29) ?_; refine XS.icmpNo X4.here hx rfl (D d29_31) rfl (flt y1).1 ?_; refine XS.iloadN X4.here hx rfl (D d29_34) rfl ?_; refine XS.bipush X4.here hx rfl (D d29_35) ?_; refine XS.icmpYes X4.here hx rfl (pc0 := 37) (pc' := 52) rfl (D d29_37) rfl (flt y2).2.2.2 (by decide) (by decide) ?_; refine XS.iconst X4.here hx rfl (D d29_52) ?_; refine XS.goto X4.here hx rfl (pc0 := 53) (pc' := 57) rfl (D d29_53) (by decide) (by decide) ?_; refine XS.istoreN X4.here hx rfl (D d29_57) rfl (l' := #[(sr x), (si 0), (si ch0), (si 1)]) rfl ?_; exact kont)⟩
    · by_cases y1 : (122 : Int32) < ch0
      · exact ⟨(0 : Int32), Or.inr ⟨rfl, (by simp only [own_tc, own_an, own_sp, Int32.lt_iff_toInt_lt, ← Int32.toInt_inj, Int32.reduceToInt] at y0 y1 ⊢; omega)⟩, fun tgt kont => go5 tgt (by refine XS.iloadN X4.here hx rfl (D d29_16) rfl ?_; refine XS.bipush X4.here hx rfl (D d29_17) ?_; refine XS.icmpNo X4.here hx rfl (D d29_19) rfl (flt y0).1 ?_; refine XS.iloadN X4.here hx rfl (D d29_22) rfl ?_; refine XS.bipush X4.here hx rfl (D d29_23) ?_; refine XS.icmpNo X4.here hx rfl (D d29_25) rfl (tlt y1).2.2.2 ?_; refine XS.iloadN X4.here hx rfl (D d29_28) rfl ?_; refine XS.bipush X4.here hx rfl (D d29_29) ?_; refine XS.icmpNo X4.here hx rfl (D d29_31) rfl (flt (by simp only [Int32.lt_iff_toInt_lt, ← Int32.toInt_inj, Int32.reduceToInt] at y0 y1 ⊢; omega : ¬ ch0 < (65 : Int32))).1 ?_; refine XS.iloadN X4.here hx rfl (D d29_34) rfl ?_; refine XS.bipush X4.here hx rfl (D d29_35) ?_; refine XS.icmpNo X4.here hx rfl (D d29_37) rfl (tlt (by simp only [Int32.lt_iff_toInt_lt, ← Int32.toInt_inj, Int32.reduceToInt] at y0 y1 ⊢; omega : (90 : Int32) < ch0)).2.2.2 ?_; refine XS.iloadN X4.here hx rfl (D d29_40) rfl ?_; refine XS.bipush X4.here hx rfl (D d29_41) ?_; refine XS.icmpNo X4.here hx rfl (D d29_43) rfl (flt (by simp only [Int32.lt_iff_toInt_lt, ← Int32.toInt_inj, Int32.reduceToInt] at y0 y1 ⊢; omega : ¬ ch0 < (48 : Int32))).1 ?_; refine XS.iloadN X4.here hx rfl (D d29_46) rfl ?_; refine XS.bipush X4.here hx rfl (D d29_47) ?_; refine XS.icmpYes X4.here hx rfl (pc0 := 49) (pc' := 56) rfl (D d29_49) rfl (tlt (by simp only [Int32.lt_iff_toInt_lt, ← Int32.toInt_inj, Int32.reduceToInt] at y0 y1 ⊢; omega : (57 : Int32) < ch0)).2.2.1 (by decide) (by decide) ?_; refine XS.iconst X4.here hx rfl (D d29_56) ?_; refine XS.istoreN X4.here hx rfl (D d29_57) rfl (l' := #[(sr x), (si 0), (si ch0), (si 0)]) rfl ?_; exact kont)⟩
      · exact ⟨(1 : Int32), Or.inl ⟨rfl, (by simp only [own_tc, own_an, own_sp, Int32.lt_iff_toInt_lt, ← Int32.toInt_inj, Int32.reduceToInt] at y0 y1 ⊢; omega)⟩, fun tgt kont => go5 tgt (by refine XS.iloadN X4.here hx rfl (D d29_16) rfl ?_; refine XS.bipush X4.here hx rfl (D d29_17) ?_; refine XS.icmpNo X4.here hx rfl (D d29_19) rfl (flt y0).1 ?_; refine XS.iloadN X4.here hx rfl (D d29_22) rfl ?_; refine XS.bipush X4.here hx rfl (D d29_23) ?_; refine XS.icmpYes X4.here hx rfl (pc0 := 25) (pc' := 52) rfl (D d29_25) rfl (flt y1).2.2.2 (by decide) (by decide) ?_; refine XS.iconst X4.here hx rfl (D d29_52) ?_; refine XS.goto X4.here hx rfl (pc0 := 53) (pc' := 57) rfl (D d29_53) (by decide) (by decide) ?_; refine XS.istoreN X4.here hx rfl (D d29_57) rfl (l' := #[(sr x), (si 0), (si ch0), (si 1)]) rfl ?_; exact kont)⟩
  rcases hb0 with ⟨rfl, ha0⟩ | ⟨rfl, ha0⟩
  · have go7 : Go p e below E0 T4 m 73 #[(sr x), (si 0), (si ch0), (si 1)] [] := fun tgt kont => go6 tgt (by
      refine XS.iloadN X4.here hx rfl (D d29_58) rfl ?_; refine XS.ifYes X4.here hx rfl (pc0 := 59) (pc' := 73) rfl (D d29_59) rfl ((if0 _ _).trans (feq (by decide)).2) (by decide) (by decide) ?_; exact kont)
    have tk0 : own_tc ch0 := Or.inl ha0
    have go8 : Go p e below E0 T4 m 4 #[(sr x), (si 1), (si ch0), (si 1)] [(.ref x), (.int 1)] := fun tgt kont => go7 tgt (by
      refine XS.iinc X4.here hx rfl (D d29_73) rfl (l' := #[(sr x), (si 1), (si ch0), (si 1)]) rfl ?_; refine XS.goto X4.here hx rfl (pc0 := 76) (pc' := 2) rfl (D d29_76) (by decide) (by decide) ?_; refine XS.iloadN X4.here hx rfl (D d29_2) rfl ?_; refine XS.aloadN X4.here hx rfl (D d29_3) rfl rfl ?_; exact kont)
    obtain ⟨cq9, kq9, q9a, q9b, q9c⟩ := isOf hZ e4 Ex
    obtain ⟨_, _, ⟨T9, L9, k9, n9⟩, -, X9, ⟨Lc9, hQ9, l9, y9, z9⟩, st9⟩ := X4.virtualBack hx (y := (⟨"java/lang/String", "length", "()I"⟩ : MethodName)) (z := (⟨"java/lang/String", "length", "()I"⟩ : MethodName)) hown (mvT hZ (wd hw 27 rfl)) (mvT hZ (wd hw 28 rfl)) (notFace_of_selects (args := #[]) (mvT hZ (wd hw 30 rfl))) (mvT hZ (wd hw 30 rfl)) (mvT hZ (wd hw 29 rfl)) (by decide) (backOf (W := 1) (rmE1 l Z a0 hw [] x ch0 G fv h0 n0 Z0 S0 kch0 W0 O0) hZ (wd hw 31 rfl) (wd hw 4 rfl) (by decide) (by decide)) q9a q9c (g := (mkF m 4 #[(sr x), (si 1), (si ch0), (si 1)] [(.ref x), (.int 1)])) rfl (by rw [hml]; rfl) (Steps.refl _) (argsL := []) (rest := [(.int (1 : Int32))]) (lenOf pd_15 rfl) rfl (by show 2 * 0 + _ ≤ _; exact Nat.le_of_eq rfl) (D d29_4) (fun _ _ => ⟨rfl, e4, (by decide : 0 + 0 ≤ _), (by decide : 0 + 0 ≤ _)⟩)
    dsimp only [Pt.U, Pt.locs, Pt.cells, Pt.slots] at X9 l9 y9 z9 st9 hQ9
    subst l9 y9 z9
    obtain ⟨rfl, rfl, e9⟩ := hQ9
    have N9 := Fr.app N4 (Fr.nil n0)
    have go9 : Go p e below E0 T9 m 7 #[(sr x), (si 1), (si ch0), (si 1)] [(.int 1), (.int 1)] := fun tgt kont => go8 tgt (st9.trans kont)
    have go10 : Go p e below E0 T9 m 80 #[(sr x), (si 1), (si ch0), (si 1)] [(.ref x)] := fun tgt kont => go9 tgt (by
      refine XS.icmpYes X9.here hx rfl (pc0 := 7) (pc' := 79) rfl (D d29_7) rfl (flt (by decide)).2.1 (by decide) (by decide) ?_; refine XS.aloadN X9.here hx rfl (D d29_79) rfl rfl ?_; exact kont)
    obtain ⟨cq11, kq11, q11a, q11b, q11c⟩ := isOf hZ e9 Ex
    obtain ⟨_, _, ⟨T11, L11, k11, n11⟩, -, X11, ⟨Lc11, hQ11, l11, y11, z11⟩, st11⟩ := X9.virtualBack hx (y := (⟨"java/lang/String", "isEmpty", "()Z"⟩ : MethodName)) (z := (⟨"java/lang/String", "isEmpty", "()Z"⟩ : MethodName)) hown (mvT hZ (wd hw 38 rfl)) (mvT hZ (wd hw 39 rfl)) (notFace_of_selects (args := #[]) (mvT hZ (wd hw 41 rfl))) (mvT hZ (wd hw 41 rfl)) (mvT hZ (wd hw 40 rfl)) (by decide) (backOf (W := 0) (rmM1 l Z a0 hw [] x ch0 G fv h0 n0 Z0 S0 kch0 W0 O0) hZ (wd hw 42 rfl) (wd hw 4 rfl) (by decide) (by decide)) q11a q11c (g := (mkF m 80 #[(sr x), (si 1), (si ch0), (si 1)] [(.ref x)])) rfl (by rw [hml]; rfl) (Steps.refl _) (argsL := []) (rest := []) (lenOf pd_10 rfl) rfl (by show 2 * 0 + _ ≤ _; exact Nat.le_of_eq rfl) (D d29_80) (fun _ _ => ⟨rfl, e9, (by decide : 0 + 0 ≤ _), (by decide : 0 + 0 ≤ _)⟩)
    dsimp only [Pt.U, Pt.locs, Pt.cells, Pt.slots] at X11 l11 y11 z11 st11 hQ11
    subst l11 y11 z11
    obtain ⟨rfl, rfl, e11⟩ := hQ11
    have N11 := Fr.app N9 (Fr.nil n0)
    have go11 : Go p e below E0 T11 m 83 #[(sr x), (si 1), (si ch0), (si 1)] [(.int 0)] := fun tgt kont => go10 tgt (st11.trans kont)
    have go12 : Go p e below E0 T11 m 91 #[(sr x), (si 1), (si ch0), (si 1)] [(.int 1)] := fun tgt kont => go11 tgt (by
      refine XS.ifNo X11.here hx rfl (D d29_83) rfl ((if0 _ _).trans (teq rfl).2) ?_; refine XS.iconst X11.here hx rfl (D d29_86) ?_; refine XS.goto X11.here hx rfl (pc0 := 87) (pc' := 91) rfl (D d29_87) (by decide) (by decide) ?_; exact kont)
    obtain ⟨fs, hr, hrun, hended, hW⟩ := X11.leaveW hS0 (by rw [e11]; exact hk0) (v := some (.int (1 : Int32))) (fun h => by rw [Bd.returns] at h; cases h)
    refine ⟨_, _, go12 _ ?_, hrun, hended, _, _, rfl, ?_, hW.1, hW.2.1, hW.2.2.1, hW.2.2.2.mono (by decide) (by decide)⟩
    · show Steps p.tables e below (T11.setTop (mkF m 91 #[(sr x), (si 1), (si ch0), (si 1)] [(.int 1)])) _
      exact retN X11 hx (t := .boolean) Bd.returns (by simp) (D d29_91) hr
    · show QT1 Z x ch0 G fv h0 n0 _ T11.heap _ T11.vm
      rw [e11]
      exact ⟨_, rfl, N11, (Keep.refl h0 []), Or.inl ⟨rfl, tk0⟩⟩
  · have go13 : Go p e below E0 T4 m 62 #[(sr x), (si 0), (si ch0), (si 0)] [] := fun tgt kont => go6 tgt (by
      refine XS.iloadN X4.here hx rfl (D d29_58) rfl ?_; refine XS.ifNo X4.here hx rfl (D d29_59) rfl ((if0 _ _).trans (teq rfl).2) ?_; exact kont)
    have hkeep14 : ∀ (b : Addr) (cl : Cell), Z.heap[b]? = some cl → s.heap[b]? = some cl := fun b cl q => by rw [hh]; exact O0.2.2 b cl q
    obtain ⟨la, T14, h14, k14, lb, lk, X14, e14, E14, hS14, hk14, hZ14, hown14, E_la, C_la, V_la, A_la, -, -, -, Lt_la, st14⟩ := ldcSVL X4 hx hZ hown (wd hw 79 rfl) hwS e4 hS0 hk0 (fun y hy => by simp at hy) hkeep14 hJ0 (by simp) hH3 hCW (vs := own_SL) (z := (15 : Int32)) ⟨by decide +kernel, by decide +kernel⟩ (by decide) (by decide) (g := (mkF m 62 #[(sr x), (si 0), (si ch0), (si 0)] [])) rfl (D d29_62) (n := 60) (by decide +kernel) (by decide) (by decide) (by decide)
    have z15 : n0 ≤ h14.size := Nat.le_trans Z0 E14.1
    have K16 : Keep h0 h14 [] := (Keep.refl h0 []).ext E14
    have go14 : Go p e below E0 T14 m 64 #[(sr x), (si 0), (si ch0), (si 0)] [(.ref la)] := fun tgt kont => go13 tgt (st14 tgt kont)
    have SE14 : own_S1 Z h14 x ch0 := own_S1ext S0 E14
    have f17 : Old Z n0 h14 := (O0.ext E14)
    have go18 : Go p e below E0 T14 m 65 #[(sr x), (si 0), (si ch0), (si 0)] [(.int ch0), (.ref la)] := fun tgt kont => go14 tgt (by
      refine XS.iloadN X14.here hx rfl (D d29_64) rfl ?_; exact kont)
    obtain ⟨cq19, kq19, q19a, q19b, q19c⟩ := isOf hZ14 e14 E_la
    obtain ⟨_, _, ⟨T19, L19, k19, n19⟩, -, X19, ⟨Lc19, hQ19, l19, y19, z19⟩, st19⟩ := X14.virtualBack hx (y := (⟨"java/lang/String", "indexOf", "(I)I"⟩ : MethodName)) (z := (⟨"java/lang/String", "indexOf", "(I)I"⟩ : MethodName)) hown14 (mvT hZ14 (wd hw 80 rfl)) (mvT hZ14 (wd hw 81 rfl)) (notFace_of_selects (args := #[]) (mvT hZ14 (wd hw 83 rfl))) (mvT hZ14 (wd hw 83 rfl)) (mvT hZ14 (wd hw 82 rfl)) (by decide) (backOf (W := 0) (rmI1 l Z a0 hw [] la lb lk ch0 G fv h14 n0 z15 E_la C_la V_la A_la kch0.1 W0 f17) hZ14 (wd hw 84 rfl) (wd hw 4 rfl) (by decide) (by decide)) q19a q19c (g := (mkF m 65 #[(sr x), (si 0), (si ch0), (si 0)] [(.int ch0), (.ref la)])) rfl (by rw [hml]; rfl) (Steps.refl _) (argsL := [(.int ch0)]) (rest := []) (lenOf pd_16 rfl) rfl (by show 2 * 0 + _ ≤ _; exact Nat.le_of_eq rfl) (D d29_65) (fun _ _ => ⟨rfl, e14, (by decide : 2 + 0 ≤ _), (by decide : 64 + 0 ≤ _)⟩)
    dsimp only [Pt.U, Pt.locs, Pt.cells, Pt.slots] at X19 l19 y19 z19 st19 hQ19
    subst l19 y19 z19
    obtain ⟨r0, rfl, rfl, e19, hr0⟩ := hQ19
    have N19 := Fr.app N4 (Fr.nil n0)
    have go19 : Go p e below E0 T19 m 68 #[(sr x), (si 0), (si ch0), (si 0)] [(.int r0)] := fun tgt kont => go18 tgt (st19.trans kont)
    rcases hr0 with ⟨hz0, hs0⟩ | ⟨hz0, hs0⟩
    · have go20 : Go p e below E0 T19 m 73 #[(sr x), (si 0), (si ch0), (si 0)] [] := fun tgt kont => go19 tgt (by
        refine XS.ifYes X19.here hx rfl (pc0 := 68) (pc' := 73) rfl (D d29_68) rfl ((if0 _ _).trans (flt hz0).2.1) (by decide) (by decide) ?_; exact kont)
      have tk0 : own_tc ch0 := Or.inr hs0
      have go21 : Go p e below E0 T19 m 4 #[(sr x), (si 1), (si ch0), (si 0)] [(.ref x), (.int 1)] := fun tgt kont => go20 tgt (by
        refine XS.iinc X19.here hx rfl (D d29_73) rfl (l' := #[(sr x), (si 1), (si ch0), (si 0)]) rfl ?_; refine XS.goto X19.here hx rfl (pc0 := 76) (pc' := 2) rfl (D d29_76) (by decide) (by decide) ?_; refine XS.iloadN X19.here hx rfl (D d29_2) rfl ?_; refine XS.aloadN X19.here hx rfl (D d29_3) rfl rfl ?_; exact kont)
      have f23 : Exa Z h14 x "java/lang/String" := (Ex.ext E14)
      obtain ⟨cq22, kq22, q22a, q22b, q22c⟩ := isOf hZ14 e19 f23
      obtain ⟨_, _, ⟨T22, L22, k22, n22⟩, -, X22, ⟨Lc22, hQ22, l22, y22, z22⟩, st22⟩ := X19.virtualBack hx (y := (⟨"java/lang/String", "length", "()I"⟩ : MethodName)) (z := (⟨"java/lang/String", "length", "()I"⟩ : MethodName)) hown14 (mvT hZ14 (wd hw 27 rfl)) (mvT hZ14 (wd hw 28 rfl)) (notFace_of_selects (args := #[]) (mvT hZ14 (wd hw 30 rfl))) (mvT hZ14 (wd hw 30 rfl)) (mvT hZ14 (wd hw 29 rfl)) (by decide) (backOf (W := 1) (rmE1 l Z a0 hw [] x ch0 G fv h14 n0 z15 SE14 kch0 W0 f17) hZ14 (wd hw 31 rfl) (wd hw 4 rfl) (by decide) (by decide)) q22a q22c (g := (mkF m 4 #[(sr x), (si 1), (si ch0), (si 0)] [(.ref x), (.int 1)])) rfl (by rw [hml]; rfl) (Steps.refl _) (argsL := []) (rest := [(.int (1 : Int32))]) (lenOf pd_15 rfl) rfl (by show 2 * 0 + _ ≤ _; exact Nat.le_of_eq rfl) (D d29_4) (fun _ _ => ⟨rfl, e19, (by decide : 2 + 0 ≤ _), (by decide : 64 + 0 ≤ _)⟩)
      dsimp only [Pt.U, Pt.locs, Pt.cells, Pt.slots] at X22 l22 y22 z22 st22 hQ22
      subst l22 y22 z22
      obtain ⟨rfl, rfl, e22⟩ := hQ22
      have N22 := Fr.app N19 (Fr.nil n0)
      have go22 : Go p e below E0 T22 m 7 #[(sr x), (si 1), (si ch0), (si 0)] [(.int 1), (.int 1)] := fun tgt kont => go21 tgt (st22.trans kont)
      have go24 : Go p e below E0 T22 m 80 #[(sr x), (si 1), (si ch0), (si 0)] [(.ref x)] := fun tgt kont => go22 tgt (by
        refine XS.icmpYes X22.here hx rfl (pc0 := 7) (pc' := 79) rfl (D d29_7) rfl (flt (by decide)).2.1 (by decide) (by decide) ?_; refine XS.aloadN X22.here hx rfl (D d29_79) rfl rfl ?_; exact kont)
      obtain ⟨cq25, kq25, q25a, q25b, q25c⟩ := isOf hZ14 e22 f23
      obtain ⟨_, _, ⟨T25, L25, k25, n25⟩, -, X25, ⟨Lc25, hQ25, l25, y25, z25⟩, st25⟩ := X22.virtualBack hx (y := (⟨"java/lang/String", "isEmpty", "()Z"⟩ : MethodName)) (z := (⟨"java/lang/String", "isEmpty", "()Z"⟩ : MethodName)) hown14 (mvT hZ14 (wd hw 38 rfl)) (mvT hZ14 (wd hw 39 rfl)) (notFace_of_selects (args := #[]) (mvT hZ14 (wd hw 41 rfl))) (mvT hZ14 (wd hw 41 rfl)) (mvT hZ14 (wd hw 40 rfl)) (by decide) (backOf (W := 0) (rmM1 l Z a0 hw [] x ch0 G fv h14 n0 z15 SE14 kch0 W0 f17) hZ14 (wd hw 42 rfl) (wd hw 4 rfl) (by decide) (by decide)) q25a q25c (g := (mkF m 80 #[(sr x), (si 1), (si ch0), (si 0)] [(.ref x)])) rfl (by rw [hml]; rfl) (Steps.refl _) (argsL := []) (rest := []) (lenOf pd_10 rfl) rfl (by show 2 * 0 + _ ≤ _; exact Nat.le_of_eq rfl) (D d29_80) (fun _ _ => ⟨rfl, e22, (by decide : 2 + 0 ≤ _), (by decide : 64 + 0 ≤ _)⟩)
      dsimp only [Pt.U, Pt.locs, Pt.cells, Pt.slots] at X25 l25 y25 z25 st25 hQ25
      subst l25 y25 z25
      obtain ⟨rfl, rfl, e25⟩ := hQ25
      have N25 := Fr.app N22 (Fr.nil n0)
      have go25 : Go p e below E0 T25 m 83 #[(sr x), (si 1), (si ch0), (si 0)] [(.int 0)] := fun tgt kont => go24 tgt (st25.trans kont)
      have go26 : Go p e below E0 T25 m 91 #[(sr x), (si 1), (si ch0), (si 0)] [(.int 1)] := fun tgt kont => go25 tgt (by
        refine XS.ifNo X25.here hx rfl (D d29_83) rfl ((if0 _ _).trans (teq rfl).2) ?_; refine XS.iconst X25.here hx rfl (D d29_86) ?_; refine XS.goto X25.here hx rfl (pc0 := 87) (pc' := 91) rfl (D d29_87) (by decide) (by decide) ?_; exact kont)
      obtain ⟨fs, hr, hrun, hended, hW⟩ := X25.leaveW hS14 (by rw [e25]; exact hk14) (v := some (.int (1 : Int32))) (fun h => by rw [Bd.returns] at h; cases h)
      refine ⟨_, _, go26 _ ?_, hrun, hended, _, _, rfl, ?_, hW.1, hW.2.1, hW.2.2.1, hW.2.2.2.mono (by decide) (by decide)⟩
      · show Steps p.tables e below (T25.setTop (mkF m 91 #[(sr x), (si 1), (si ch0), (si 0)] [(.int 1)])) _
        exact retN X25 hx (t := .boolean) Bd.returns (by simp) (D d29_91) hr
      · show QT1 Z x ch0 G fv h0 n0 _ T25.heap _ T25.vm
        rw [e25]
        exact ⟨_, rfl, N25, K16, Or.inl ⟨rfl, tk0⟩⟩
    · have go27 : Go p e below E0 T19 m 72 #[(sr x), (si 0), (si ch0), (si 0)] [(.int 0)] := fun tgt kont => go19 tgt (by
        refine XS.ifNo X19.here hx rfl (D d29_68) rfl ((if0 _ _).trans (tlt hz0).2.1) ?_; refine XS.iconst X19.here hx rfl (D d29_71) ?_; exact kont)
      obtain ⟨fs, hr, hrun, hended, hW⟩ := X19.leaveW hS14 (by rw [e19]; exact hk14) (v := some (.int (0 : Int32))) (fun h => by rw [Bd.returns] at h; cases h)
      refine ⟨_, _, go27 _ ?_, hrun, hended, _, _, rfl, ?_, hW.1, hW.2.1, hW.2.2.1, hW.2.2.2.mono (by decide) (by decide)⟩
      · show Steps p.tables e below (T19.setTop (mkF m 72 #[(sr x), (si 0), (si ch0), (si 0)] [(.int 0)])) _
        exact retN X19 hx (t := .boolean) Bd.returns (by simp) (D d29_72) hr
      · show QT1 Z x ch0 G fv h0 n0 _ T19.heap _ T19.vm
        rw [e19]
        exact ⟨_, rfl, N19, K16, Or.inr ⟨rfl, fun q => (q).elim ha0 hs0⟩⟩
theorem ef_T2 (m : MethodId) (x0 : Addr) : entryFrame m #[(.ref x0)] 4 = mkF m 0 #[.val (.ref x0), .unset, .unset, .unset] [] := by first | (simp [entryFrame, mkF, argsToLocals, Value.category, maxLocals]; done) | rfl
def QT2 (Z : State) (x : Addr) (ch0 : Int32) (ch1 : Int32) (G : Int32) (fv : Value) (h0 : Heap) (n0 : Nat) (v : Option Value) (h : Heap) (L : List Loc) (vm : Vm) : Prop := ∃ r : Int32, v = some (.int r) ∧ Fr n0 L ∧ Keep h0 h [] ∧ ((r = 1 ∧ (own_tc ch0 ∧ own_tc ch1)) ∨ (r = 0 ∧ ¬ (own_tc ch0 ∧ own_tc ch1)))
abbrev RmT2 : Room := ({ frames := 5, cells := 2, slots := 64, locals := 66 } : Room)
set_option maxRecDepth 65536 in
set_option maxHeartbeats 40000000 in
theorem rmT2 (l : Launch) (Z : State) (a0 : Array Value) (hw : ∀ d ∈ tables_1, d.before a0 Z = true) (ws : List Jvm.Cond) (x : Addr) (ch0 : Int32) (ch1 : Int32) (G : Int32) (fv : Value) (h0 : Heap) (n0 : Nat) (Z0 : n0 ≤ h0.size) (S0 : own_S2 Z h0 x ch0 ch1) (kch0 : own_ch ch0) (kch1 : own_ch ch1) (hH3 : Jvm.Lit.constHeld Z "com/example/ample_dispatch/ampledispatch/FieldValues" 30) (hCW : Jvm.Lit.compactW.before a0 Z = true) (W0 : own_W Z G fv) (O0 : Old Z n0 h0) :
    MetFree l (⟨"com/example/ample_dispatch/ampledispatch/FieldValues", "isToken", "(Ljava/lang/String;)Z"⟩ : MethodName) (head1 (Jvm.Cond.code (⟨"com/example/ample_dispatch/ampledispatch/FieldValues", "isToken", "(Ljava/lang/String;)Z"⟩ : MethodName) prog_11_method_4_code 4 (some .boolean) :: ws) RmT2) (fun as_ U => as_ = #[(.ref x)] ∧ Z.Warmed39 U.vm ∧ U.heap = h0 ∧ (own_I Z) U.vm) (fun _ _ _ _ _ => True) (fun _ U o U' => ∃ v L, o = .returned v ∧ QT2 Z x ch0 ch1 G fv h0 n0 v U'.heap L U'.vm ∧ ReturnedEndW U o U' L RmT2.cells RmT2.slots) := by
  refine MetFree.of_bodySF (plainFor_of_name pn_23) hisR ?_
  intro p e s m args below meth c s₁ Bd hml0 hP hK
  obtain ⟨rfl, hZ, hh, hJ0⟩ := hP
  have hx := Bd.exec
  have hby := Bd.bytes
  have D : ∀ {pc : Nat} {r : Except DecodeError (Instr × Nat)}, decode prog_11_method_4_code pc = r → decode c.code pc = r := fun q => hb hby q
  have hml : c.maxLocals = 4 := hml0
  have hown : s.vm.findClass "com/example/ample_dispatch/ampledispatch/FieldValues" = some m.cls := findClass_of_methodNamed Bd.named
  have hnm := (name_of_methodNamed Bd.named Bd.method).1
  have X0 : Stand p l e RmT2 (s.setVm s.vm) m #[(.ref x)] below meth c s₁ [] 0 0 := Stand.of_body Bd
  have e0 : s₁.heap = h0 := by rw [← hh, Bd.state]; rfl
  have N0 := Fr.nil n0
  obtain ⟨E0, hE0⟩ : ∃ z, z = s₁.setTop (entryFrame m #[(.ref x)] 4) := ⟨_, rfl⟩
  rw [← hE0]
  have go0 : ∀ tgt, Steps p.tables e below (s₁.setTop (mkF m 0 #[(sr x), .unset, .unset, .unset] [])) tgt → Steps p.tables e below E0 tgt := fun tgt kont => by rw [hE0]; exact castTop (ef_T2 m x) kont
  have hS0 : s.Since s.vm h0.size := (State.WarmedH.refl s).since _
  have hk0 : h0.size ≤ h0.size := Nat.le_refl _
  have hwS : ∀ a ∈ Bundle.stringAtoms, a.before a0 Z = true := fun d hd => hw d ((by decide +kernel : ∀ d ∈ Bundle.stringAtoms, d ∈ tables_1) d hd)
  have Ex := S0.choose_spec.choose_spec.1
  have go1 : Go p e below E0 s₁ m 4 #[(sr x), (si 0), .unset, .unset] [(.ref x), (.int 0)] := fun tgt kont => go0 tgt (by
    refine XS.iconst X0.here hx rfl (D d29_0) ?_; refine XS.istoreN X0.here hx rfl (D d29_1) rfl (l' := #[(sr x), (si 0), .unset, .unset]) rfl ?_; refine XS.iloadN X0.here hx rfl (D d29_2) rfl ?_; refine XS.aloadN X0.here hx rfl (D d29_3) rfl rfl ?_; exact kont)
  obtain ⟨cq2, kq2, q2a, q2b, q2c⟩ := isOf hZ e0 Ex
  obtain ⟨_, _, ⟨T2, L2, k2, n2⟩, -, X2, ⟨Lc2, hQ2, l2, y2, z2⟩, st2⟩ := X0.virtualBack hx (y := (⟨"java/lang/String", "length", "()I"⟩ : MethodName)) (z := (⟨"java/lang/String", "length", "()I"⟩ : MethodName)) hown (mvT hZ (wd hw 27 rfl)) (mvT hZ (wd hw 28 rfl)) (notFace_of_selects (args := #[]) (mvT hZ (wd hw 30 rfl))) (mvT hZ (wd hw 30 rfl)) (mvT hZ (wd hw 29 rfl)) (by decide) (backOf (W := 1) (rmE2 l Z a0 hw [] x ch0 ch1 G fv h0 n0 Z0 S0 kch0 kch1 W0 O0) hZ (wd hw 31 rfl) (wd hw 4 rfl) (by decide) (by decide)) q2a q2c (g := (mkF m 4 #[(sr x), (si 0), .unset, .unset] [(.ref x), (.int 0)])) rfl (by rw [hml]; rfl) (Steps.refl _) (argsL := []) (rest := [(.int (0 : Int32))]) (lenOf pd_15 rfl) rfl (by show 2 * 0 + _ ≤ _; exact Nat.le_of_eq rfl) (D d29_4) (fun _ _ => ⟨rfl, e0, (by decide : 0 + 0 ≤ _), (by decide : 0 + 0 ≤ _)⟩)
  dsimp only [Pt.U, Pt.locs, Pt.cells, Pt.slots] at X2 l2 y2 z2 st2 hQ2
  subst l2 y2 z2
  obtain ⟨rfl, rfl, e2⟩ := hQ2
  have N2 := Fr.app N0 (Fr.nil n0)
  have go2 : Go p e below E0 T2 m 7 #[(sr x), (si 0), .unset, .unset] [(.int 2), (.int 0)] := fun tgt kont => go1 tgt (st2.trans kont)
  have go3 : Go p e below E0 T2 m 12 #[(sr x), (si 0), .unset, .unset] [(.int 0), (.ref x)] := fun tgt kont => go2 tgt (by
    refine XS.icmpNo X2.here hx rfl (D d29_7) rfl (tlt (by decide)).2.1 ?_; refine XS.aloadN X2.here hx rfl (D d29_10) rfl rfl ?_; refine XS.iloadN X2.here hx rfl (D d29_11) rfl ?_; exact kont)
  obtain ⟨cq4, kq4, q4a, q4b, q4c⟩ := isOf hZ e2 Ex
  obtain ⟨_, _, ⟨T4, L4, k4, n4⟩, -, X4, ⟨Lc4, hQ4, l4, y4, z4⟩, st4⟩ := X2.virtualBack hx (y := (⟨"java/lang/String", "charAt", "(I)C"⟩ : MethodName)) (z := (⟨"java/lang/String", "charAt", "(I)C"⟩ : MethodName)) hown (mvT hZ (wd hw 57 rfl)) (mvT hZ (wd hw 58 rfl)) (notFace_of_selects (args := #[]) (mvT hZ (wd hw 60 rfl))) (mvT hZ (wd hw 60 rfl)) (mvT hZ (wd hw 59 rfl)) (by decide) (backOf (W := 0) (rmC20 l Z a0 hw [] x ch0 ch1 G fv h0 n0 Z0 S0 kch0 kch1 W0 O0) hZ (wd hw 61 rfl) (wd hw 4 rfl) (by decide) (by decide)) q4a q4c (g := (mkF m 12 #[(sr x), (si 0), .unset, .unset] [(.int 0), (.ref x)])) rfl (by rw [hml]; rfl) (Steps.refl _) (argsL := [(.int (0 : Int32))]) (rest := []) (lenOf pd_24 rfl) rfl (by show 2 * 0 + _ ≤ _; exact Nat.le_of_eq rfl) (D d29_12) (fun _ _ => ⟨rfl, e2, (by decide : 0 + 0 ≤ _), (by decide : 0 + 0 ≤ _)⟩)
  dsimp only [Pt.U, Pt.locs, Pt.cells, Pt.slots] at X4 l4 y4 z4 st4 hQ4
  subst l4 y4 z4
  obtain ⟨rfl, rfl, e4⟩ := hQ4
  have N4 := Fr.app N2 (Fr.nil n0)
  have go4 : Go p e below E0 T4 m 15 #[(sr x), (si 0), .unset, .unset] [(.int ch0)] := fun tgt kont => go3 tgt (st4.trans kont)
  have go5 : Go p e below E0 T4 m 16 #[(sr x), (si 0), (si ch0), .unset] [] := fun tgt kont => go4 tgt (by
    refine XS.istoreN X4.here hx rfl (D d29_15) rfl (l' := #[(sr x), (si 0), (si ch0), .unset]) rfl ?_; exact kont)
  obtain ⟨b0, hb0, go6⟩ : ∃ b0 : Int32, ((b0 = 1 ∧ own_an ch0) ∨ (b0 = 0 ∧ ¬ own_an ch0)) ∧ Go p e below E0 T4 m 58 #[(sr x), (si 0), (si ch0), (si b0)] [] := by
    by_cases y0 : ch0 < (97 : Int32)
    · by_cases y1 : ch0 < (65 : Int32)
      · by_cases y2 : ch0 < (48 : Int32)
        · exact ⟨(0 : Int32), Or.inr ⟨rfl, (by simp only [own_tc, own_an, own_sp, Int32.lt_iff_toInt_lt, ← Int32.toInt_inj, Int32.reduceToInt] at y0 y1 y2 ⊢; omega)⟩, fun tgt kont => go5 tgt (by refine XS.iloadN X4.here hx rfl (D d29_16) rfl ?_; refine XS.bipush X4.here hx rfl (D d29_17) ?_; refine XS.icmpYes X4.here hx rfl (pc0 := 19) (pc' := 28) rfl (D d29_19) rfl (tlt y0).1 (by decide) (by decide) ?_; refine XS.iloadN X4.here hx rfl (D d29_28) rfl ?_; refine XS.bipush X4.here hx rfl (D d29_29) ?_; refine XS.icmpYes X4.here hx rfl (pc0 := 31) (pc' := 40) rfl (D d29_31) rfl (tlt y1).1 (by decide) (by decide) ?_; refine XS.iloadN X4.here hx rfl (D d29_40) rfl ?_; refine XS.bipush X4.here hx rfl (D d29_41) ?_; refine XS.icmpYes X4.here hx rfl (pc0 := 43) (pc' := 56) rfl (D d29_43) rfl (tlt y2).1 (by decide) (by decide) ?_; refine XS.iconst X4.here hx rfl (D d29_56) ?_; refine XS.istoreN X4.here hx rfl (D d29_57) rfl (l' := #[(sr x), (si 0), (si ch0), (si 0)]) rfl ?_; exact kont)⟩
        · by_cases y3 : (57 : Int32) < ch0
          · exact ⟨(0 : Int32), Or.inr ⟨rfl, (by simp only [own_tc, own_an, own_sp, Int32.lt_iff_toInt_lt, ← Int32.toInt_inj, Int32.reduceToInt] at y0 y1 y2 y3 ⊢; omega)⟩, fun tgt kont => go5 tgt (by refine XS.iloadN X4.here hx rfl (D d29_16) rfl ?_; refine XS.bipush X4.here hx rfl (D d29_17) ?_; refine XS.icmpYes X4.here hx rfl (pc0 := 19) (pc' := 28) rfl (D d29_19) rfl (tlt y0).1 (by decide) (by decide) ?_; refine XS.iloadN X4.here hx rfl (D d29_28) rfl ?_; refine XS.bipush X4.here hx rfl (D d29_29) ?_; refine XS.icmpYes X4.here hx rfl (pc0 := 31) (pc' := 40) rfl (D d29_31) rfl (tlt y1).1 (by decide) (by decide) ?_; refine XS.iloadN X4.here hx rfl (D d29_40) rfl ?_; refine XS.bipush X4.here hx rfl (D d29_41) ?_; refine XS.icmpNo X4.here hx rfl (D d29_43) rfl (flt y2).1 ?_; refine XS.iloadN X4.here hx rfl (D d29_46) rfl ?_; refine XS.bipush X4.here hx rfl (D d29_47) ?_; refine XS.icmpYes X4.here hx rfl (pc0 := 49) (pc' := 56) rfl (D d29_49) rfl (tlt y3).2.2.1 (by decide) (by decide) ?_; refine XS.iconst X4.here hx rfl (D d29_56) ?_; refine XS.istoreN X4.here hx rfl (D d29_57) rfl (l' := #[(sr x), (si 0), (si ch0), (si 0)]) rfl ?_; exact kont)⟩
          · exact ⟨(1 : Int32), Or.inl ⟨rfl, (by simp only [own_tc, own_an, own_sp, Int32.lt_iff_toInt_lt, ← Int32.toInt_inj, Int32.reduceToInt] at y0 y1 y2 y3 ⊢; omega)⟩, fun tgt kont => go5 tgt (by refine XS.iloadN X4.here hx rfl (D d29_16) rfl ?_; refine XS.bipush X4.here hx rfl (D d29_17) ?_; refine XS.icmpYes X4.here hx rfl (pc0 := 19) (pc' := 28) rfl (D d29_19) rfl (tlt y0).1 (by decide) (by decide) ?_; refine XS.iloadN X4.here hx rfl (D d29_28) rfl ?_; refine XS.bipush X4.here hx rfl (D d29_29) ?_; refine XS.icmpYes X4.here hx rfl (pc0 := 31) (pc' := 40) rfl (D d29_31) rfl (tlt y1).1 (by decide) (by decide) ?_; refine XS.iloadN X4.here hx rfl (D d29_40) rfl ?_; refine XS.bipush X4.here hx rfl (D d29_41) ?_; refine XS.icmpNo X4.here hx rfl (D d29_43) rfl (flt y2).1 ?_; refine XS.iloadN X4.here hx rfl (D d29_46) rfl ?_; refine XS.bipush X4.here hx rfl (D d29_47) ?_; refine XS.icmpNo X4.here hx rfl (D d29_49) rfl (flt y3).2.2.1 ?_; refine XS.iconst X4.here hx rfl (D d29_52) ?_; refine XS.goto X4.here hx rfl (pc0 := 53) (pc' := 57) rfl (D d29_53) (by decide) (by decide) ?_; refine XS.istoreN X4.here hx rfl (D d29_57) rfl (l' := #[(sr x), (si 0), (si ch0), (si 1)]) rfl ?_; exact kont)⟩
      · by_cases y2 : (90 : Int32) < ch0
        · exact ⟨(0 : Int32), Or.inr ⟨rfl, (by simp only [own_tc, own_an, own_sp, Int32.lt_iff_toInt_lt, ← Int32.toInt_inj, Int32.reduceToInt] at y0 y1 y2 ⊢; omega)⟩, fun tgt kont => go5 tgt (by refine XS.iloadN X4.here hx rfl (D d29_16) rfl ?_; refine XS.bipush X4.here hx rfl (D d29_17) ?_; refine XS.icmpYes X4.here hx rfl (pc0 := 19) (pc' := 28) rfl (D d29_19) rfl (tlt y0).1 (by decide) (by decide) ?_; refine XS.iloadN X4.here hx rfl (D d29_28) rfl ?_; refine XS.bipush X4.here hx rfl (D d29_29) ?_; refine XS.icmpNo X4.here hx rfl (D d29_31) rfl (flt y1).1 ?_; refine XS.iloadN X4.here hx rfl (D d29_34) rfl ?_; refine XS.bipush X4.here hx rfl (D d29_35) ?_; refine XS.icmpNo X4.here hx rfl (D d29_37) rfl (tlt y2).2.2.2 ?_; refine XS.iloadN X4.here hx rfl (D d29_40) rfl ?_; refine XS.bipush X4.here hx rfl (D d29_41) ?_; refine XS.icmpNo X4.here hx rfl (D d29_43) rfl (flt (by simp only [Int32.lt_iff_toInt_lt, ← Int32.toInt_inj, Int32.reduceToInt] at y0 y1 y2 ⊢; omega : ¬ ch0 < (48 : Int32))).1 ?_; refine XS.iloadN X4.here hx rfl (D d29_46) rfl ?_; refine XS.bipush X4.here hx rfl (D d29_47) ?_; refine XS.icmpYes X4.here hx rfl (pc0 := 49) (pc' := 56) rfl (D d29_49) rfl (tlt (by simp only [Int32.lt_iff_toInt_lt, ← Int32.toInt_inj, Int32.reduceToInt] at y0 y1 y2 ⊢; omega : (57 : Int32) < ch0)).2.2.1 (by decide) (by decide) ?_; refine XS.iconst X4.here hx rfl (D d29_56) ?_; refine XS.istoreN X4.here hx rfl (D d29_57) rfl (l' := #[(sr x), (si 0), (si ch0), (si 0)]) rfl ?_; exact kont)⟩
        · exact ⟨(1 : Int32), Or.inl ⟨rfl, (by simp only [own_tc, own_an, own_sp, Int32.lt_iff_toInt_lt, ← Int32.toInt_inj, Int32.reduceToInt] at y0 y1 y2 ⊢; omega)⟩, fun tgt kont => go5 tgt (by refine XS.iloadN X4.here hx rfl (D d29_16) rfl ?_; refine XS.bipush X4.here hx rfl (D d29_17) ?_; refine XS.icmpYes X4.here hx rfl (pc0 := 19) (pc' := 28) rfl (D d29_19) rfl (tlt y0).1 (by decide) (by decide) ?_; refine XS.iloadN X4.here hx rfl (D d29_28) rfl ?_; refine XS.bipush X4.here hx rfl (D d29_29) ?_; refine XS.icmpNo X4.here hx rfl (D d29_31) rfl (flt y1).1 ?_; refine XS.iloadN X4.here hx rfl (D d29_34) rfl ?_; refine XS.bipush X4.here hx rfl (D d29_35) ?_; refine XS.icmpYes X4.here hx rfl (pc0 := 37) (pc' := 52) rfl (D d29_37) rfl (flt y2).2.2.2 (by decide) (by decide) ?_; refine XS.iconst X4.here hx rfl (D d29_52) ?_; refine XS.goto X4.here hx rfl (pc0 := 53) (pc' := 57) rfl (D d29_53) (by decide) (by decide) ?_; refine XS.istoreN X4.here hx rfl (D d29_57) rfl (l' := #[(sr x), (si 0), (si ch0), (si 1)]) rfl ?_; exact kont)⟩
    · by_cases y1 : (122 : Int32) < ch0
      · exact ⟨(0 : Int32), Or.inr ⟨rfl, (by simp only [own_tc, own_an, own_sp, Int32.lt_iff_toInt_lt, ← Int32.toInt_inj, Int32.reduceToInt] at y0 y1 ⊢; omega)⟩, fun tgt kont => go5 tgt (by refine XS.iloadN X4.here hx rfl (D d29_16) rfl ?_; refine XS.bipush X4.here hx rfl (D d29_17) ?_; refine XS.icmpNo X4.here hx rfl (D d29_19) rfl (flt y0).1 ?_; refine XS.iloadN X4.here hx rfl (D d29_22) rfl ?_; refine XS.bipush X4.here hx rfl (D d29_23) ?_; refine XS.icmpNo X4.here hx rfl (D d29_25) rfl (tlt y1).2.2.2 ?_; refine XS.iloadN X4.here hx rfl (D d29_28) rfl ?_; refine XS.bipush X4.here hx rfl (D d29_29) ?_; refine XS.icmpNo X4.here hx rfl (D d29_31) rfl (flt (by simp only [Int32.lt_iff_toInt_lt, ← Int32.toInt_inj, Int32.reduceToInt] at y0 y1 ⊢; omega : ¬ ch0 < (65 : Int32))).1 ?_; refine XS.iloadN X4.here hx rfl (D d29_34) rfl ?_; refine XS.bipush X4.here hx rfl (D d29_35) ?_; refine XS.icmpNo X4.here hx rfl (D d29_37) rfl (tlt (by simp only [Int32.lt_iff_toInt_lt, ← Int32.toInt_inj, Int32.reduceToInt] at y0 y1 ⊢; omega : (90 : Int32) < ch0)).2.2.2 ?_; refine XS.iloadN X4.here hx rfl (D d29_40) rfl ?_; refine XS.bipush X4.here hx rfl (D d29_41) ?_; refine XS.icmpNo X4.here hx rfl (D d29_43) rfl (flt (by simp only [Int32.lt_iff_toInt_lt, ← Int32.toInt_inj, Int32.reduceToInt] at y0 y1 ⊢; omega : ¬ ch0 < (48 : Int32))).1 ?_; refine XS.iloadN X4.here hx rfl (D d29_46) rfl ?_; refine XS.bipush X4.here hx rfl (D d29_47) ?_; refine XS.icmpYes X4.here hx rfl (pc0 := 49) (pc' := 56) rfl (D d29_49) rfl (tlt (by simp only [Int32.lt_iff_toInt_lt, ← Int32.toInt_inj, Int32.reduceToInt] at y0 y1 ⊢; omega : (57 : Int32) < ch0)).2.2.1 (by decide) (by decide) ?_; refine XS.iconst X4.here hx rfl (D d29_56) ?_; refine XS.istoreN X4.here hx rfl (D d29_57) rfl (l' := #[(sr x), (si 0), (si ch0), (si 0)]) rfl ?_; exact kont)⟩
      · exact ⟨(1 : Int32), Or.inl ⟨rfl, (by simp only [own_tc, own_an, own_sp, Int32.lt_iff_toInt_lt, ← Int32.toInt_inj, Int32.reduceToInt] at y0 y1 ⊢; omega)⟩, fun tgt kont => go5 tgt (by refine XS.iloadN X4.here hx rfl (D d29_16) rfl ?_; refine XS.bipush X4.here hx rfl (D d29_17) ?_; refine XS.icmpNo X4.here hx rfl (D d29_19) rfl (flt y0).1 ?_; refine XS.iloadN X4.here hx rfl (D d29_22) rfl ?_; refine XS.bipush X4.here hx rfl (D d29_23) ?_; refine XS.icmpYes X4.here hx rfl (pc0 := 25) (pc' := 52) rfl (D d29_25) rfl (flt y1).2.2.2 (by decide) (by decide) ?_; refine XS.iconst X4.here hx rfl (D d29_52) ?_; refine XS.goto X4.here hx rfl (pc0 := 53) (pc' := 57) rfl (D d29_53) (by decide) (by decide) ?_; refine XS.istoreN X4.here hx rfl (D d29_57) rfl (l' := #[(sr x), (si 0), (si ch0), (si 1)]) rfl ?_; exact kont)⟩
  rcases hb0 with ⟨rfl, ha0⟩ | ⟨rfl, ha0⟩
  · have go7 : Go p e below E0 T4 m 73 #[(sr x), (si 0), (si ch0), (si 1)] [] := fun tgt kont => go6 tgt (by
      refine XS.iloadN X4.here hx rfl (D d29_58) rfl ?_; refine XS.ifYes X4.here hx rfl (pc0 := 59) (pc' := 73) rfl (D d29_59) rfl ((if0 _ _).trans (feq (by decide)).2) (by decide) (by decide) ?_; exact kont)
    have tk0 : own_tc ch0 := Or.inl ha0
    have go8 : Go p e below E0 T4 m 4 #[(sr x), (si 1), (si ch0), (si 1)] [(.ref x), (.int 1)] := fun tgt kont => go7 tgt (by
      refine XS.iinc X4.here hx rfl (D d29_73) rfl (l' := #[(sr x), (si 1), (si ch0), (si 1)]) rfl ?_; refine XS.goto X4.here hx rfl (pc0 := 76) (pc' := 2) rfl (D d29_76) (by decide) (by decide) ?_; refine XS.iloadN X4.here hx rfl (D d29_2) rfl ?_; refine XS.aloadN X4.here hx rfl (D d29_3) rfl rfl ?_; exact kont)
    obtain ⟨cq9, kq9, q9a, q9b, q9c⟩ := isOf hZ e4 Ex
    obtain ⟨_, _, ⟨T9, L9, k9, n9⟩, -, X9, ⟨Lc9, hQ9, l9, y9, z9⟩, st9⟩ := X4.virtualBack hx (y := (⟨"java/lang/String", "length", "()I"⟩ : MethodName)) (z := (⟨"java/lang/String", "length", "()I"⟩ : MethodName)) hown (mvT hZ (wd hw 27 rfl)) (mvT hZ (wd hw 28 rfl)) (notFace_of_selects (args := #[]) (mvT hZ (wd hw 30 rfl))) (mvT hZ (wd hw 30 rfl)) (mvT hZ (wd hw 29 rfl)) (by decide) (backOf (W := 1) (rmE2 l Z a0 hw [] x ch0 ch1 G fv h0 n0 Z0 S0 kch0 kch1 W0 O0) hZ (wd hw 31 rfl) (wd hw 4 rfl) (by decide) (by decide)) q9a q9c (g := (mkF m 4 #[(sr x), (si 1), (si ch0), (si 1)] [(.ref x), (.int 1)])) rfl (by rw [hml]; rfl) (Steps.refl _) (argsL := []) (rest := [(.int (1 : Int32))]) (lenOf pd_15 rfl) rfl (by show 2 * 0 + _ ≤ _; exact Nat.le_of_eq rfl) (D d29_4) (fun _ _ => ⟨rfl, e4, (by decide : 0 + 0 ≤ _), (by decide : 0 + 0 ≤ _)⟩)
    dsimp only [Pt.U, Pt.locs, Pt.cells, Pt.slots] at X9 l9 y9 z9 st9 hQ9
    subst l9 y9 z9
    obtain ⟨rfl, rfl, e9⟩ := hQ9
    have N9 := Fr.app N4 (Fr.nil n0)
    have go9 : Go p e below E0 T9 m 7 #[(sr x), (si 1), (si ch0), (si 1)] [(.int 2), (.int 1)] := fun tgt kont => go8 tgt (st9.trans kont)
    have go10 : Go p e below E0 T9 m 12 #[(sr x), (si 1), (si ch0), (si 1)] [(.int 1), (.ref x)] := fun tgt kont => go9 tgt (by
      refine XS.icmpNo X9.here hx rfl (D d29_7) rfl (tlt (by decide)).2.1 ?_; refine XS.aloadN X9.here hx rfl (D d29_10) rfl rfl ?_; refine XS.iloadN X9.here hx rfl (D d29_11) rfl ?_; exact kont)
    obtain ⟨cq11, kq11, q11a, q11b, q11c⟩ := isOf hZ e9 Ex
    obtain ⟨_, _, ⟨T11, L11, k11, n11⟩, -, X11, ⟨Lc11, hQ11, l11, y11, z11⟩, st11⟩ := X9.virtualBack hx (y := (⟨"java/lang/String", "charAt", "(I)C"⟩ : MethodName)) (z := (⟨"java/lang/String", "charAt", "(I)C"⟩ : MethodName)) hown (mvT hZ (wd hw 57 rfl)) (mvT hZ (wd hw 58 rfl)) (notFace_of_selects (args := #[]) (mvT hZ (wd hw 60 rfl))) (mvT hZ (wd hw 60 rfl)) (mvT hZ (wd hw 59 rfl)) (by decide) (backOf (W := 0) (rmC21 l Z a0 hw [] x ch0 ch1 G fv h0 n0 Z0 S0 kch0 kch1 W0 O0) hZ (wd hw 61 rfl) (wd hw 4 rfl) (by decide) (by decide)) q11a q11c (g := (mkF m 12 #[(sr x), (si 1), (si ch0), (si 1)] [(.int 1), (.ref x)])) rfl (by rw [hml]; rfl) (Steps.refl _) (argsL := [(.int (1 : Int32))]) (rest := []) (lenOf pd_24 rfl) rfl (by show 2 * 0 + _ ≤ _; exact Nat.le_of_eq rfl) (D d29_12) (fun _ _ => ⟨rfl, e9, (by decide : 0 + 0 ≤ _), (by decide : 0 + 0 ≤ _)⟩)
    dsimp only [Pt.U, Pt.locs, Pt.cells, Pt.slots] at X11 l11 y11 z11 st11 hQ11
    subst l11 y11 z11
    obtain ⟨rfl, rfl, e11⟩ := hQ11
    have N11 := Fr.app N9 (Fr.nil n0)
    have go11 : Go p e below E0 T11 m 15 #[(sr x), (si 1), (si ch0), (si 1)] [(.int ch1)] := fun tgt kont => go10 tgt (st11.trans kont)
    have go12 : Go p e below E0 T11 m 16 #[(sr x), (si 1), (si ch1), (si 1)] [] := fun tgt kont => go11 tgt (by
      refine XS.istoreN X11.here hx rfl (D d29_15) rfl (l' := #[(sr x), (si 1), (si ch1), (si 1)]) rfl ?_; exact kont)
    obtain ⟨b1, hb1, go13⟩ : ∃ b1 : Int32, ((b1 = 1 ∧ own_an ch1) ∨ (b1 = 0 ∧ ¬ own_an ch1)) ∧ Go p e below E0 T11 m 58 #[(sr x), (si 1), (si ch1), (si b1)] [] := by
      by_cases y0 : ch1 < (97 : Int32)
      · by_cases y1 : ch1 < (65 : Int32)
        · by_cases y2 : ch1 < (48 : Int32)
          · exact ⟨(0 : Int32), Or.inr ⟨rfl, (by simp only [own_tc, own_an, own_sp, Int32.lt_iff_toInt_lt, ← Int32.toInt_inj, Int32.reduceToInt] at y0 y1 y2 ⊢; omega)⟩, fun tgt kont => go12 tgt (by refine XS.iloadN X11.here hx rfl (D d29_16) rfl ?_; refine XS.bipush X11.here hx rfl (D d29_17) ?_; refine XS.icmpYes X11.here hx rfl (pc0 := 19) (pc' := 28) rfl (D d29_19) rfl (tlt y0).1 (by decide) (by decide) ?_; refine XS.iloadN X11.here hx rfl (D d29_28) rfl ?_; refine XS.bipush X11.here hx rfl (D d29_29) ?_; refine XS.icmpYes X11.here hx rfl (pc0 := 31) (pc' := 40) rfl (D d29_31) rfl (tlt y1).1 (by decide) (by decide) ?_; refine XS.iloadN X11.here hx rfl (D d29_40) rfl ?_; refine XS.bipush X11.here hx rfl (D d29_41) ?_; refine XS.icmpYes X11.here hx rfl (pc0 := 43) (pc' := 56) rfl (D d29_43) rfl (tlt y2).1 (by decide) (by decide) ?_; refine XS.iconst X11.here hx rfl (D d29_56) ?_; refine XS.istoreN X11.here hx rfl (D d29_57) rfl (l' := #[(sr x), (si 1), (si ch1), (si 0)]) rfl ?_; exact kont)⟩
          · by_cases y3 : (57 : Int32) < ch1
            · exact ⟨(0 : Int32), Or.inr ⟨rfl, (by simp only [own_tc, own_an, own_sp, Int32.lt_iff_toInt_lt, ← Int32.toInt_inj, Int32.reduceToInt] at y0 y1 y2 y3 ⊢; omega)⟩, fun tgt kont => go12 tgt (by refine XS.iloadN X11.here hx rfl (D d29_16) rfl ?_; refine XS.bipush X11.here hx rfl (D d29_17) ?_; refine XS.icmpYes X11.here hx rfl (pc0 := 19) (pc' := 28) rfl (D d29_19) rfl (tlt y0).1 (by decide) (by decide) ?_; refine XS.iloadN X11.here hx rfl (D d29_28) rfl ?_; refine XS.bipush X11.here hx rfl (D d29_29) ?_; refine XS.icmpYes X11.here hx rfl (pc0 := 31) (pc' := 40) rfl (D d29_31) rfl (tlt y1).1 (by decide) (by decide) ?_; refine XS.iloadN X11.here hx rfl (D d29_40) rfl ?_; refine XS.bipush X11.here hx rfl (D d29_41) ?_; refine XS.icmpNo X11.here hx rfl (D d29_43) rfl (flt y2).1 ?_; refine XS.iloadN X11.here hx rfl (D d29_46) rfl ?_; refine XS.bipush X11.here hx rfl (D d29_47) ?_; refine XS.icmpYes X11.here hx rfl (pc0 := 49) (pc' := 56) rfl (D d29_49) rfl (tlt y3).2.2.1 (by decide) (by decide) ?_; refine XS.iconst X11.here hx rfl (D d29_56) ?_; refine XS.istoreN X11.here hx rfl (D d29_57) rfl (l' := #[(sr x), (si 1), (si ch1), (si 0)]) rfl ?_; exact kont)⟩
            · exact ⟨(1 : Int32), Or.inl ⟨rfl, (by simp only [own_tc, own_an, own_sp, Int32.lt_iff_toInt_lt, ← Int32.toInt_inj, Int32.reduceToInt] at y0 y1 y2 y3 ⊢; omega)⟩, fun tgt kont => go12 tgt (by refine XS.iloadN X11.here hx rfl (D d29_16) rfl ?_; refine XS.bipush X11.here hx rfl (D d29_17) ?_; refine XS.icmpYes X11.here hx rfl (pc0 := 19) (pc' := 28) rfl (D d29_19) rfl (tlt y0).1 (by decide) (by decide) ?_; refine XS.iloadN X11.here hx rfl (D d29_28) rfl ?_; refine XS.bipush X11.here hx rfl (D d29_29) ?_; refine XS.icmpYes X11.here hx rfl (pc0 := 31) (pc' := 40) rfl (D d29_31) rfl (tlt y1).1 (by decide) (by decide) ?_; refine XS.iloadN X11.here hx rfl (D d29_40) rfl ?_; refine XS.bipush X11.here hx rfl (D d29_41) ?_; refine XS.icmpNo X11.here hx rfl (D d29_43) rfl (flt y2).1 ?_; refine XS.iloadN X11.here hx rfl (D d29_46) rfl ?_; refine XS.bipush X11.here hx rfl (D d29_47) ?_; refine XS.icmpNo X11.here hx rfl (D d29_49) rfl (flt y3).2.2.1 ?_; refine XS.iconst X11.here hx rfl (D d29_52) ?_; refine XS.goto X11.here hx rfl (pc0 := 53) (pc' := 57) rfl (D d29_53) (by decide) (by decide) ?_; refine XS.istoreN X11.here hx rfl (D d29_57) rfl (l' := #[(sr x), (si 1), (si ch1), (si 1)]) rfl ?_; exact kont)⟩
        · by_cases y2 : (90 : Int32) < ch1
          · exact ⟨(0 : Int32), Or.inr ⟨rfl, (by simp only [own_tc, own_an, own_sp, Int32.lt_iff_toInt_lt, ← Int32.toInt_inj, Int32.reduceToInt] at y0 y1 y2 ⊢; omega)⟩, fun tgt kont => go12 tgt (by refine XS.iloadN X11.here hx rfl (D d29_16) rfl ?_; refine XS.bipush X11.here hx rfl (D d29_17) ?_; refine XS.icmpYes X11.here hx rfl (pc0 := 19) (pc' := 28) rfl (D d29_19) rfl (tlt y0).1 (by decide) (by decide) ?_; refine XS.iloadN X11.here hx rfl (D d29_28) rfl ?_; refine XS.bipush X11.here hx rfl (D d29_29) ?_; refine XS.icmpNo X11.here hx rfl (D d29_31) rfl (flt y1).1 ?_; refine XS.iloadN X11.here hx rfl (D d29_34) rfl ?_; refine XS.bipush X11.here hx rfl (D d29_35) ?_; refine XS.icmpNo X11.here hx rfl (D d29_37) rfl (tlt y2).2.2.2 ?_; refine XS.iloadN X11.here hx rfl (D d29_40) rfl ?_; refine XS.bipush X11.here hx rfl (D d29_41) ?_; refine XS.icmpNo X11.here hx rfl (D d29_43) rfl (flt (by simp only [Int32.lt_iff_toInt_lt, ← Int32.toInt_inj, Int32.reduceToInt] at y0 y1 y2 ⊢; omega : ¬ ch1 < (48 : Int32))).1 ?_; refine XS.iloadN X11.here hx rfl (D d29_46) rfl ?_; refine XS.bipush X11.here hx rfl (D d29_47) ?_; refine XS.icmpYes X11.here hx rfl (pc0 := 49) (pc' := 56) rfl (D d29_49) rfl (tlt (by simp only [Int32.lt_iff_toInt_lt, ← Int32.toInt_inj, Int32.reduceToInt] at y0 y1 y2 ⊢; omega : (57 : Int32) < ch1)).2.2.1 (by decide) (by decide) ?_; refine XS.iconst X11.here hx rfl (D d29_56) ?_; refine XS.istoreN X11.here hx rfl (D d29_57) rfl (l' := #[(sr x), (si 1), (si ch1), (si 0)]) rfl ?_; exact kont)⟩
          · exact ⟨(1 : Int32), Or.inl ⟨rfl, (by simp only [own_tc, own_an, own_sp, Int32.lt_iff_toInt_lt, ← Int32.toInt_inj, Int32.reduceToInt] at y0 y1 y2 ⊢; omega)⟩, fun tgt kont => go12 tgt (by refine XS.iloadN X11.here hx rfl (D d29_16) rfl ?_; refine XS.bipush X11.here hx rfl (D d29_17) ?_; refine XS.icmpYes X11.here hx rfl (pc0 := 19) (pc' := 28) rfl (D d29_19) rfl (tlt y0).1 (by decide) (by decide) ?_; refine XS.iloadN X11.here hx rfl (D d29_28) rfl ?_; refine XS.bipush X11.here hx rfl (D d29_29) ?_; refine XS.icmpNo X11.here hx rfl (D d29_31) rfl (flt y1).1 ?_; refine XS.iloadN X11.here hx rfl (D d29_34) rfl ?_; refine XS.bipush X11.here hx rfl (D d29_35) ?_; refine XS.icmpYes X11.here hx rfl (pc0 := 37) (pc' := 52) rfl (D d29_37) rfl (flt y2).2.2.2 (by decide) (by decide) ?_; refine XS.iconst X11.here hx rfl (D d29_52) ?_; refine XS.goto X11.here hx rfl (pc0 := 53) (pc' := 57) rfl (D d29_53) (by decide) (by decide) ?_; refine XS.istoreN X11.here hx rfl (D d29_57) rfl (l' := #[(sr x), (si 1), (si ch1), (si 1)]) rfl ?_; exact kont)⟩
      · by_cases y1 : (122 : Int32) < ch1
        · exact ⟨(0 : Int32), Or.inr ⟨rfl, (by simp only [own_tc, own_an, own_sp, Int32.lt_iff_toInt_lt, ← Int32.toInt_inj, Int32.reduceToInt] at y0 y1 ⊢; omega)⟩, fun tgt kont => go12 tgt (by refine XS.iloadN X11.here hx rfl (D d29_16) rfl ?_; refine XS.bipush X11.here hx rfl (D d29_17) ?_; refine XS.icmpNo X11.here hx rfl (D d29_19) rfl (flt y0).1 ?_; refine XS.iloadN X11.here hx rfl (D d29_22) rfl ?_; refine XS.bipush X11.here hx rfl (D d29_23) ?_; refine XS.icmpNo X11.here hx rfl (D d29_25) rfl (tlt y1).2.2.2 ?_; refine XS.iloadN X11.here hx rfl (D d29_28) rfl ?_; refine XS.bipush X11.here hx rfl (D d29_29) ?_; refine XS.icmpNo X11.here hx rfl (D d29_31) rfl (flt (by simp only [Int32.lt_iff_toInt_lt, ← Int32.toInt_inj, Int32.reduceToInt] at y0 y1 ⊢; omega : ¬ ch1 < (65 : Int32))).1 ?_; refine XS.iloadN X11.here hx rfl (D d29_34) rfl ?_; refine XS.bipush X11.here hx rfl (D d29_35) ?_; refine XS.icmpNo X11.here hx rfl (D d29_37) rfl (tlt (by simp only [Int32.lt_iff_toInt_lt, ← Int32.toInt_inj, Int32.reduceToInt] at y0 y1 ⊢; omega : (90 : Int32) < ch1)).2.2.2 ?_; refine XS.iloadN X11.here hx rfl (D d29_40) rfl ?_; refine XS.bipush X11.here hx rfl (D d29_41) ?_; refine XS.icmpNo X11.here hx rfl (D d29_43) rfl (flt (by simp only [Int32.lt_iff_toInt_lt, ← Int32.toInt_inj, Int32.reduceToInt] at y0 y1 ⊢; omega : ¬ ch1 < (48 : Int32))).1 ?_; refine XS.iloadN X11.here hx rfl (D d29_46) rfl ?_; refine XS.bipush X11.here hx rfl (D d29_47) ?_; refine XS.icmpYes X11.here hx rfl (pc0 := 49) (pc' := 56) rfl (D d29_49) rfl (tlt (by simp only [Int32.lt_iff_toInt_lt, ← Int32.toInt_inj, Int32.reduceToInt] at y0 y1 ⊢; omega : (57 : Int32) < ch1)).2.2.1 (by decide) (by decide) ?_; refine XS.iconst X11.here hx rfl (D d29_56) ?_; refine XS.istoreN X11.here hx rfl (D d29_57) rfl (l' := #[(sr x), (si 1), (si ch1), (si 0)]) rfl ?_; exact kont)⟩
        · exact ⟨(1 : Int32), Or.inl ⟨rfl, (by simp only [own_tc, own_an, own_sp, Int32.lt_iff_toInt_lt, ← Int32.toInt_inj, Int32.reduceToInt] at y0 y1 ⊢; omega)⟩, fun tgt kont => go12 tgt (by refine XS.iloadN X11.here hx rfl (D d29_16) rfl ?_; refine XS.bipush X11.here hx rfl (D d29_17) ?_; refine XS.icmpNo X11.here hx rfl (D d29_19) rfl (flt y0).1 ?_; refine XS.iloadN X11.here hx rfl (D d29_22) rfl ?_; refine XS.bipush X11.here hx rfl (D d29_23) ?_; refine XS.icmpYes X11.here hx rfl (pc0 := 25) (pc' := 52) rfl (D d29_25) rfl (flt y1).2.2.2 (by decide) (by decide) ?_; refine XS.iconst X11.here hx rfl (D d29_52) ?_; refine XS.goto X11.here hx rfl (pc0 := 53) (pc' := 57) rfl (D d29_53) (by decide) (by decide) ?_; refine XS.istoreN X11.here hx rfl (D d29_57) rfl (l' := #[(sr x), (si 1), (si ch1), (si 1)]) rfl ?_; exact kont)⟩
    rcases hb1 with ⟨rfl, ha1⟩ | ⟨rfl, ha1⟩
    · have go14 : Go p e below E0 T11 m 73 #[(sr x), (si 1), (si ch1), (si 1)] [] := fun tgt kont => go13 tgt (by
        refine XS.iloadN X11.here hx rfl (D d29_58) rfl ?_; refine XS.ifYes X11.here hx rfl (pc0 := 59) (pc' := 73) rfl (D d29_59) rfl ((if0 _ _).trans (feq (by decide)).2) (by decide) (by decide) ?_; exact kont)
      have tk1 : own_tc ch1 := Or.inl ha1
      have go15 : Go p e below E0 T11 m 4 #[(sr x), (si 2), (si ch1), (si 1)] [(.ref x), (.int 2)] := fun tgt kont => go14 tgt (by
        refine XS.iinc X11.here hx rfl (D d29_73) rfl (l' := #[(sr x), (si 2), (si ch1), (si 1)]) rfl ?_; refine XS.goto X11.here hx rfl (pc0 := 76) (pc' := 2) rfl (D d29_76) (by decide) (by decide) ?_; refine XS.iloadN X11.here hx rfl (D d29_2) rfl ?_; refine XS.aloadN X11.here hx rfl (D d29_3) rfl rfl ?_; exact kont)
      obtain ⟨cq16, kq16, q16a, q16b, q16c⟩ := isOf hZ e11 Ex
      obtain ⟨_, _, ⟨T16, L16, k16, n16⟩, -, X16, ⟨Lc16, hQ16, l16, y16, z16⟩, st16⟩ := X11.virtualBack hx (y := (⟨"java/lang/String", "length", "()I"⟩ : MethodName)) (z := (⟨"java/lang/String", "length", "()I"⟩ : MethodName)) hown (mvT hZ (wd hw 27 rfl)) (mvT hZ (wd hw 28 rfl)) (notFace_of_selects (args := #[]) (mvT hZ (wd hw 30 rfl))) (mvT hZ (wd hw 30 rfl)) (mvT hZ (wd hw 29 rfl)) (by decide) (backOf (W := 1) (rmE2 l Z a0 hw [] x ch0 ch1 G fv h0 n0 Z0 S0 kch0 kch1 W0 O0) hZ (wd hw 31 rfl) (wd hw 4 rfl) (by decide) (by decide)) q16a q16c (g := (mkF m 4 #[(sr x), (si 2), (si ch1), (si 1)] [(.ref x), (.int 2)])) rfl (by rw [hml]; rfl) (Steps.refl _) (argsL := []) (rest := [(.int (2 : Int32))]) (lenOf pd_15 rfl) rfl (by show 2 * 0 + _ ≤ _; exact Nat.le_of_eq rfl) (D d29_4) (fun _ _ => ⟨rfl, e11, (by decide : 0 + 0 ≤ _), (by decide : 0 + 0 ≤ _)⟩)
      dsimp only [Pt.U, Pt.locs, Pt.cells, Pt.slots] at X16 l16 y16 z16 st16 hQ16
      subst l16 y16 z16
      obtain ⟨rfl, rfl, e16⟩ := hQ16
      have N16 := Fr.app N11 (Fr.nil n0)
      have go16 : Go p e below E0 T16 m 7 #[(sr x), (si 2), (si ch1), (si 1)] [(.int 2), (.int 2)] := fun tgt kont => go15 tgt (st16.trans kont)
      have go17 : Go p e below E0 T16 m 80 #[(sr x), (si 2), (si ch1), (si 1)] [(.ref x)] := fun tgt kont => go16 tgt (by
        refine XS.icmpYes X16.here hx rfl (pc0 := 7) (pc' := 79) rfl (D d29_7) rfl (flt (by decide)).2.1 (by decide) (by decide) ?_; refine XS.aloadN X16.here hx rfl (D d29_79) rfl rfl ?_; exact kont)
      obtain ⟨cq18, kq18, q18a, q18b, q18c⟩ := isOf hZ e16 Ex
      obtain ⟨_, _, ⟨T18, L18, k18, n18⟩, -, X18, ⟨Lc18, hQ18, l18, y18, z18⟩, st18⟩ := X16.virtualBack hx (y := (⟨"java/lang/String", "isEmpty", "()Z"⟩ : MethodName)) (z := (⟨"java/lang/String", "isEmpty", "()Z"⟩ : MethodName)) hown (mvT hZ (wd hw 38 rfl)) (mvT hZ (wd hw 39 rfl)) (notFace_of_selects (args := #[]) (mvT hZ (wd hw 41 rfl))) (mvT hZ (wd hw 41 rfl)) (mvT hZ (wd hw 40 rfl)) (by decide) (backOf (W := 0) (rmM2 l Z a0 hw [] x ch0 ch1 G fv h0 n0 Z0 S0 kch0 kch1 W0 O0) hZ (wd hw 42 rfl) (wd hw 4 rfl) (by decide) (by decide)) q18a q18c (g := (mkF m 80 #[(sr x), (si 2), (si ch1), (si 1)] [(.ref x)])) rfl (by rw [hml]; rfl) (Steps.refl _) (argsL := []) (rest := []) (lenOf pd_10 rfl) rfl (by show 2 * 0 + _ ≤ _; exact Nat.le_of_eq rfl) (D d29_80) (fun _ _ => ⟨rfl, e16, (by decide : 0 + 0 ≤ _), (by decide : 0 + 0 ≤ _)⟩)
      dsimp only [Pt.U, Pt.locs, Pt.cells, Pt.slots] at X18 l18 y18 z18 st18 hQ18
      subst l18 y18 z18
      obtain ⟨rfl, rfl, e18⟩ := hQ18
      have N18 := Fr.app N16 (Fr.nil n0)
      have go18 : Go p e below E0 T18 m 83 #[(sr x), (si 2), (si ch1), (si 1)] [(.int 0)] := fun tgt kont => go17 tgt (st18.trans kont)
      have go19 : Go p e below E0 T18 m 91 #[(sr x), (si 2), (si ch1), (si 1)] [(.int 1)] := fun tgt kont => go18 tgt (by
        refine XS.ifNo X18.here hx rfl (D d29_83) rfl ((if0 _ _).trans (teq rfl).2) ?_; refine XS.iconst X18.here hx rfl (D d29_86) ?_; refine XS.goto X18.here hx rfl (pc0 := 87) (pc' := 91) rfl (D d29_87) (by decide) (by decide) ?_; exact kont)
      obtain ⟨fs, hr, hrun, hended, hW⟩ := X18.leaveW hS0 (by rw [e18]; exact hk0) (v := some (.int (1 : Int32))) (fun h => by rw [Bd.returns] at h; cases h)
      refine ⟨_, _, go19 _ ?_, hrun, hended, _, _, rfl, ?_, hW.1, hW.2.1, hW.2.2.1, hW.2.2.2.mono (by decide) (by decide)⟩
      · show Steps p.tables e below (T18.setTop (mkF m 91 #[(sr x), (si 2), (si ch1), (si 1)] [(.int 1)])) _
        exact retN X18 hx (t := .boolean) Bd.returns (by simp) (D d29_91) hr
      · show QT2 Z x ch0 ch1 G fv h0 n0 _ T18.heap _ T18.vm
        rw [e18]
        exact ⟨_, rfl, N18, (Keep.refl h0 []), Or.inl ⟨rfl, ⟨tk0, tk1⟩⟩⟩
    · have go20 : Go p e below E0 T11 m 62 #[(sr x), (si 1), (si ch1), (si 0)] [] := fun tgt kont => go13 tgt (by
        refine XS.iloadN X11.here hx rfl (D d29_58) rfl ?_; refine XS.ifNo X11.here hx rfl (D d29_59) rfl ((if0 _ _).trans (teq rfl).2) ?_; exact kont)
      have hkeep21 : ∀ (b : Addr) (cl : Cell), Z.heap[b]? = some cl → s.heap[b]? = some cl := fun b cl q => by rw [hh]; exact O0.2.2 b cl q
      obtain ⟨la, T21, h21, k21, lb, lk, X21, e21, E21, hS21, hk21, hZ21, hown21, E_la, C_la, V_la, A_la, -, -, -, Lt_la, st21⟩ := ldcSVL X11 hx hZ hown (wd hw 79 rfl) hwS e11 hS0 hk0 (fun y hy => by simp at hy) hkeep21 hJ0 (by simp) hH3 hCW (vs := own_SL) (z := (15 : Int32)) ⟨by decide +kernel, by decide +kernel⟩ (by decide) (by decide) (g := (mkF m 62 #[(sr x), (si 1), (si ch1), (si 0)] [])) rfl (D d29_62) (n := 60) (by decide +kernel) (by decide) (by decide) (by decide)
      have z22 : n0 ≤ h21.size := Nat.le_trans Z0 E21.1
      have K23 : Keep h0 h21 [] := (Keep.refl h0 []).ext E21
      have go21 : Go p e below E0 T21 m 64 #[(sr x), (si 1), (si ch1), (si 0)] [(.ref la)] := fun tgt kont => go20 tgt (st21 tgt kont)
      have SE21 : own_S2 Z h21 x ch0 ch1 := own_S2ext S0 E21
      have f24 : Old Z n0 h21 := (O0.ext E21)
      have go25 : Go p e below E0 T21 m 65 #[(sr x), (si 1), (si ch1), (si 0)] [(.int ch1), (.ref la)] := fun tgt kont => go21 tgt (by
        refine XS.iloadN X21.here hx rfl (D d29_64) rfl ?_; exact kont)
      obtain ⟨cq26, kq26, q26a, q26b, q26c⟩ := isOf hZ21 e21 E_la
      obtain ⟨_, _, ⟨T26, L26, k26, n26⟩, -, X26, ⟨Lc26, hQ26, l26, y26, z26⟩, st26⟩ := X21.virtualBack hx (y := (⟨"java/lang/String", "indexOf", "(I)I"⟩ : MethodName)) (z := (⟨"java/lang/String", "indexOf", "(I)I"⟩ : MethodName)) hown21 (mvT hZ21 (wd hw 80 rfl)) (mvT hZ21 (wd hw 81 rfl)) (notFace_of_selects (args := #[]) (mvT hZ21 (wd hw 83 rfl))) (mvT hZ21 (wd hw 83 rfl)) (mvT hZ21 (wd hw 82 rfl)) (by decide) (backOf (W := 0) (rmI1 l Z a0 hw [] la lb lk ch1 G fv h21 n0 z22 E_la C_la V_la A_la kch1.1 W0 f24) hZ21 (wd hw 84 rfl) (wd hw 4 rfl) (by decide) (by decide)) q26a q26c (g := (mkF m 65 #[(sr x), (si 1), (si ch1), (si 0)] [(.int ch1), (.ref la)])) rfl (by rw [hml]; rfl) (Steps.refl _) (argsL := [(.int ch1)]) (rest := []) (lenOf pd_16 rfl) rfl (by show 2 * 0 + _ ≤ _; exact Nat.le_of_eq rfl) (D d29_65) (fun _ _ => ⟨rfl, e21, (by decide : 2 + 0 ≤ _), (by decide : 64 + 0 ≤ _)⟩)
      dsimp only [Pt.U, Pt.locs, Pt.cells, Pt.slots] at X26 l26 y26 z26 st26 hQ26
      subst l26 y26 z26
      obtain ⟨r1, rfl, rfl, e26, hr1⟩ := hQ26
      have N26 := Fr.app N11 (Fr.nil n0)
      have go26 : Go p e below E0 T26 m 68 #[(sr x), (si 1), (si ch1), (si 0)] [(.int r1)] := fun tgt kont => go25 tgt (st26.trans kont)
      rcases hr1 with ⟨hz1, hs1⟩ | ⟨hz1, hs1⟩
      · have go27 : Go p e below E0 T26 m 73 #[(sr x), (si 1), (si ch1), (si 0)] [] := fun tgt kont => go26 tgt (by
          refine XS.ifYes X26.here hx rfl (pc0 := 68) (pc' := 73) rfl (D d29_68) rfl ((if0 _ _).trans (flt hz1).2.1) (by decide) (by decide) ?_; exact kont)
        have tk1 : own_tc ch1 := Or.inr hs1
        have go28 : Go p e below E0 T26 m 4 #[(sr x), (si 2), (si ch1), (si 0)] [(.ref x), (.int 2)] := fun tgt kont => go27 tgt (by
          refine XS.iinc X26.here hx rfl (D d29_73) rfl (l' := #[(sr x), (si 2), (si ch1), (si 0)]) rfl ?_; refine XS.goto X26.here hx rfl (pc0 := 76) (pc' := 2) rfl (D d29_76) (by decide) (by decide) ?_; refine XS.iloadN X26.here hx rfl (D d29_2) rfl ?_; refine XS.aloadN X26.here hx rfl (D d29_3) rfl rfl ?_; exact kont)
        have f30 : Exa Z h21 x "java/lang/String" := (Ex.ext E21)
        obtain ⟨cq29, kq29, q29a, q29b, q29c⟩ := isOf hZ21 e26 f30
        obtain ⟨_, _, ⟨T29, L29, k29, n29⟩, -, X29, ⟨Lc29, hQ29, l29, y29, z29⟩, st29⟩ := X26.virtualBack hx (y := (⟨"java/lang/String", "length", "()I"⟩ : MethodName)) (z := (⟨"java/lang/String", "length", "()I"⟩ : MethodName)) hown21 (mvT hZ21 (wd hw 27 rfl)) (mvT hZ21 (wd hw 28 rfl)) (notFace_of_selects (args := #[]) (mvT hZ21 (wd hw 30 rfl))) (mvT hZ21 (wd hw 30 rfl)) (mvT hZ21 (wd hw 29 rfl)) (by decide) (backOf (W := 1) (rmE2 l Z a0 hw [] x ch0 ch1 G fv h21 n0 z22 SE21 kch0 kch1 W0 f24) hZ21 (wd hw 31 rfl) (wd hw 4 rfl) (by decide) (by decide)) q29a q29c (g := (mkF m 4 #[(sr x), (si 2), (si ch1), (si 0)] [(.ref x), (.int 2)])) rfl (by rw [hml]; rfl) (Steps.refl _) (argsL := []) (rest := [(.int (2 : Int32))]) (lenOf pd_15 rfl) rfl (by show 2 * 0 + _ ≤ _; exact Nat.le_of_eq rfl) (D d29_4) (fun _ _ => ⟨rfl, e26, (by decide : 2 + 0 ≤ _), (by decide : 64 + 0 ≤ _)⟩)
        dsimp only [Pt.U, Pt.locs, Pt.cells, Pt.slots] at X29 l29 y29 z29 st29 hQ29
        subst l29 y29 z29
        obtain ⟨rfl, rfl, e29⟩ := hQ29
        have N29 := Fr.app N26 (Fr.nil n0)
        have go29 : Go p e below E0 T29 m 7 #[(sr x), (si 2), (si ch1), (si 0)] [(.int 2), (.int 2)] := fun tgt kont => go28 tgt (st29.trans kont)
        have go31 : Go p e below E0 T29 m 80 #[(sr x), (si 2), (si ch1), (si 0)] [(.ref x)] := fun tgt kont => go29 tgt (by
          refine XS.icmpYes X29.here hx rfl (pc0 := 7) (pc' := 79) rfl (D d29_7) rfl (flt (by decide)).2.1 (by decide) (by decide) ?_; refine XS.aloadN X29.here hx rfl (D d29_79) rfl rfl ?_; exact kont)
        obtain ⟨cq32, kq32, q32a, q32b, q32c⟩ := isOf hZ21 e29 f30
        obtain ⟨_, _, ⟨T32, L32, k32, n32⟩, -, X32, ⟨Lc32, hQ32, l32, y32, z32⟩, st32⟩ := X29.virtualBack hx (y := (⟨"java/lang/String", "isEmpty", "()Z"⟩ : MethodName)) (z := (⟨"java/lang/String", "isEmpty", "()Z"⟩ : MethodName)) hown21 (mvT hZ21 (wd hw 38 rfl)) (mvT hZ21 (wd hw 39 rfl)) (notFace_of_selects (args := #[]) (mvT hZ21 (wd hw 41 rfl))) (mvT hZ21 (wd hw 41 rfl)) (mvT hZ21 (wd hw 40 rfl)) (by decide) (backOf (W := 0) (rmM2 l Z a0 hw [] x ch0 ch1 G fv h21 n0 z22 SE21 kch0 kch1 W0 f24) hZ21 (wd hw 42 rfl) (wd hw 4 rfl) (by decide) (by decide)) q32a q32c (g := (mkF m 80 #[(sr x), (si 2), (si ch1), (si 0)] [(.ref x)])) rfl (by rw [hml]; rfl) (Steps.refl _) (argsL := []) (rest := []) (lenOf pd_10 rfl) rfl (by show 2 * 0 + _ ≤ _; exact Nat.le_of_eq rfl) (D d29_80) (fun _ _ => ⟨rfl, e29, (by decide : 2 + 0 ≤ _), (by decide : 64 + 0 ≤ _)⟩)
        dsimp only [Pt.U, Pt.locs, Pt.cells, Pt.slots] at X32 l32 y32 z32 st32 hQ32
        subst l32 y32 z32
        obtain ⟨rfl, rfl, e32⟩ := hQ32
        have N32 := Fr.app N29 (Fr.nil n0)
        have go32 : Go p e below E0 T32 m 83 #[(sr x), (si 2), (si ch1), (si 0)] [(.int 0)] := fun tgt kont => go31 tgt (st32.trans kont)
        have go33 : Go p e below E0 T32 m 91 #[(sr x), (si 2), (si ch1), (si 0)] [(.int 1)] := fun tgt kont => go32 tgt (by
          refine XS.ifNo X32.here hx rfl (D d29_83) rfl ((if0 _ _).trans (teq rfl).2) ?_; refine XS.iconst X32.here hx rfl (D d29_86) ?_; refine XS.goto X32.here hx rfl (pc0 := 87) (pc' := 91) rfl (D d29_87) (by decide) (by decide) ?_; exact kont)
        obtain ⟨fs, hr, hrun, hended, hW⟩ := X32.leaveW hS21 (by rw [e32]; exact hk21) (v := some (.int (1 : Int32))) (fun h => by rw [Bd.returns] at h; cases h)
        refine ⟨_, _, go33 _ ?_, hrun, hended, _, _, rfl, ?_, hW.1, hW.2.1, hW.2.2.1, hW.2.2.2.mono (by decide) (by decide)⟩
        · show Steps p.tables e below (T32.setTop (mkF m 91 #[(sr x), (si 2), (si ch1), (si 0)] [(.int 1)])) _
          exact retN X32 hx (t := .boolean) Bd.returns (by simp) (D d29_91) hr
        · show QT2 Z x ch0 ch1 G fv h0 n0 _ T32.heap _ T32.vm
          rw [e32]
          exact ⟨_, rfl, N32, K23, Or.inl ⟨rfl, ⟨tk0, tk1⟩⟩⟩
      · have go34 : Go p e below E0 T26 m 72 #[(sr x), (si 1), (si ch1), (si 0)] [(.int 0)] := fun tgt kont => go26 tgt (by
          refine XS.ifNo X26.here hx rfl (D d29_68) rfl ((if0 _ _).trans (tlt hz1).2.1) ?_; refine XS.iconst X26.here hx rfl (D d29_71) ?_; exact kont)
        obtain ⟨fs, hr, hrun, hended, hW⟩ := X26.leaveW hS21 (by rw [e26]; exact hk21) (v := some (.int (0 : Int32))) (fun h => by rw [Bd.returns] at h; cases h)
        refine ⟨_, _, go34 _ ?_, hrun, hended, _, _, rfl, ?_, hW.1, hW.2.1, hW.2.2.1, hW.2.2.2.mono (by decide) (by decide)⟩
        · show Steps p.tables e below (T26.setTop (mkF m 72 #[(sr x), (si 1), (si ch1), (si 0)] [(.int 0)])) _
          exact retN X26 hx (t := .boolean) Bd.returns (by simp) (D d29_72) hr
        · show QT2 Z x ch0 ch1 G fv h0 n0 _ T26.heap _ T26.vm
          rw [e26]
          exact ⟨_, rfl, N26, K23, Or.inr ⟨rfl, fun q => (q.2).elim ha1 hs1⟩⟩
  · have go35 : Go p e below E0 T4 m 62 #[(sr x), (si 0), (si ch0), (si 0)] [] := fun tgt kont => go6 tgt (by
      refine XS.iloadN X4.here hx rfl (D d29_58) rfl ?_; refine XS.ifNo X4.here hx rfl (D d29_59) rfl ((if0 _ _).trans (teq rfl).2) ?_; exact kont)
    have hkeep36 : ∀ (b : Addr) (cl : Cell), Z.heap[b]? = some cl → s.heap[b]? = some cl := fun b cl q => by rw [hh]; exact O0.2.2 b cl q
    obtain ⟨la, T36, h36, k36, lb, lk, X36, e36, E36, hS36, hk36, hZ36, hown36, E_la, C_la, V_la, A_la, -, -, -, Lt_la, st36⟩ := ldcSVL X4 hx hZ hown (wd hw 79 rfl) hwS e4 hS0 hk0 (fun y hy => by simp at hy) hkeep36 hJ0 (by simp) hH3 hCW (vs := own_SL) (z := (15 : Int32)) ⟨by decide +kernel, by decide +kernel⟩ (by decide) (by decide) (g := (mkF m 62 #[(sr x), (si 0), (si ch0), (si 0)] [])) rfl (D d29_62) (n := 60) (by decide +kernel) (by decide) (by decide) (by decide)
    have z37 : n0 ≤ h36.size := Nat.le_trans Z0 E36.1
    have K38 : Keep h0 h36 [] := (Keep.refl h0 []).ext E36
    have go36 : Go p e below E0 T36 m 64 #[(sr x), (si 0), (si ch0), (si 0)] [(.ref la)] := fun tgt kont => go35 tgt (st36 tgt kont)
    have SE36 : own_S2 Z h36 x ch0 ch1 := own_S2ext S0 E36
    have f39 : Old Z n0 h36 := (O0.ext E36)
    have go40 : Go p e below E0 T36 m 65 #[(sr x), (si 0), (si ch0), (si 0)] [(.int ch0), (.ref la)] := fun tgt kont => go36 tgt (by
      refine XS.iloadN X36.here hx rfl (D d29_64) rfl ?_; exact kont)
    obtain ⟨cq41, kq41, q41a, q41b, q41c⟩ := isOf hZ36 e36 E_la
    obtain ⟨_, _, ⟨T41, L41, k41, n41⟩, -, X41, ⟨Lc41, hQ41, l41, y41, z41⟩, st41⟩ := X36.virtualBack hx (y := (⟨"java/lang/String", "indexOf", "(I)I"⟩ : MethodName)) (z := (⟨"java/lang/String", "indexOf", "(I)I"⟩ : MethodName)) hown36 (mvT hZ36 (wd hw 80 rfl)) (mvT hZ36 (wd hw 81 rfl)) (notFace_of_selects (args := #[]) (mvT hZ36 (wd hw 83 rfl))) (mvT hZ36 (wd hw 83 rfl)) (mvT hZ36 (wd hw 82 rfl)) (by decide) (backOf (W := 0) (rmI1 l Z a0 hw [] la lb lk ch0 G fv h36 n0 z37 E_la C_la V_la A_la kch0.1 W0 f39) hZ36 (wd hw 84 rfl) (wd hw 4 rfl) (by decide) (by decide)) q41a q41c (g := (mkF m 65 #[(sr x), (si 0), (si ch0), (si 0)] [(.int ch0), (.ref la)])) rfl (by rw [hml]; rfl) (Steps.refl _) (argsL := [(.int ch0)]) (rest := []) (lenOf pd_16 rfl) rfl (by show 2 * 0 + _ ≤ _; exact Nat.le_of_eq rfl) (D d29_65) (fun _ _ => ⟨rfl, e36, (by decide : 2 + 0 ≤ _), (by decide : 64 + 0 ≤ _)⟩)
    dsimp only [Pt.U, Pt.locs, Pt.cells, Pt.slots] at X41 l41 y41 z41 st41 hQ41
    subst l41 y41 z41
    obtain ⟨r0, rfl, rfl, e41, hr0⟩ := hQ41
    have N41 := Fr.app N4 (Fr.nil n0)
    have go41 : Go p e below E0 T41 m 68 #[(sr x), (si 0), (si ch0), (si 0)] [(.int r0)] := fun tgt kont => go40 tgt (st41.trans kont)
    rcases hr0 with ⟨hz0, hs0⟩ | ⟨hz0, hs0⟩
    · have go42 : Go p e below E0 T41 m 73 #[(sr x), (si 0), (si ch0), (si 0)] [] := fun tgt kont => go41 tgt (by
        refine XS.ifYes X41.here hx rfl (pc0 := 68) (pc' := 73) rfl (D d29_68) rfl ((if0 _ _).trans (flt hz0).2.1) (by decide) (by decide) ?_; exact kont)
      have tk0 : own_tc ch0 := Or.inr hs0
      have go43 : Go p e below E0 T41 m 4 #[(sr x), (si 1), (si ch0), (si 0)] [(.ref x), (.int 1)] := fun tgt kont => go42 tgt (by
        refine XS.iinc X41.here hx rfl (D d29_73) rfl (l' := #[(sr x), (si 1), (si ch0), (si 0)]) rfl ?_; refine XS.goto X41.here hx rfl (pc0 := 76) (pc' := 2) rfl (D d29_76) (by decide) (by decide) ?_; refine XS.iloadN X41.here hx rfl (D d29_2) rfl ?_; refine XS.aloadN X41.here hx rfl (D d29_3) rfl rfl ?_; exact kont)
      have f45 : Exa Z h36 x "java/lang/String" := (Ex.ext E36)
      obtain ⟨cq44, kq44, q44a, q44b, q44c⟩ := isOf hZ36 e41 f45
      obtain ⟨_, _, ⟨T44, L44, k44, n44⟩, -, X44, ⟨Lc44, hQ44, l44, y44, z44⟩, st44⟩ := X41.virtualBack hx (y := (⟨"java/lang/String", "length", "()I"⟩ : MethodName)) (z := (⟨"java/lang/String", "length", "()I"⟩ : MethodName)) hown36 (mvT hZ36 (wd hw 27 rfl)) (mvT hZ36 (wd hw 28 rfl)) (notFace_of_selects (args := #[]) (mvT hZ36 (wd hw 30 rfl))) (mvT hZ36 (wd hw 30 rfl)) (mvT hZ36 (wd hw 29 rfl)) (by decide) (backOf (W := 1) (rmE2 l Z a0 hw [] x ch0 ch1 G fv h36 n0 z37 SE36 kch0 kch1 W0 f39) hZ36 (wd hw 31 rfl) (wd hw 4 rfl) (by decide) (by decide)) q44a q44c (g := (mkF m 4 #[(sr x), (si 1), (si ch0), (si 0)] [(.ref x), (.int 1)])) rfl (by rw [hml]; rfl) (Steps.refl _) (argsL := []) (rest := [(.int (1 : Int32))]) (lenOf pd_15 rfl) rfl (by show 2 * 0 + _ ≤ _; exact Nat.le_of_eq rfl) (D d29_4) (fun _ _ => ⟨rfl, e41, (by decide : 2 + 0 ≤ _), (by decide : 64 + 0 ≤ _)⟩)
      dsimp only [Pt.U, Pt.locs, Pt.cells, Pt.slots] at X44 l44 y44 z44 st44 hQ44
      subst l44 y44 z44
      obtain ⟨rfl, rfl, e44⟩ := hQ44
      have N44 := Fr.app N41 (Fr.nil n0)
      have go44 : Go p e below E0 T44 m 7 #[(sr x), (si 1), (si ch0), (si 0)] [(.int 2), (.int 1)] := fun tgt kont => go43 tgt (st44.trans kont)
      have go46 : Go p e below E0 T44 m 12 #[(sr x), (si 1), (si ch0), (si 0)] [(.int 1), (.ref x)] := fun tgt kont => go44 tgt (by
        refine XS.icmpNo X44.here hx rfl (D d29_7) rfl (tlt (by decide)).2.1 ?_; refine XS.aloadN X44.here hx rfl (D d29_10) rfl rfl ?_; refine XS.iloadN X44.here hx rfl (D d29_11) rfl ?_; exact kont)
      obtain ⟨cq47, kq47, q47a, q47b, q47c⟩ := isOf hZ36 e44 f45
      obtain ⟨_, _, ⟨T47, L47, k47, n47⟩, -, X47, ⟨Lc47, hQ47, l47, y47, z47⟩, st47⟩ := X44.virtualBack hx (y := (⟨"java/lang/String", "charAt", "(I)C"⟩ : MethodName)) (z := (⟨"java/lang/String", "charAt", "(I)C"⟩ : MethodName)) hown36 (mvT hZ36 (wd hw 57 rfl)) (mvT hZ36 (wd hw 58 rfl)) (notFace_of_selects (args := #[]) (mvT hZ36 (wd hw 60 rfl))) (mvT hZ36 (wd hw 60 rfl)) (mvT hZ36 (wd hw 59 rfl)) (by decide) (backOf (W := 0) (rmC21 l Z a0 hw [] x ch0 ch1 G fv h36 n0 z37 SE36 kch0 kch1 W0 f39) hZ36 (wd hw 61 rfl) (wd hw 4 rfl) (by decide) (by decide)) q47a q47c (g := (mkF m 12 #[(sr x), (si 1), (si ch0), (si 0)] [(.int 1), (.ref x)])) rfl (by rw [hml]; rfl) (Steps.refl _) (argsL := [(.int (1 : Int32))]) (rest := []) (lenOf pd_24 rfl) rfl (by show 2 * 0 + _ ≤ _; exact Nat.le_of_eq rfl) (D d29_12) (fun _ _ => ⟨rfl, e44, (by decide : 2 + 0 ≤ _), (by decide : 64 + 0 ≤ _)⟩)
      dsimp only [Pt.U, Pt.locs, Pt.cells, Pt.slots] at X47 l47 y47 z47 st47 hQ47
      subst l47 y47 z47
      obtain ⟨rfl, rfl, e47⟩ := hQ47
      have N47 := Fr.app N44 (Fr.nil n0)
      have go47 : Go p e below E0 T47 m 15 #[(sr x), (si 1), (si ch0), (si 0)] [(.int ch1)] := fun tgt kont => go46 tgt (st47.trans kont)
      have go48 : Go p e below E0 T47 m 16 #[(sr x), (si 1), (si ch1), (si 0)] [] := fun tgt kont => go47 tgt (by
        refine XS.istoreN X47.here hx rfl (D d29_15) rfl (l' := #[(sr x), (si 1), (si ch1), (si 0)]) rfl ?_; exact kont)
      obtain ⟨b1, hb1, go49⟩ : ∃ b1 : Int32, ((b1 = 1 ∧ own_an ch1) ∨ (b1 = 0 ∧ ¬ own_an ch1)) ∧ Go p e below E0 T47 m 58 #[(sr x), (si 1), (si ch1), (si b1)] [] := by
        by_cases y0 : ch1 < (97 : Int32)
        · by_cases y1 : ch1 < (65 : Int32)
          · by_cases y2 : ch1 < (48 : Int32)
            · exact ⟨(0 : Int32), Or.inr ⟨rfl, (by simp only [own_tc, own_an, own_sp, Int32.lt_iff_toInt_lt, ← Int32.toInt_inj, Int32.reduceToInt] at y0 y1 y2 ⊢; omega)⟩, fun tgt kont => go48 tgt (by refine XS.iloadN X47.here hx rfl (D d29_16) rfl ?_; refine XS.bipush X47.here hx rfl (D d29_17) ?_; refine XS.icmpYes X47.here hx rfl (pc0 := 19) (pc' := 28) rfl (D d29_19) rfl (tlt y0).1 (by decide) (by decide) ?_; refine XS.iloadN X47.here hx rfl (D d29_28) rfl ?_; refine XS.bipush X47.here hx rfl (D d29_29) ?_; refine XS.icmpYes X47.here hx rfl (pc0 := 31) (pc' := 40) rfl (D d29_31) rfl (tlt y1).1 (by decide) (by decide) ?_; refine XS.iloadN X47.here hx rfl (D d29_40) rfl ?_; refine XS.bipush X47.here hx rfl (D d29_41) ?_; refine XS.icmpYes X47.here hx rfl (pc0 := 43) (pc' := 56) rfl (D d29_43) rfl (tlt y2).1 (by decide) (by decide) ?_; refine XS.iconst X47.here hx rfl (D d29_56) ?_; refine XS.istoreN X47.here hx rfl (D d29_57) rfl (l' := #[(sr x), (si 1), (si ch1), (si 0)]) rfl ?_; exact kont)⟩
            · by_cases y3 : (57 : Int32) < ch1
              · exact ⟨(0 : Int32), Or.inr ⟨rfl, (by simp only [own_tc, own_an, own_sp, Int32.lt_iff_toInt_lt, ← Int32.toInt_inj, Int32.reduceToInt] at y0 y1 y2 y3 ⊢; omega)⟩, fun tgt kont => go48 tgt (by refine XS.iloadN X47.here hx rfl (D d29_16) rfl ?_; refine XS.bipush X47.here hx rfl (D d29_17) ?_; refine XS.icmpYes X47.here hx rfl (pc0 := 19) (pc' := 28) rfl (D d29_19) rfl (tlt y0).1 (by decide) (by decide) ?_; refine XS.iloadN X47.here hx rfl (D d29_28) rfl ?_; refine XS.bipush X47.here hx rfl (D d29_29) ?_; refine XS.icmpYes X47.here hx rfl (pc0 := 31) (pc' := 40) rfl (D d29_31) rfl (tlt y1).1 (by decide) (by decide) ?_; refine XS.iloadN X47.here hx rfl (D d29_40) rfl ?_; refine XS.bipush X47.here hx rfl (D d29_41) ?_; refine XS.icmpNo X47.here hx rfl (D d29_43) rfl (flt y2).1 ?_; refine XS.iloadN X47.here hx rfl (D d29_46) rfl ?_; refine XS.bipush X47.here hx rfl (D d29_47) ?_; refine XS.icmpYes X47.here hx rfl (pc0 := 49) (pc' := 56) rfl (D d29_49) rfl (tlt y3).2.2.1 (by decide) (by decide) ?_; refine XS.iconst X47.here hx rfl (D d29_56) ?_; refine XS.istoreN X47.here hx rfl (D d29_57) rfl (l' := #[(sr x), (si 1), (si ch1), (si 0)]) rfl ?_; exact kont)⟩
              · exact ⟨(1 : Int32), Or.inl ⟨rfl, (by simp only [own_tc, own_an, own_sp, Int32.lt_iff_toInt_lt, ← Int32.toInt_inj, Int32.reduceToInt] at y0 y1 y2 y3 ⊢; omega)⟩, fun tgt kont => go48 tgt (by refine XS.iloadN X47.here hx rfl (D d29_16) rfl ?_; refine XS.bipush X47.here hx rfl (D d29_17) ?_; refine XS.icmpYes X47.here hx rfl (pc0 := 19) (pc' := 28) rfl (D d29_19) rfl (tlt y0).1 (by decide) (by decide) ?_; refine XS.iloadN X47.here hx rfl (D d29_28) rfl ?_; refine XS.bipush X47.here hx rfl (D d29_29) ?_; refine XS.icmpYes X47.here hx rfl (pc0 := 31) (pc' := 40) rfl (D d29_31) rfl (tlt y1).1 (by decide) (by decide) ?_; refine XS.iloadN X47.here hx rfl (D d29_40) rfl ?_; refine XS.bipush X47.here hx rfl (D d29_41) ?_; refine XS.icmpNo X47.here hx rfl (D d29_43) rfl (flt y2).1 ?_; refine XS.iloadN X47.here hx rfl (D d29_46) rfl ?_; refine XS.bipush X47.here hx rfl (D d29_47) ?_; refine XS.icmpNo X47.here hx rfl (D d29_49) rfl (flt y3).2.2.1 ?_; refine XS.iconst X47.here hx rfl (D d29_52) ?_; refine XS.goto X47.here hx rfl (pc0 := 53) (pc' := 57) rfl (D d29_53) (by decide) (by decide) ?_; refine XS.istoreN X47.here hx rfl (D d29_57) rfl (l' := #[(sr x), (si 1), (si ch1), (si 1)]) rfl ?_; exact kont)⟩
          · by_cases y2 : (90 : Int32) < ch1
            · exact ⟨(0 : Int32), Or.inr ⟨rfl, (by simp only [own_tc, own_an, own_sp, Int32.lt_iff_toInt_lt, ← Int32.toInt_inj, Int32.reduceToInt] at y0 y1 y2 ⊢; omega)⟩, fun tgt kont => go48 tgt (by refine XS.iloadN X47.here hx rfl (D d29_16) rfl ?_; refine XS.bipush X47.here hx rfl (D d29_17) ?_; refine XS.icmpYes X47.here hx rfl (pc0 := 19) (pc' := 28) rfl (D d29_19) rfl (tlt y0).1 (by decide) (by decide) ?_; refine XS.iloadN X47.here hx rfl (D d29_28) rfl ?_; refine XS.bipush X47.here hx rfl (D d29_29) ?_; refine XS.icmpNo X47.here hx rfl (D d29_31) rfl (flt y1).1 ?_; refine XS.iloadN X47.here hx rfl (D d29_34) rfl ?_; refine XS.bipush X47.here hx rfl (D d29_35) ?_; refine XS.icmpNo X47.here hx rfl (D d29_37) rfl (tlt y2).2.2.2 ?_; refine XS.iloadN X47.here hx rfl (D d29_40) rfl ?_; refine XS.bipush X47.here hx rfl (D d29_41) ?_; refine XS.icmpNo X47.here hx rfl (D d29_43) rfl (flt (by simp only [Int32.lt_iff_toInt_lt, ← Int32.toInt_inj, Int32.reduceToInt] at y0 y1 y2 ⊢; omega : ¬ ch1 < (48 : Int32))).1 ?_; refine XS.iloadN X47.here hx rfl (D d29_46) rfl ?_; refine XS.bipush X47.here hx rfl (D d29_47) ?_; refine XS.icmpYes X47.here hx rfl (pc0 := 49) (pc' := 56) rfl (D d29_49) rfl (tlt (by simp only [Int32.lt_iff_toInt_lt, ← Int32.toInt_inj, Int32.reduceToInt] at y0 y1 y2 ⊢; omega : (57 : Int32) < ch1)).2.2.1 (by decide) (by decide) ?_; refine XS.iconst X47.here hx rfl (D d29_56) ?_; refine XS.istoreN X47.here hx rfl (D d29_57) rfl (l' := #[(sr x), (si 1), (si ch1), (si 0)]) rfl ?_; exact kont)⟩
            · exact ⟨(1 : Int32), Or.inl ⟨rfl, (by simp only [own_tc, own_an, own_sp, Int32.lt_iff_toInt_lt, ← Int32.toInt_inj, Int32.reduceToInt] at y0 y1 y2 ⊢; omega)⟩, fun tgt kont => go48 tgt (by refine XS.iloadN X47.here hx rfl (D d29_16) rfl ?_; refine XS.bipush X47.here hx rfl (D d29_17) ?_; refine XS.icmpYes X47.here hx rfl (pc0 := 19) (pc' := 28) rfl (D d29_19) rfl (tlt y0).1 (by decide) (by decide) ?_; refine XS.iloadN X47.here hx rfl (D d29_28) rfl ?_; refine XS.bipush X47.here hx rfl (D d29_29) ?_; refine XS.icmpNo X47.here hx rfl (D d29_31) rfl (flt y1).1 ?_; refine XS.iloadN X47.here hx rfl (D d29_34) rfl ?_; refine XS.bipush X47.here hx rfl (D d29_35) ?_; refine XS.icmpYes X47.here hx rfl (pc0 := 37) (pc' := 52) rfl (D d29_37) rfl (flt y2).2.2.2 (by decide) (by decide) ?_; refine XS.iconst X47.here hx rfl (D d29_52) ?_; refine XS.goto X47.here hx rfl (pc0 := 53) (pc' := 57) rfl (D d29_53) (by decide) (by decide) ?_; refine XS.istoreN X47.here hx rfl (D d29_57) rfl (l' := #[(sr x), (si 1), (si ch1), (si 1)]) rfl ?_; exact kont)⟩
        · by_cases y1 : (122 : Int32) < ch1
          · exact ⟨(0 : Int32), Or.inr ⟨rfl, (by simp only [own_tc, own_an, own_sp, Int32.lt_iff_toInt_lt, ← Int32.toInt_inj, Int32.reduceToInt] at y0 y1 ⊢; omega)⟩, fun tgt kont => go48 tgt (by refine XS.iloadN X47.here hx rfl (D d29_16) rfl ?_; refine XS.bipush X47.here hx rfl (D d29_17) ?_; refine XS.icmpNo X47.here hx rfl (D d29_19) rfl (flt y0).1 ?_; refine XS.iloadN X47.here hx rfl (D d29_22) rfl ?_; refine XS.bipush X47.here hx rfl (D d29_23) ?_; refine XS.icmpNo X47.here hx rfl (D d29_25) rfl (tlt y1).2.2.2 ?_; refine XS.iloadN X47.here hx rfl (D d29_28) rfl ?_; refine XS.bipush X47.here hx rfl (D d29_29) ?_; refine XS.icmpNo X47.here hx rfl (D d29_31) rfl (flt (by simp only [Int32.lt_iff_toInt_lt, ← Int32.toInt_inj, Int32.reduceToInt] at y0 y1 ⊢; omega : ¬ ch1 < (65 : Int32))).1 ?_; refine XS.iloadN X47.here hx rfl (D d29_34) rfl ?_; refine XS.bipush X47.here hx rfl (D d29_35) ?_; refine XS.icmpNo X47.here hx rfl (D d29_37) rfl (tlt (by simp only [Int32.lt_iff_toInt_lt, ← Int32.toInt_inj, Int32.reduceToInt] at y0 y1 ⊢; omega : (90 : Int32) < ch1)).2.2.2 ?_; refine XS.iloadN X47.here hx rfl (D d29_40) rfl ?_; refine XS.bipush X47.here hx rfl (D d29_41) ?_; refine XS.icmpNo X47.here hx rfl (D d29_43) rfl (flt (by simp only [Int32.lt_iff_toInt_lt, ← Int32.toInt_inj, Int32.reduceToInt] at y0 y1 ⊢; omega : ¬ ch1 < (48 : Int32))).1 ?_; refine XS.iloadN X47.here hx rfl (D d29_46) rfl ?_; refine XS.bipush X47.here hx rfl (D d29_47) ?_; refine XS.icmpYes X47.here hx rfl (pc0 := 49) (pc' := 56) rfl (D d29_49) rfl (tlt (by simp only [Int32.lt_iff_toInt_lt, ← Int32.toInt_inj, Int32.reduceToInt] at y0 y1 ⊢; omega : (57 : Int32) < ch1)).2.2.1 (by decide) (by decide) ?_; refine XS.iconst X47.here hx rfl (D d29_56) ?_; refine XS.istoreN X47.here hx rfl (D d29_57) rfl (l' := #[(sr x), (si 1), (si ch1), (si 0)]) rfl ?_; exact kont)⟩
          · exact ⟨(1 : Int32), Or.inl ⟨rfl, (by simp only [own_tc, own_an, own_sp, Int32.lt_iff_toInt_lt, ← Int32.toInt_inj, Int32.reduceToInt] at y0 y1 ⊢; omega)⟩, fun tgt kont => go48 tgt (by refine XS.iloadN X47.here hx rfl (D d29_16) rfl ?_; refine XS.bipush X47.here hx rfl (D d29_17) ?_; refine XS.icmpNo X47.here hx rfl (D d29_19) rfl (flt y0).1 ?_; refine XS.iloadN X47.here hx rfl (D d29_22) rfl ?_; refine XS.bipush X47.here hx rfl (D d29_23) ?_; refine XS.icmpYes X47.here hx rfl (pc0 := 25) (pc' := 52) rfl (D d29_25) rfl (flt y1).2.2.2 (by decide) (by decide) ?_; refine XS.iconst X47.here hx rfl (D d29_52) ?_; refine XS.goto X47.here hx rfl (pc0 := 53) (pc' := 57) rfl (D d29_53) (by decide) (by decide) ?_; refine XS.istoreN X47.here hx rfl (D d29_57) rfl (l' := #[(sr x), (si 1), (si ch1), (si 1)]) rfl ?_; exact kont)⟩
      rcases hb1 with ⟨rfl, ha1⟩ | ⟨rfl, ha1⟩
      · have go50 : Go p e below E0 T47 m 73 #[(sr x), (si 1), (si ch1), (si 1)] [] := fun tgt kont => go49 tgt (by
          refine XS.iloadN X47.here hx rfl (D d29_58) rfl ?_; refine XS.ifYes X47.here hx rfl (pc0 := 59) (pc' := 73) rfl (D d29_59) rfl ((if0 _ _).trans (feq (by decide)).2) (by decide) (by decide) ?_; exact kont)
        have tk1 : own_tc ch1 := Or.inl ha1
        have go51 : Go p e below E0 T47 m 4 #[(sr x), (si 2), (si ch1), (si 1)] [(.ref x), (.int 2)] := fun tgt kont => go50 tgt (by
          refine XS.iinc X47.here hx rfl (D d29_73) rfl (l' := #[(sr x), (si 2), (si ch1), (si 1)]) rfl ?_; refine XS.goto X47.here hx rfl (pc0 := 76) (pc' := 2) rfl (D d29_76) (by decide) (by decide) ?_; refine XS.iloadN X47.here hx rfl (D d29_2) rfl ?_; refine XS.aloadN X47.here hx rfl (D d29_3) rfl rfl ?_; exact kont)
        obtain ⟨cq52, kq52, q52a, q52b, q52c⟩ := isOf hZ36 e47 f45
        obtain ⟨_, _, ⟨T52, L52, k52, n52⟩, -, X52, ⟨Lc52, hQ52, l52, y52, z52⟩, st52⟩ := X47.virtualBack hx (y := (⟨"java/lang/String", "length", "()I"⟩ : MethodName)) (z := (⟨"java/lang/String", "length", "()I"⟩ : MethodName)) hown36 (mvT hZ36 (wd hw 27 rfl)) (mvT hZ36 (wd hw 28 rfl)) (notFace_of_selects (args := #[]) (mvT hZ36 (wd hw 30 rfl))) (mvT hZ36 (wd hw 30 rfl)) (mvT hZ36 (wd hw 29 rfl)) (by decide) (backOf (W := 1) (rmE2 l Z a0 hw [] x ch0 ch1 G fv h36 n0 z37 SE36 kch0 kch1 W0 f39) hZ36 (wd hw 31 rfl) (wd hw 4 rfl) (by decide) (by decide)) q52a q52c (g := (mkF m 4 #[(sr x), (si 2), (si ch1), (si 1)] [(.ref x), (.int 2)])) rfl (by rw [hml]; rfl) (Steps.refl _) (argsL := []) (rest := [(.int (2 : Int32))]) (lenOf pd_15 rfl) rfl (by show 2 * 0 + _ ≤ _; exact Nat.le_of_eq rfl) (D d29_4) (fun _ _ => ⟨rfl, e47, (by decide : 2 + 0 ≤ _), (by decide : 64 + 0 ≤ _)⟩)
        dsimp only [Pt.U, Pt.locs, Pt.cells, Pt.slots] at X52 l52 y52 z52 st52 hQ52
        subst l52 y52 z52
        obtain ⟨rfl, rfl, e52⟩ := hQ52
        have N52 := Fr.app N47 (Fr.nil n0)
        have go52 : Go p e below E0 T52 m 7 #[(sr x), (si 2), (si ch1), (si 1)] [(.int 2), (.int 2)] := fun tgt kont => go51 tgt (st52.trans kont)
        have go53 : Go p e below E0 T52 m 80 #[(sr x), (si 2), (si ch1), (si 1)] [(.ref x)] := fun tgt kont => go52 tgt (by
          refine XS.icmpYes X52.here hx rfl (pc0 := 7) (pc' := 79) rfl (D d29_7) rfl (flt (by decide)).2.1 (by decide) (by decide) ?_; refine XS.aloadN X52.here hx rfl (D d29_79) rfl rfl ?_; exact kont)
        obtain ⟨cq54, kq54, q54a, q54b, q54c⟩ := isOf hZ36 e52 f45
        obtain ⟨_, _, ⟨T54, L54, k54, n54⟩, -, X54, ⟨Lc54, hQ54, l54, y54, z54⟩, st54⟩ := X52.virtualBack hx (y := (⟨"java/lang/String", "isEmpty", "()Z"⟩ : MethodName)) (z := (⟨"java/lang/String", "isEmpty", "()Z"⟩ : MethodName)) hown36 (mvT hZ36 (wd hw 38 rfl)) (mvT hZ36 (wd hw 39 rfl)) (notFace_of_selects (args := #[]) (mvT hZ36 (wd hw 41 rfl))) (mvT hZ36 (wd hw 41 rfl)) (mvT hZ36 (wd hw 40 rfl)) (by decide) (backOf (W := 0) (rmM2 l Z a0 hw [] x ch0 ch1 G fv h36 n0 z37 SE36 kch0 kch1 W0 f39) hZ36 (wd hw 42 rfl) (wd hw 4 rfl) (by decide) (by decide)) q54a q54c (g := (mkF m 80 #[(sr x), (si 2), (si ch1), (si 1)] [(.ref x)])) rfl (by rw [hml]; rfl) (Steps.refl _) (argsL := []) (rest := []) (lenOf pd_10 rfl) rfl (by show 2 * 0 + _ ≤ _; exact Nat.le_of_eq rfl) (D d29_80) (fun _ _ => ⟨rfl, e52, (by decide : 2 + 0 ≤ _), (by decide : 64 + 0 ≤ _)⟩)
        dsimp only [Pt.U, Pt.locs, Pt.cells, Pt.slots] at X54 l54 y54 z54 st54 hQ54
        subst l54 y54 z54
        obtain ⟨rfl, rfl, e54⟩ := hQ54
        have N54 := Fr.app N52 (Fr.nil n0)
        have go54 : Go p e below E0 T54 m 83 #[(sr x), (si 2), (si ch1), (si 1)] [(.int 0)] := fun tgt kont => go53 tgt (st54.trans kont)
        have go55 : Go p e below E0 T54 m 91 #[(sr x), (si 2), (si ch1), (si 1)] [(.int 1)] := fun tgt kont => go54 tgt (by
          refine XS.ifNo X54.here hx rfl (D d29_83) rfl ((if0 _ _).trans (teq rfl).2) ?_; refine XS.iconst X54.here hx rfl (D d29_86) ?_; refine XS.goto X54.here hx rfl (pc0 := 87) (pc' := 91) rfl (D d29_87) (by decide) (by decide) ?_; exact kont)
        obtain ⟨fs, hr, hrun, hended, hW⟩ := X54.leaveW hS36 (by rw [e54]; exact hk36) (v := some (.int (1 : Int32))) (fun h => by rw [Bd.returns] at h; cases h)
        refine ⟨_, _, go55 _ ?_, hrun, hended, _, _, rfl, ?_, hW.1, hW.2.1, hW.2.2.1, hW.2.2.2.mono (by decide) (by decide)⟩
        · show Steps p.tables e below (T54.setTop (mkF m 91 #[(sr x), (si 2), (si ch1), (si 1)] [(.int 1)])) _
          exact retN X54 hx (t := .boolean) Bd.returns (by simp) (D d29_91) hr
        · show QT2 Z x ch0 ch1 G fv h0 n0 _ T54.heap _ T54.vm
          rw [e54]
          exact ⟨_, rfl, N54, K38, Or.inl ⟨rfl, ⟨tk0, tk1⟩⟩⟩
      · have go56 : Go p e below E0 T47 m 62 #[(sr x), (si 1), (si ch1), (si 0)] [] := fun tgt kont => go49 tgt (by
          refine XS.iloadN X47.here hx rfl (D d29_58) rfl ?_; refine XS.ifNo X47.here hx rfl (D d29_59) rfl ((if0 _ _).trans (teq rfl).2) ?_; exact kont)
        have go57 : Go p e below E0 T47 m 64 #[(sr x), (si 1), (si ch1), (si 0)] [(.ref la)] := fun tgt kont => go56 tgt (ldcAgain X47 hx hZ36 hown36 (wd hw 79 rfl) Lt_la (g := (mkF m 62 #[(sr x), (si 1), (si ch1), (si 0)] [])) rfl (D d29_62) tgt kont)
        have go58 : Go p e below E0 T47 m 65 #[(sr x), (si 1), (si ch1), (si 0)] [(.int ch1), (.ref la)] := fun tgt kont => go57 tgt (by
          refine XS.iloadN X47.here hx rfl (D d29_64) rfl ?_; exact kont)
        obtain ⟨cq59, kq59, q59a, q59b, q59c⟩ := isOf hZ36 e47 E_la
        obtain ⟨_, _, ⟨T59, L59, k59, n59⟩, -, X59, ⟨Lc59, hQ59, l59, y59, z59⟩, st59⟩ := X47.virtualBack hx (y := (⟨"java/lang/String", "indexOf", "(I)I"⟩ : MethodName)) (z := (⟨"java/lang/String", "indexOf", "(I)I"⟩ : MethodName)) hown36 (mvT hZ36 (wd hw 80 rfl)) (mvT hZ36 (wd hw 81 rfl)) (notFace_of_selects (args := #[]) (mvT hZ36 (wd hw 83 rfl))) (mvT hZ36 (wd hw 83 rfl)) (mvT hZ36 (wd hw 82 rfl)) (by decide) (backOf (W := 0) (rmI1 l Z a0 hw [] la lb lk ch1 G fv h36 n0 z37 E_la C_la V_la A_la kch1.1 W0 f39) hZ36 (wd hw 84 rfl) (wd hw 4 rfl) (by decide) (by decide)) q59a q59c (g := (mkF m 65 #[(sr x), (si 1), (si ch1), (si 0)] [(.int ch1), (.ref la)])) rfl (by rw [hml]; rfl) (Steps.refl _) (argsL := [(.int ch1)]) (rest := []) (lenOf pd_16 rfl) rfl (by show 2 * 0 + _ ≤ _; exact Nat.le_of_eq rfl) (D d29_65) (fun _ _ => ⟨rfl, e47, (by decide : 2 + 0 ≤ _), (by decide : 64 + 0 ≤ _)⟩)
        dsimp only [Pt.U, Pt.locs, Pt.cells, Pt.slots] at X59 l59 y59 z59 st59 hQ59
        subst l59 y59 z59
        obtain ⟨r1, rfl, rfl, e59, hr1⟩ := hQ59
        have N59 := Fr.app N47 (Fr.nil n0)
        have go59 : Go p e below E0 T59 m 68 #[(sr x), (si 1), (si ch1), (si 0)] [(.int r1)] := fun tgt kont => go58 tgt (st59.trans kont)
        rcases hr1 with ⟨hz1, hs1⟩ | ⟨hz1, hs1⟩
        · have go60 : Go p e below E0 T59 m 73 #[(sr x), (si 1), (si ch1), (si 0)] [] := fun tgt kont => go59 tgt (by
            refine XS.ifYes X59.here hx rfl (pc0 := 68) (pc' := 73) rfl (D d29_68) rfl ((if0 _ _).trans (flt hz1).2.1) (by decide) (by decide) ?_; exact kont)
          have tk1 : own_tc ch1 := Or.inr hs1
          have go61 : Go p e below E0 T59 m 4 #[(sr x), (si 2), (si ch1), (si 0)] [(.ref x), (.int 2)] := fun tgt kont => go60 tgt (by
            refine XS.iinc X59.here hx rfl (D d29_73) rfl (l' := #[(sr x), (si 2), (si ch1), (si 0)]) rfl ?_; refine XS.goto X59.here hx rfl (pc0 := 76) (pc' := 2) rfl (D d29_76) (by decide) (by decide) ?_; refine XS.iloadN X59.here hx rfl (D d29_2) rfl ?_; refine XS.aloadN X59.here hx rfl (D d29_3) rfl rfl ?_; exact kont)
          obtain ⟨cq62, kq62, q62a, q62b, q62c⟩ := isOf hZ36 e59 f45
          obtain ⟨_, _, ⟨T62, L62, k62, n62⟩, -, X62, ⟨Lc62, hQ62, l62, y62, z62⟩, st62⟩ := X59.virtualBack hx (y := (⟨"java/lang/String", "length", "()I"⟩ : MethodName)) (z := (⟨"java/lang/String", "length", "()I"⟩ : MethodName)) hown36 (mvT hZ36 (wd hw 27 rfl)) (mvT hZ36 (wd hw 28 rfl)) (notFace_of_selects (args := #[]) (mvT hZ36 (wd hw 30 rfl))) (mvT hZ36 (wd hw 30 rfl)) (mvT hZ36 (wd hw 29 rfl)) (by decide) (backOf (W := 1) (rmE2 l Z a0 hw [] x ch0 ch1 G fv h36 n0 z37 SE36 kch0 kch1 W0 f39) hZ36 (wd hw 31 rfl) (wd hw 4 rfl) (by decide) (by decide)) q62a q62c (g := (mkF m 4 #[(sr x), (si 2), (si ch1), (si 0)] [(.ref x), (.int 2)])) rfl (by rw [hml]; rfl) (Steps.refl _) (argsL := []) (rest := [(.int (2 : Int32))]) (lenOf pd_15 rfl) rfl (by show 2 * 0 + _ ≤ _; exact Nat.le_of_eq rfl) (D d29_4) (fun _ _ => ⟨rfl, e59, (by decide : 2 + 0 ≤ _), (by decide : 64 + 0 ≤ _)⟩)
          dsimp only [Pt.U, Pt.locs, Pt.cells, Pt.slots] at X62 l62 y62 z62 st62 hQ62
          subst l62 y62 z62
          obtain ⟨rfl, rfl, e62⟩ := hQ62
          have N62 := Fr.app N59 (Fr.nil n0)
          have go62 : Go p e below E0 T62 m 7 #[(sr x), (si 2), (si ch1), (si 0)] [(.int 2), (.int 2)] := fun tgt kont => go61 tgt (st62.trans kont)
          have go63 : Go p e below E0 T62 m 80 #[(sr x), (si 2), (si ch1), (si 0)] [(.ref x)] := fun tgt kont => go62 tgt (by
            refine XS.icmpYes X62.here hx rfl (pc0 := 7) (pc' := 79) rfl (D d29_7) rfl (flt (by decide)).2.1 (by decide) (by decide) ?_; refine XS.aloadN X62.here hx rfl (D d29_79) rfl rfl ?_; exact kont)
          obtain ⟨cq64, kq64, q64a, q64b, q64c⟩ := isOf hZ36 e62 f45
          obtain ⟨_, _, ⟨T64, L64, k64, n64⟩, -, X64, ⟨Lc64, hQ64, l64, y64, z64⟩, st64⟩ := X62.virtualBack hx (y := (⟨"java/lang/String", "isEmpty", "()Z"⟩ : MethodName)) (z := (⟨"java/lang/String", "isEmpty", "()Z"⟩ : MethodName)) hown36 (mvT hZ36 (wd hw 38 rfl)) (mvT hZ36 (wd hw 39 rfl)) (notFace_of_selects (args := #[]) (mvT hZ36 (wd hw 41 rfl))) (mvT hZ36 (wd hw 41 rfl)) (mvT hZ36 (wd hw 40 rfl)) (by decide) (backOf (W := 0) (rmM2 l Z a0 hw [] x ch0 ch1 G fv h36 n0 z37 SE36 kch0 kch1 W0 f39) hZ36 (wd hw 42 rfl) (wd hw 4 rfl) (by decide) (by decide)) q64a q64c (g := (mkF m 80 #[(sr x), (si 2), (si ch1), (si 0)] [(.ref x)])) rfl (by rw [hml]; rfl) (Steps.refl _) (argsL := []) (rest := []) (lenOf pd_10 rfl) rfl (by show 2 * 0 + _ ≤ _; exact Nat.le_of_eq rfl) (D d29_80) (fun _ _ => ⟨rfl, e62, (by decide : 2 + 0 ≤ _), (by decide : 64 + 0 ≤ _)⟩)
          dsimp only [Pt.U, Pt.locs, Pt.cells, Pt.slots] at X64 l64 y64 z64 st64 hQ64
          subst l64 y64 z64
          obtain ⟨rfl, rfl, e64⟩ := hQ64
          have N64 := Fr.app N62 (Fr.nil n0)
          have go64 : Go p e below E0 T64 m 83 #[(sr x), (si 2), (si ch1), (si 0)] [(.int 0)] := fun tgt kont => go63 tgt (st64.trans kont)
          have go65 : Go p e below E0 T64 m 91 #[(sr x), (si 2), (si ch1), (si 0)] [(.int 1)] := fun tgt kont => go64 tgt (by
            refine XS.ifNo X64.here hx rfl (D d29_83) rfl ((if0 _ _).trans (teq rfl).2) ?_; refine XS.iconst X64.here hx rfl (D d29_86) ?_; refine XS.goto X64.here hx rfl (pc0 := 87) (pc' := 91) rfl (D d29_87) (by decide) (by decide) ?_; exact kont)
          obtain ⟨fs, hr, hrun, hended, hW⟩ := X64.leaveW hS36 (by rw [e64]; exact hk36) (v := some (.int (1 : Int32))) (fun h => by rw [Bd.returns] at h; cases h)
          refine ⟨_, _, go65 _ ?_, hrun, hended, _, _, rfl, ?_, hW.1, hW.2.1, hW.2.2.1, hW.2.2.2.mono (by decide) (by decide)⟩
          · show Steps p.tables e below (T64.setTop (mkF m 91 #[(sr x), (si 2), (si ch1), (si 0)] [(.int 1)])) _
            exact retN X64 hx (t := .boolean) Bd.returns (by simp) (D d29_91) hr
          · show QT2 Z x ch0 ch1 G fv h0 n0 _ T64.heap _ T64.vm
            rw [e64]
            exact ⟨_, rfl, N64, K38, Or.inl ⟨rfl, ⟨tk0, tk1⟩⟩⟩
        · have go66 : Go p e below E0 T59 m 72 #[(sr x), (si 1), (si ch1), (si 0)] [(.int 0)] := fun tgt kont => go59 tgt (by
            refine XS.ifNo X59.here hx rfl (D d29_68) rfl ((if0 _ _).trans (tlt hz1).2.1) ?_; refine XS.iconst X59.here hx rfl (D d29_71) ?_; exact kont)
          obtain ⟨fs, hr, hrun, hended, hW⟩ := X59.leaveW hS36 (by rw [e59]; exact hk36) (v := some (.int (0 : Int32))) (fun h => by rw [Bd.returns] at h; cases h)
          refine ⟨_, _, go66 _ ?_, hrun, hended, _, _, rfl, ?_, hW.1, hW.2.1, hW.2.2.1, hW.2.2.2.mono (by decide) (by decide)⟩
          · show Steps p.tables e below (T59.setTop (mkF m 72 #[(sr x), (si 1), (si ch1), (si 0)] [(.int 0)])) _
            exact retN X59 hx (t := .boolean) Bd.returns (by simp) (D d29_72) hr
          · show QT2 Z x ch0 ch1 G fv h0 n0 _ T59.heap _ T59.vm
            rw [e59]
            exact ⟨_, rfl, N59, K38, Or.inr ⟨rfl, fun q => (q.2).elim ha1 hs1⟩⟩
    · have go67 : Go p e below E0 T41 m 72 #[(sr x), (si 0), (si ch0), (si 0)] [(.int 0)] := fun tgt kont => go41 tgt (by
        refine XS.ifNo X41.here hx rfl (D d29_68) rfl ((if0 _ _).trans (tlt hz0).2.1) ?_; refine XS.iconst X41.here hx rfl (D d29_71) ?_; exact kont)
      obtain ⟨fs, hr, hrun, hended, hW⟩ := X41.leaveW hS36 (by rw [e41]; exact hk36) (v := some (.int (0 : Int32))) (fun h => by rw [Bd.returns] at h; cases h)
      refine ⟨_, _, go67 _ ?_, hrun, hended, _, _, rfl, ?_, hW.1, hW.2.1, hW.2.2.1, hW.2.2.2.mono (by decide) (by decide)⟩
      · show Steps p.tables e below (T41.setTop (mkF m 72 #[(sr x), (si 0), (si ch0), (si 0)] [(.int 0)])) _
        exact retN X41 hx (t := .boolean) Bd.returns (by simp) (D d29_72) hr
      · show QT2 Z x ch0 ch1 G fv h0 n0 _ T41.heap _ T41.vm
        rw [e41]
        exact ⟨_, rfl, N41, K38, Or.inr ⟨rfl, fun q => (q.1).elim ha0 hs0⟩⟩
theorem ef_T3 (m : MethodId) (x0 : Addr) : entryFrame m #[(.ref x0)] 4 = mkF m 0 #[.val (.ref x0), .unset, .unset, .unset] [] := by first | (simp [entryFrame, mkF, argsToLocals, Value.category, maxLocals]; done) | rfl
def QT3 (Z : State) (x : Addr) (ch0 : Int32) (ch1 : Int32) (ch2 : Int32) (G : Int32) (fv : Value) (h0 : Heap) (n0 : Nat) (v : Option Value) (h : Heap) (L : List Loc) (vm : Vm) : Prop := ∃ r : Int32, v = some (.int r) ∧ Fr n0 L ∧ Keep h0 h [] ∧ ((r = 1 ∧ (own_tc ch0 ∧ own_tc ch1 ∧ own_tc ch2)) ∨ (r = 0 ∧ ¬ (own_tc ch0 ∧ own_tc ch1 ∧ own_tc ch2)))
abbrev RmT3 : Room := ({ frames := 5, cells := 2, slots := 64, locals := 66 } : Room)
set_option maxRecDepth 65536 in
set_option maxHeartbeats 40000000 in
theorem rmT3 (l : Launch) (Z : State) (a0 : Array Value) (hw : ∀ d ∈ tables_1, d.before a0 Z = true) (ws : List Jvm.Cond) (x : Addr) (ch0 : Int32) (ch1 : Int32) (ch2 : Int32) (G : Int32) (fv : Value) (h0 : Heap) (n0 : Nat) (Z0 : n0 ≤ h0.size) (S0 : own_S3 Z h0 x ch0 ch1 ch2) (kch0 : own_ch ch0) (kch1 : own_ch ch1) (kch2 : own_ch ch2) (hH3 : Jvm.Lit.constHeld Z "com/example/ample_dispatch/ampledispatch/FieldValues" 30) (hCW : Jvm.Lit.compactW.before a0 Z = true) (W0 : own_W Z G fv) (O0 : Old Z n0 h0) :
    MetFree l (⟨"com/example/ample_dispatch/ampledispatch/FieldValues", "isToken", "(Ljava/lang/String;)Z"⟩ : MethodName) (head1 (Jvm.Cond.code (⟨"com/example/ample_dispatch/ampledispatch/FieldValues", "isToken", "(Ljava/lang/String;)Z"⟩ : MethodName) prog_11_method_4_code 4 (some .boolean) :: ws) RmT3) (fun as_ U => as_ = #[(.ref x)] ∧ Z.Warmed39 U.vm ∧ U.heap = h0 ∧ (own_I Z) U.vm) (fun _ _ _ _ _ => True) (fun _ U o U' => ∃ v L, o = .returned v ∧ QT3 Z x ch0 ch1 ch2 G fv h0 n0 v U'.heap L U'.vm ∧ ReturnedEndW U o U' L RmT3.cells RmT3.slots) := by
  refine MetFree.of_bodySF (plainFor_of_name pn_23) hisR ?_
  intro p e s m args below meth c s₁ Bd hml0 hP hK
  obtain ⟨rfl, hZ, hh, hJ0⟩ := hP
  have hx := Bd.exec
  have hby := Bd.bytes
  have D : ∀ {pc : Nat} {r : Except DecodeError (Instr × Nat)}, decode prog_11_method_4_code pc = r → decode c.code pc = r := fun q => hb hby q
  have hml : c.maxLocals = 4 := hml0
  have hown : s.vm.findClass "com/example/ample_dispatch/ampledispatch/FieldValues" = some m.cls := findClass_of_methodNamed Bd.named
  have hnm := (name_of_methodNamed Bd.named Bd.method).1
  have X0 : Stand p l e RmT3 (s.setVm s.vm) m #[(.ref x)] below meth c s₁ [] 0 0 := Stand.of_body Bd
  have e0 : s₁.heap = h0 := by rw [← hh, Bd.state]; rfl
  have N0 := Fr.nil n0
  obtain ⟨E0, hE0⟩ : ∃ z, z = s₁.setTop (entryFrame m #[(.ref x)] 4) := ⟨_, rfl⟩
  rw [← hE0]
  have go0 : ∀ tgt, Steps p.tables e below (s₁.setTop (mkF m 0 #[(sr x), .unset, .unset, .unset] [])) tgt → Steps p.tables e below E0 tgt := fun tgt kont => by rw [hE0]; exact castTop (ef_T3 m x) kont
  have hS0 : s.Since s.vm h0.size := (State.WarmedH.refl s).since _
  have hk0 : h0.size ≤ h0.size := Nat.le_refl _
  have hwS : ∀ a ∈ Bundle.stringAtoms, a.before a0 Z = true := fun d hd => hw d ((by decide +kernel : ∀ d ∈ Bundle.stringAtoms, d ∈ tables_1) d hd)
  have Ex := S0.choose_spec.choose_spec.1
  have go1 : Go p e below E0 s₁ m 4 #[(sr x), (si 0), .unset, .unset] [(.ref x), (.int 0)] := fun tgt kont => go0 tgt (by
    refine XS.iconst X0.here hx rfl (D d29_0) ?_; refine XS.istoreN X0.here hx rfl (D d29_1) rfl (l' := #[(sr x), (si 0), .unset, .unset]) rfl ?_; refine XS.iloadN X0.here hx rfl (D d29_2) rfl ?_; refine XS.aloadN X0.here hx rfl (D d29_3) rfl rfl ?_; exact kont)
  obtain ⟨cq2, kq2, q2a, q2b, q2c⟩ := isOf hZ e0 Ex
  obtain ⟨_, _, ⟨T2, L2, k2, n2⟩, -, X2, ⟨Lc2, hQ2, l2, y2, z2⟩, st2⟩ := X0.virtualBack hx (y := (⟨"java/lang/String", "length", "()I"⟩ : MethodName)) (z := (⟨"java/lang/String", "length", "()I"⟩ : MethodName)) hown (mvT hZ (wd hw 27 rfl)) (mvT hZ (wd hw 28 rfl)) (notFace_of_selects (args := #[]) (mvT hZ (wd hw 30 rfl))) (mvT hZ (wd hw 30 rfl)) (mvT hZ (wd hw 29 rfl)) (by decide) (backOf (W := 1) (rmE3 l Z a0 hw [] x ch0 ch1 ch2 G fv h0 n0 Z0 S0 kch0 kch1 kch2 W0 O0) hZ (wd hw 31 rfl) (wd hw 4 rfl) (by decide) (by decide)) q2a q2c (g := (mkF m 4 #[(sr x), (si 0), .unset, .unset] [(.ref x), (.int 0)])) rfl (by rw [hml]; rfl) (Steps.refl _) (argsL := []) (rest := [(.int (0 : Int32))]) (lenOf pd_15 rfl) rfl (by show 2 * 0 + _ ≤ _; exact Nat.le_of_eq rfl) (D d29_4) (fun _ _ => ⟨rfl, e0, (by decide : 0 + 0 ≤ _), (by decide : 0 + 0 ≤ _)⟩)
  dsimp only [Pt.U, Pt.locs, Pt.cells, Pt.slots] at X2 l2 y2 z2 st2 hQ2
  subst l2 y2 z2
  obtain ⟨rfl, rfl, e2⟩ := hQ2
  have N2 := Fr.app N0 (Fr.nil n0)
  have go2 : Go p e below E0 T2 m 7 #[(sr x), (si 0), .unset, .unset] [(.int 3), (.int 0)] := fun tgt kont => go1 tgt (st2.trans kont)
  have go3 : Go p e below E0 T2 m 12 #[(sr x), (si 0), .unset, .unset] [(.int 0), (.ref x)] := fun tgt kont => go2 tgt (by
    refine XS.icmpNo X2.here hx rfl (D d29_7) rfl (tlt (by decide)).2.1 ?_; refine XS.aloadN X2.here hx rfl (D d29_10) rfl rfl ?_; refine XS.iloadN X2.here hx rfl (D d29_11) rfl ?_; exact kont)
  obtain ⟨cq4, kq4, q4a, q4b, q4c⟩ := isOf hZ e2 Ex
  obtain ⟨_, _, ⟨T4, L4, k4, n4⟩, -, X4, ⟨Lc4, hQ4, l4, y4, z4⟩, st4⟩ := X2.virtualBack hx (y := (⟨"java/lang/String", "charAt", "(I)C"⟩ : MethodName)) (z := (⟨"java/lang/String", "charAt", "(I)C"⟩ : MethodName)) hown (mvT hZ (wd hw 57 rfl)) (mvT hZ (wd hw 58 rfl)) (notFace_of_selects (args := #[]) (mvT hZ (wd hw 60 rfl))) (mvT hZ (wd hw 60 rfl)) (mvT hZ (wd hw 59 rfl)) (by decide) (backOf (W := 0) (rmC30 l Z a0 hw [] x ch0 ch1 ch2 G fv h0 n0 Z0 S0 kch0 kch1 kch2 W0 O0) hZ (wd hw 61 rfl) (wd hw 4 rfl) (by decide) (by decide)) q4a q4c (g := (mkF m 12 #[(sr x), (si 0), .unset, .unset] [(.int 0), (.ref x)])) rfl (by rw [hml]; rfl) (Steps.refl _) (argsL := [(.int (0 : Int32))]) (rest := []) (lenOf pd_24 rfl) rfl (by show 2 * 0 + _ ≤ _; exact Nat.le_of_eq rfl) (D d29_12) (fun _ _ => ⟨rfl, e2, (by decide : 0 + 0 ≤ _), (by decide : 0 + 0 ≤ _)⟩)
  dsimp only [Pt.U, Pt.locs, Pt.cells, Pt.slots] at X4 l4 y4 z4 st4 hQ4
  subst l4 y4 z4
  obtain ⟨rfl, rfl, e4⟩ := hQ4
  have N4 := Fr.app N2 (Fr.nil n0)
  have go4 : Go p e below E0 T4 m 15 #[(sr x), (si 0), .unset, .unset] [(.int ch0)] := fun tgt kont => go3 tgt (st4.trans kont)
  have go5 : Go p e below E0 T4 m 16 #[(sr x), (si 0), (si ch0), .unset] [] := fun tgt kont => go4 tgt (by
    refine XS.istoreN X4.here hx rfl (D d29_15) rfl (l' := #[(sr x), (si 0), (si ch0), .unset]) rfl ?_; exact kont)
  obtain ⟨b0, hb0, go6⟩ : ∃ b0 : Int32, ((b0 = 1 ∧ own_an ch0) ∨ (b0 = 0 ∧ ¬ own_an ch0)) ∧ Go p e below E0 T4 m 58 #[(sr x), (si 0), (si ch0), (si b0)] [] := by
    by_cases y0 : ch0 < (97 : Int32)
    · by_cases y1 : ch0 < (65 : Int32)
      · by_cases y2 : ch0 < (48 : Int32)
        · exact ⟨(0 : Int32), Or.inr ⟨rfl, (by simp only [own_tc, own_an, own_sp, Int32.lt_iff_toInt_lt, ← Int32.toInt_inj, Int32.reduceToInt] at y0 y1 y2 ⊢; omega)⟩, fun tgt kont => go5 tgt (by refine XS.iloadN X4.here hx rfl (D d29_16) rfl ?_; refine XS.bipush X4.here hx rfl (D d29_17) ?_; refine XS.icmpYes X4.here hx rfl (pc0 := 19) (pc' := 28) rfl (D d29_19) rfl (tlt y0).1 (by decide) (by decide) ?_; refine XS.iloadN X4.here hx rfl (D d29_28) rfl ?_; refine XS.bipush X4.here hx rfl (D d29_29) ?_; refine XS.icmpYes X4.here hx rfl (pc0 := 31) (pc' := 40) rfl (D d29_31) rfl (tlt y1).1 (by decide) (by decide) ?_; refine XS.iloadN X4.here hx rfl (D d29_40) rfl ?_; refine XS.bipush X4.here hx rfl (D d29_41) ?_; refine XS.icmpYes X4.here hx rfl (pc0 := 43) (pc' := 56) rfl (D d29_43) rfl (tlt y2).1 (by decide) (by decide) ?_; refine XS.iconst X4.here hx rfl (D d29_56) ?_; refine XS.istoreN X4.here hx rfl (D d29_57) rfl (l' := #[(sr x), (si 0), (si ch0), (si 0)]) rfl ?_; exact kont)⟩
        · by_cases y3 : (57 : Int32) < ch0
          · exact ⟨(0 : Int32), Or.inr ⟨rfl, (by simp only [own_tc, own_an, own_sp, Int32.lt_iff_toInt_lt, ← Int32.toInt_inj, Int32.reduceToInt] at y0 y1 y2 y3 ⊢; omega)⟩, fun tgt kont => go5 tgt (by refine XS.iloadN X4.here hx rfl (D d29_16) rfl ?_; refine XS.bipush X4.here hx rfl (D d29_17) ?_; refine XS.icmpYes X4.here hx rfl (pc0 := 19) (pc' := 28) rfl (D d29_19) rfl (tlt y0).1 (by decide) (by decide) ?_; refine XS.iloadN X4.here hx rfl (D d29_28) rfl ?_; refine XS.bipush X4.here hx rfl (D d29_29) ?_; refine XS.icmpYes X4.here hx rfl (pc0 := 31) (pc' := 40) rfl (D d29_31) rfl (tlt y1).1 (by decide) (by decide) ?_; refine XS.iloadN X4.here hx rfl (D d29_40) rfl ?_; refine XS.bipush X4.here hx rfl (D d29_41) ?_; refine XS.icmpNo X4.here hx rfl (D d29_43) rfl (flt y2).1 ?_; refine XS.iloadN X4.here hx rfl (D d29_46) rfl ?_; refine XS.bipush X4.here hx rfl (D d29_47) ?_; refine XS.icmpYes X4.here hx rfl (pc0 := 49) (pc' := 56) rfl (D d29_49) rfl (tlt y3).2.2.1 (by decide) (by decide) ?_; refine XS.iconst X4.here hx rfl (D d29_56) ?_; refine XS.istoreN X4.here hx rfl (D d29_57) rfl (l' := #[(sr x), (si 0), (si ch0), (si 0)]) rfl ?_; exact kont)⟩
          · exact ⟨(1 : Int32), Or.inl ⟨rfl, (by simp only [own_tc, own_an, own_sp, Int32.lt_iff_toInt_lt, ← Int32.toInt_inj, Int32.reduceToInt] at y0 y1 y2 y3 ⊢; omega)⟩, fun tgt kont => go5 tgt (by refine XS.iloadN X4.here hx rfl (D d29_16) rfl ?_; refine XS.bipush X4.here hx rfl (D d29_17) ?_; refine XS.icmpYes X4.here hx rfl (pc0 := 19) (pc' := 28) rfl (D d29_19) rfl (tlt y0).1 (by decide) (by decide) ?_; refine XS.iloadN X4.here hx rfl (D d29_28) rfl ?_; refine XS.bipush X4.here hx rfl (D d29_29) ?_; refine XS.icmpYes X4.here hx rfl (pc0 := 31) (pc' := 40) rfl (D d29_31) rfl (tlt y1).1 (by decide) (by decide) ?_; refine XS.iloadN X4.here hx rfl (D d29_40) rfl ?_; refine XS.bipush X4.here hx rfl (D d29_41) ?_; refine XS.icmpNo X4.here hx rfl (D d29_43) rfl (flt y2).1 ?_; refine XS.iloadN X4.here hx rfl (D d29_46) rfl ?_; refine XS.bipush X4.here hx rfl (D d29_47) ?_; refine XS.icmpNo X4.here hx rfl (D d29_49) rfl (flt y3).2.2.1 ?_; refine XS.iconst X4.here hx rfl (D d29_52) ?_; refine XS.goto X4.here hx rfl (pc0 := 53) (pc' := 57) rfl (D d29_53) (by decide) (by decide) ?_; refine XS.istoreN X4.here hx rfl (D d29_57) rfl (l' := #[(sr x), (si 0), (si ch0), (si 1)]) rfl ?_; exact kont)⟩
      · by_cases y2 : (90 : Int32) < ch0
        · exact ⟨(0 : Int32), Or.inr ⟨rfl, (by simp only [own_tc, own_an, own_sp, Int32.lt_iff_toInt_lt, ← Int32.toInt_inj, Int32.reduceToInt] at y0 y1 y2 ⊢; omega)⟩, fun tgt kont => go5 tgt (by refine XS.iloadN X4.here hx rfl (D d29_16) rfl ?_; refine XS.bipush X4.here hx rfl (D d29_17) ?_; refine XS.icmpYes X4.here hx rfl (pc0 := 19) (pc' := 28) rfl (D d29_19) rfl (tlt y0).1 (by decide) (by decide) ?_; refine XS.iloadN X4.here hx rfl (D d29_28) rfl ?_; refine XS.bipush X4.here hx rfl (D d29_29) ?_; refine XS.icmpNo X4.here hx rfl (D d29_31) rfl (flt y1).1 ?_; refine XS.iloadN X4.here hx rfl (D d29_34) rfl ?_; refine XS.bipush X4.here hx rfl (D d29_35) ?_; refine XS.icmpNo X4.here hx rfl (D d29_37) rfl (tlt y2).2.2.2 ?_; refine XS.iloadN X4.here hx rfl (D d29_40) rfl ?_; refine XS.bipush X4.here hx rfl (D d29_41) ?_; refine XS.icmpNo X4.here hx rfl (D d29_43) rfl (flt (by simp only [Int32.lt_iff_toInt_lt, ← Int32.toInt_inj, Int32.reduceToInt] at y0 y1 y2 ⊢; omega : ¬ ch0 < (48 : Int32))).1 ?_; refine XS.iloadN X4.here hx rfl (D d29_46) rfl ?_; refine XS.bipush X4.here hx rfl (D d29_47) ?_; refine XS.icmpYes X4.here hx rfl (pc0 := 49) (pc' := 56) rfl (D d29_49) rfl (tlt (by simp only [Int32.lt_iff_toInt_lt, ← Int32.toInt_inj, Int32.reduceToInt] at y0 y1 y2 ⊢; omega : (57 : Int32) < ch0)).2.2.1 (by decide) (by decide) ?_; refine XS.iconst X4.here hx rfl (D d29_56) ?_; refine XS.istoreN X4.here hx rfl (D d29_57) rfl (l' := #[(sr x), (si 0), (si ch0), (si 0)]) rfl ?_; exact kont)⟩
        · exact ⟨(1 : Int32), Or.inl ⟨rfl, (by simp only [own_tc, own_an, own_sp, Int32.lt_iff_toInt_lt, ← Int32.toInt_inj, Int32.reduceToInt] at y0 y1 y2 ⊢; omega)⟩, fun tgt kont => go5 tgt (by refine XS.iloadN X4.here hx rfl (D d29_16) rfl ?_; refine XS.bipush X4.here hx rfl (D d29_17) ?_; refine XS.icmpYes X4.here hx rfl (pc0 := 19) (pc' := 28) rfl (D d29_19) rfl (tlt y0).1 (by decide) (by decide) ?_; refine XS.iloadN X4.here hx rfl (D d29_28) rfl ?_; refine XS.bipush X4.here hx rfl (D d29_29) ?_; refine XS.icmpNo X4.here hx rfl (D d29_31) rfl (flt y1).1 ?_; refine XS.iloadN X4.here hx rfl (D d29_34) rfl ?_; refine XS.bipush X4.here hx rfl (D d29_35) ?_; refine XS.icmpYes X4.here hx rfl (pc0 := 37) (pc' := 52) rfl (D d29_37) rfl (flt y2).2.2.2 (by decide) (by decide) ?_; refine XS.iconst X4.here hx rfl (D d29_52) ?_; refine XS.goto X4.here hx rfl (pc0 := 53) (pc' := 57) rfl (D d29_53) (by decide) (by decide) ?_; refine XS.istoreN X4.here hx rfl (D d29_57) rfl (l' := #[(sr x), (si 0), (si ch0), (si 1)]) rfl ?_; exact kont)⟩
    · by_cases y1 : (122 : Int32) < ch0
      · exact ⟨(0 : Int32), Or.inr ⟨rfl, (by simp only [own_tc, own_an, own_sp, Int32.lt_iff_toInt_lt, ← Int32.toInt_inj, Int32.reduceToInt] at y0 y1 ⊢; omega)⟩, fun tgt kont => go5 tgt (by refine XS.iloadN X4.here hx rfl (D d29_16) rfl ?_; refine XS.bipush X4.here hx rfl (D d29_17) ?_; refine XS.icmpNo X4.here hx rfl (D d29_19) rfl (flt y0).1 ?_; refine XS.iloadN X4.here hx rfl (D d29_22) rfl ?_; refine XS.bipush X4.here hx rfl (D d29_23) ?_; refine XS.icmpNo X4.here hx rfl (D d29_25) rfl (tlt y1).2.2.2 ?_; refine XS.iloadN X4.here hx rfl (D d29_28) rfl ?_; refine XS.bipush X4.here hx rfl (D d29_29) ?_; refine XS.icmpNo X4.here hx rfl (D d29_31) rfl (flt (by simp only [Int32.lt_iff_toInt_lt, ← Int32.toInt_inj, Int32.reduceToInt] at y0 y1 ⊢; omega : ¬ ch0 < (65 : Int32))).1 ?_; refine XS.iloadN X4.here hx rfl (D d29_34) rfl ?_; refine XS.bipush X4.here hx rfl (D d29_35) ?_; refine XS.icmpNo X4.here hx rfl (D d29_37) rfl (tlt (by simp only [Int32.lt_iff_toInt_lt, ← Int32.toInt_inj, Int32.reduceToInt] at y0 y1 ⊢; omega : (90 : Int32) < ch0)).2.2.2 ?_; refine XS.iloadN X4.here hx rfl (D d29_40) rfl ?_; refine XS.bipush X4.here hx rfl (D d29_41) ?_; refine XS.icmpNo X4.here hx rfl (D d29_43) rfl (flt (by simp only [Int32.lt_iff_toInt_lt, ← Int32.toInt_inj, Int32.reduceToInt] at y0 y1 ⊢; omega : ¬ ch0 < (48 : Int32))).1 ?_; refine XS.iloadN X4.here hx rfl (D d29_46) rfl ?_; refine XS.bipush X4.here hx rfl (D d29_47) ?_; refine XS.icmpYes X4.here hx rfl (pc0 := 49) (pc' := 56) rfl (D d29_49) rfl (tlt (by simp only [Int32.lt_iff_toInt_lt, ← Int32.toInt_inj, Int32.reduceToInt] at y0 y1 ⊢; omega : (57 : Int32) < ch0)).2.2.1 (by decide) (by decide) ?_; refine XS.iconst X4.here hx rfl (D d29_56) ?_; refine XS.istoreN X4.here hx rfl (D d29_57) rfl (l' := #[(sr x), (si 0), (si ch0), (si 0)]) rfl ?_; exact kont)⟩
      · exact ⟨(1 : Int32), Or.inl ⟨rfl, (by simp only [own_tc, own_an, own_sp, Int32.lt_iff_toInt_lt, ← Int32.toInt_inj, Int32.reduceToInt] at y0 y1 ⊢; omega)⟩, fun tgt kont => go5 tgt (by refine XS.iloadN X4.here hx rfl (D d29_16) rfl ?_; refine XS.bipush X4.here hx rfl (D d29_17) ?_; refine XS.icmpNo X4.here hx rfl (D d29_19) rfl (flt y0).1 ?_; refine XS.iloadN X4.here hx rfl (D d29_22) rfl ?_; refine XS.bipush X4.here hx rfl (D d29_23) ?_; refine XS.icmpYes X4.here hx rfl (pc0 := 25) (pc' := 52) rfl (D d29_25) rfl (flt y1).2.2.2 (by decide) (by decide) ?_; refine XS.iconst X4.here hx rfl (D d29_52) ?_; refine XS.goto X4.here hx rfl (pc0 := 53) (pc' := 57) rfl (D d29_53) (by decide) (by decide) ?_; refine XS.istoreN X4.here hx rfl (D d29_57) rfl (l' := #[(sr x), (si 0), (si ch0), (si 1)]) rfl ?_; exact kont)⟩
  rcases hb0 with ⟨rfl, ha0⟩ | ⟨rfl, ha0⟩
  · have go7 : Go p e below E0 T4 m 73 #[(sr x), (si 0), (si ch0), (si 1)] [] := fun tgt kont => go6 tgt (by
      refine XS.iloadN X4.here hx rfl (D d29_58) rfl ?_; refine XS.ifYes X4.here hx rfl (pc0 := 59) (pc' := 73) rfl (D d29_59) rfl ((if0 _ _).trans (feq (by decide)).2) (by decide) (by decide) ?_; exact kont)
    have tk0 : own_tc ch0 := Or.inl ha0
    have go8 : Go p e below E0 T4 m 4 #[(sr x), (si 1), (si ch0), (si 1)] [(.ref x), (.int 1)] := fun tgt kont => go7 tgt (by
      refine XS.iinc X4.here hx rfl (D d29_73) rfl (l' := #[(sr x), (si 1), (si ch0), (si 1)]) rfl ?_; refine XS.goto X4.here hx rfl (pc0 := 76) (pc' := 2) rfl (D d29_76) (by decide) (by decide) ?_; refine XS.iloadN X4.here hx rfl (D d29_2) rfl ?_; refine XS.aloadN X4.here hx rfl (D d29_3) rfl rfl ?_; exact kont)
    obtain ⟨cq9, kq9, q9a, q9b, q9c⟩ := isOf hZ e4 Ex
    obtain ⟨_, _, ⟨T9, L9, k9, n9⟩, -, X9, ⟨Lc9, hQ9, l9, y9, z9⟩, st9⟩ := X4.virtualBack hx (y := (⟨"java/lang/String", "length", "()I"⟩ : MethodName)) (z := (⟨"java/lang/String", "length", "()I"⟩ : MethodName)) hown (mvT hZ (wd hw 27 rfl)) (mvT hZ (wd hw 28 rfl)) (notFace_of_selects (args := #[]) (mvT hZ (wd hw 30 rfl))) (mvT hZ (wd hw 30 rfl)) (mvT hZ (wd hw 29 rfl)) (by decide) (backOf (W := 1) (rmE3 l Z a0 hw [] x ch0 ch1 ch2 G fv h0 n0 Z0 S0 kch0 kch1 kch2 W0 O0) hZ (wd hw 31 rfl) (wd hw 4 rfl) (by decide) (by decide)) q9a q9c (g := (mkF m 4 #[(sr x), (si 1), (si ch0), (si 1)] [(.ref x), (.int 1)])) rfl (by rw [hml]; rfl) (Steps.refl _) (argsL := []) (rest := [(.int (1 : Int32))]) (lenOf pd_15 rfl) rfl (by show 2 * 0 + _ ≤ _; exact Nat.le_of_eq rfl) (D d29_4) (fun _ _ => ⟨rfl, e4, (by decide : 0 + 0 ≤ _), (by decide : 0 + 0 ≤ _)⟩)
    dsimp only [Pt.U, Pt.locs, Pt.cells, Pt.slots] at X9 l9 y9 z9 st9 hQ9
    subst l9 y9 z9
    obtain ⟨rfl, rfl, e9⟩ := hQ9
    have N9 := Fr.app N4 (Fr.nil n0)
    have go9 : Go p e below E0 T9 m 7 #[(sr x), (si 1), (si ch0), (si 1)] [(.int 3), (.int 1)] := fun tgt kont => go8 tgt (st9.trans kont)
    have go10 : Go p e below E0 T9 m 12 #[(sr x), (si 1), (si ch0), (si 1)] [(.int 1), (.ref x)] := fun tgt kont => go9 tgt (by
      refine XS.icmpNo X9.here hx rfl (D d29_7) rfl (tlt (by decide)).2.1 ?_; refine XS.aloadN X9.here hx rfl (D d29_10) rfl rfl ?_; refine XS.iloadN X9.here hx rfl (D d29_11) rfl ?_; exact kont)
    obtain ⟨cq11, kq11, q11a, q11b, q11c⟩ := isOf hZ e9 Ex
    obtain ⟨_, _, ⟨T11, L11, k11, n11⟩, -, X11, ⟨Lc11, hQ11, l11, y11, z11⟩, st11⟩ := X9.virtualBack hx (y := (⟨"java/lang/String", "charAt", "(I)C"⟩ : MethodName)) (z := (⟨"java/lang/String", "charAt", "(I)C"⟩ : MethodName)) hown (mvT hZ (wd hw 57 rfl)) (mvT hZ (wd hw 58 rfl)) (notFace_of_selects (args := #[]) (mvT hZ (wd hw 60 rfl))) (mvT hZ (wd hw 60 rfl)) (mvT hZ (wd hw 59 rfl)) (by decide) (backOf (W := 0) (rmC31 l Z a0 hw [] x ch0 ch1 ch2 G fv h0 n0 Z0 S0 kch0 kch1 kch2 W0 O0) hZ (wd hw 61 rfl) (wd hw 4 rfl) (by decide) (by decide)) q11a q11c (g := (mkF m 12 #[(sr x), (si 1), (si ch0), (si 1)] [(.int 1), (.ref x)])) rfl (by rw [hml]; rfl) (Steps.refl _) (argsL := [(.int (1 : Int32))]) (rest := []) (lenOf pd_24 rfl) rfl (by show 2 * 0 + _ ≤ _; exact Nat.le_of_eq rfl) (D d29_12) (fun _ _ => ⟨rfl, e9, (by decide : 0 + 0 ≤ _), (by decide : 0 + 0 ≤ _)⟩)
    dsimp only [Pt.U, Pt.locs, Pt.cells, Pt.slots] at X11 l11 y11 z11 st11 hQ11
    subst l11 y11 z11
    obtain ⟨rfl, rfl, e11⟩ := hQ11
    have N11 := Fr.app N9 (Fr.nil n0)
    have go11 : Go p e below E0 T11 m 15 #[(sr x), (si 1), (si ch0), (si 1)] [(.int ch1)] := fun tgt kont => go10 tgt (st11.trans kont)
    have go12 : Go p e below E0 T11 m 16 #[(sr x), (si 1), (si ch1), (si 1)] [] := fun tgt kont => go11 tgt (by
      refine XS.istoreN X11.here hx rfl (D d29_15) rfl (l' := #[(sr x), (si 1), (si ch1), (si 1)]) rfl ?_; exact kont)
    obtain ⟨b1, hb1, go13⟩ : ∃ b1 : Int32, ((b1 = 1 ∧ own_an ch1) ∨ (b1 = 0 ∧ ¬ own_an ch1)) ∧ Go p e below E0 T11 m 58 #[(sr x), (si 1), (si ch1), (si b1)] [] := by
      by_cases y0 : ch1 < (97 : Int32)
      · by_cases y1 : ch1 < (65 : Int32)
        · by_cases y2 : ch1 < (48 : Int32)
          · exact ⟨(0 : Int32), Or.inr ⟨rfl, (by simp only [own_tc, own_an, own_sp, Int32.lt_iff_toInt_lt, ← Int32.toInt_inj, Int32.reduceToInt] at y0 y1 y2 ⊢; omega)⟩, fun tgt kont => go12 tgt (by refine XS.iloadN X11.here hx rfl (D d29_16) rfl ?_; refine XS.bipush X11.here hx rfl (D d29_17) ?_; refine XS.icmpYes X11.here hx rfl (pc0 := 19) (pc' := 28) rfl (D d29_19) rfl (tlt y0).1 (by decide) (by decide) ?_; refine XS.iloadN X11.here hx rfl (D d29_28) rfl ?_; refine XS.bipush X11.here hx rfl (D d29_29) ?_; refine XS.icmpYes X11.here hx rfl (pc0 := 31) (pc' := 40) rfl (D d29_31) rfl (tlt y1).1 (by decide) (by decide) ?_; refine XS.iloadN X11.here hx rfl (D d29_40) rfl ?_; refine XS.bipush X11.here hx rfl (D d29_41) ?_; refine XS.icmpYes X11.here hx rfl (pc0 := 43) (pc' := 56) rfl (D d29_43) rfl (tlt y2).1 (by decide) (by decide) ?_; refine XS.iconst X11.here hx rfl (D d29_56) ?_; refine XS.istoreN X11.here hx rfl (D d29_57) rfl (l' := #[(sr x), (si 1), (si ch1), (si 0)]) rfl ?_; exact kont)⟩
          · by_cases y3 : (57 : Int32) < ch1
            · exact ⟨(0 : Int32), Or.inr ⟨rfl, (by simp only [own_tc, own_an, own_sp, Int32.lt_iff_toInt_lt, ← Int32.toInt_inj, Int32.reduceToInt] at y0 y1 y2 y3 ⊢; omega)⟩, fun tgt kont => go12 tgt (by refine XS.iloadN X11.here hx rfl (D d29_16) rfl ?_; refine XS.bipush X11.here hx rfl (D d29_17) ?_; refine XS.icmpYes X11.here hx rfl (pc0 := 19) (pc' := 28) rfl (D d29_19) rfl (tlt y0).1 (by decide) (by decide) ?_; refine XS.iloadN X11.here hx rfl (D d29_28) rfl ?_; refine XS.bipush X11.here hx rfl (D d29_29) ?_; refine XS.icmpYes X11.here hx rfl (pc0 := 31) (pc' := 40) rfl (D d29_31) rfl (tlt y1).1 (by decide) (by decide) ?_; refine XS.iloadN X11.here hx rfl (D d29_40) rfl ?_; refine XS.bipush X11.here hx rfl (D d29_41) ?_; refine XS.icmpNo X11.here hx rfl (D d29_43) rfl (flt y2).1 ?_; refine XS.iloadN X11.here hx rfl (D d29_46) rfl ?_; refine XS.bipush X11.here hx rfl (D d29_47) ?_; refine XS.icmpYes X11.here hx rfl (pc0 := 49) (pc' := 56) rfl (D d29_49) rfl (tlt y3).2.2.1 (by decide) (by decide) ?_; refine XS.iconst X11.here hx rfl (D d29_56) ?_; refine XS.istoreN X11.here hx rfl (D d29_57) rfl (l' := #[(sr x), (si 1), (si ch1), (si 0)]) rfl ?_; exact kont)⟩
            · exact ⟨(1 : Int32), Or.inl ⟨rfl, (by simp only [own_tc, own_an, own_sp, Int32.lt_iff_toInt_lt, ← Int32.toInt_inj, Int32.reduceToInt] at y0 y1 y2 y3 ⊢; omega)⟩, fun tgt kont => go12 tgt (by refine XS.iloadN X11.here hx rfl (D d29_16) rfl ?_; refine XS.bipush X11.here hx rfl (D d29_17) ?_; refine XS.icmpYes X11.here hx rfl (pc0 := 19) (pc' := 28) rfl (D d29_19) rfl (tlt y0).1 (by decide) (by decide) ?_; refine XS.iloadN X11.here hx rfl (D d29_28) rfl ?_; refine XS.bipush X11.here hx rfl (D d29_29) ?_; refine XS.icmpYes X11.here hx rfl (pc0 := 31) (pc' := 40) rfl (D d29_31) rfl (tlt y1).1 (by decide) (by decide) ?_; refine XS.iloadN X11.here hx rfl (D d29_40) rfl ?_; refine XS.bipush X11.here hx rfl (D d29_41) ?_; refine XS.icmpNo X11.here hx rfl (D d29_43) rfl (flt y2).1 ?_; refine XS.iloadN X11.here hx rfl (D d29_46) rfl ?_; refine XS.bipush X11.here hx rfl (D d29_47) ?_; refine XS.icmpNo X11.here hx rfl (D d29_49) rfl (flt y3).2.2.1 ?_; refine XS.iconst X11.here hx rfl (D d29_52) ?_; refine XS.goto X11.here hx rfl (pc0 := 53) (pc' := 57) rfl (D d29_53) (by decide) (by decide) ?_; refine XS.istoreN X11.here hx rfl (D d29_57) rfl (l' := #[(sr x), (si 1), (si ch1), (si 1)]) rfl ?_; exact kont)⟩
        · by_cases y2 : (90 : Int32) < ch1
          · exact ⟨(0 : Int32), Or.inr ⟨rfl, (by simp only [own_tc, own_an, own_sp, Int32.lt_iff_toInt_lt, ← Int32.toInt_inj, Int32.reduceToInt] at y0 y1 y2 ⊢; omega)⟩, fun tgt kont => go12 tgt (by refine XS.iloadN X11.here hx rfl (D d29_16) rfl ?_; refine XS.bipush X11.here hx rfl (D d29_17) ?_; refine XS.icmpYes X11.here hx rfl (pc0 := 19) (pc' := 28) rfl (D d29_19) rfl (tlt y0).1 (by decide) (by decide) ?_; refine XS.iloadN X11.here hx rfl (D d29_28) rfl ?_; refine XS.bipush X11.here hx rfl (D d29_29) ?_; refine XS.icmpNo X11.here hx rfl (D d29_31) rfl (flt y1).1 ?_; refine XS.iloadN X11.here hx rfl (D d29_34) rfl ?_; refine XS.bipush X11.here hx rfl (D d29_35) ?_; refine XS.icmpNo X11.here hx rfl (D d29_37) rfl (tlt y2).2.2.2 ?_; refine XS.iloadN X11.here hx rfl (D d29_40) rfl ?_; refine XS.bipush X11.here hx rfl (D d29_41) ?_; refine XS.icmpNo X11.here hx rfl (D d29_43) rfl (flt (by simp only [Int32.lt_iff_toInt_lt, ← Int32.toInt_inj, Int32.reduceToInt] at y0 y1 y2 ⊢; omega : ¬ ch1 < (48 : Int32))).1 ?_; refine XS.iloadN X11.here hx rfl (D d29_46) rfl ?_; refine XS.bipush X11.here hx rfl (D d29_47) ?_; refine XS.icmpYes X11.here hx rfl (pc0 := 49) (pc' := 56) rfl (D d29_49) rfl (tlt (by simp only [Int32.lt_iff_toInt_lt, ← Int32.toInt_inj, Int32.reduceToInt] at y0 y1 y2 ⊢; omega : (57 : Int32) < ch1)).2.2.1 (by decide) (by decide) ?_; refine XS.iconst X11.here hx rfl (D d29_56) ?_; refine XS.istoreN X11.here hx rfl (D d29_57) rfl (l' := #[(sr x), (si 1), (si ch1), (si 0)]) rfl ?_; exact kont)⟩
          · exact ⟨(1 : Int32), Or.inl ⟨rfl, (by simp only [own_tc, own_an, own_sp, Int32.lt_iff_toInt_lt, ← Int32.toInt_inj, Int32.reduceToInt] at y0 y1 y2 ⊢; omega)⟩, fun tgt kont => go12 tgt (by refine XS.iloadN X11.here hx rfl (D d29_16) rfl ?_; refine XS.bipush X11.here hx rfl (D d29_17) ?_; refine XS.icmpYes X11.here hx rfl (pc0 := 19) (pc' := 28) rfl (D d29_19) rfl (tlt y0).1 (by decide) (by decide) ?_; refine XS.iloadN X11.here hx rfl (D d29_28) rfl ?_; refine XS.bipush X11.here hx rfl (D d29_29) ?_; refine XS.icmpNo X11.here hx rfl (D d29_31) rfl (flt y1).1 ?_; refine XS.iloadN X11.here hx rfl (D d29_34) rfl ?_; refine XS.bipush X11.here hx rfl (D d29_35) ?_; refine XS.icmpYes X11.here hx rfl (pc0 := 37) (pc' := 52) rfl (D d29_37) rfl (flt y2).2.2.2 (by decide) (by decide) ?_; refine XS.iconst X11.here hx rfl (D d29_52) ?_; refine XS.goto X11.here hx rfl (pc0 := 53) (pc' := 57) rfl (D d29_53) (by decide) (by decide) ?_; refine XS.istoreN X11.here hx rfl (D d29_57) rfl (l' := #[(sr x), (si 1), (si ch1), (si 1)]) rfl ?_; exact kont)⟩
      · by_cases y1 : (122 : Int32) < ch1
        · exact ⟨(0 : Int32), Or.inr ⟨rfl, (by simp only [own_tc, own_an, own_sp, Int32.lt_iff_toInt_lt, ← Int32.toInt_inj, Int32.reduceToInt] at y0 y1 ⊢; omega)⟩, fun tgt kont => go12 tgt (by refine XS.iloadN X11.here hx rfl (D d29_16) rfl ?_; refine XS.bipush X11.here hx rfl (D d29_17) ?_; refine XS.icmpNo X11.here hx rfl (D d29_19) rfl (flt y0).1 ?_; refine XS.iloadN X11.here hx rfl (D d29_22) rfl ?_; refine XS.bipush X11.here hx rfl (D d29_23) ?_; refine XS.icmpNo X11.here hx rfl (D d29_25) rfl (tlt y1).2.2.2 ?_; refine XS.iloadN X11.here hx rfl (D d29_28) rfl ?_; refine XS.bipush X11.here hx rfl (D d29_29) ?_; refine XS.icmpNo X11.here hx rfl (D d29_31) rfl (flt (by simp only [Int32.lt_iff_toInt_lt, ← Int32.toInt_inj, Int32.reduceToInt] at y0 y1 ⊢; omega : ¬ ch1 < (65 : Int32))).1 ?_; refine XS.iloadN X11.here hx rfl (D d29_34) rfl ?_; refine XS.bipush X11.here hx rfl (D d29_35) ?_; refine XS.icmpNo X11.here hx rfl (D d29_37) rfl (tlt (by simp only [Int32.lt_iff_toInt_lt, ← Int32.toInt_inj, Int32.reduceToInt] at y0 y1 ⊢; omega : (90 : Int32) < ch1)).2.2.2 ?_; refine XS.iloadN X11.here hx rfl (D d29_40) rfl ?_; refine XS.bipush X11.here hx rfl (D d29_41) ?_; refine XS.icmpNo X11.here hx rfl (D d29_43) rfl (flt (by simp only [Int32.lt_iff_toInt_lt, ← Int32.toInt_inj, Int32.reduceToInt] at y0 y1 ⊢; omega : ¬ ch1 < (48 : Int32))).1 ?_; refine XS.iloadN X11.here hx rfl (D d29_46) rfl ?_; refine XS.bipush X11.here hx rfl (D d29_47) ?_; refine XS.icmpYes X11.here hx rfl (pc0 := 49) (pc' := 56) rfl (D d29_49) rfl (tlt (by simp only [Int32.lt_iff_toInt_lt, ← Int32.toInt_inj, Int32.reduceToInt] at y0 y1 ⊢; omega : (57 : Int32) < ch1)).2.2.1 (by decide) (by decide) ?_; refine XS.iconst X11.here hx rfl (D d29_56) ?_; refine XS.istoreN X11.here hx rfl (D d29_57) rfl (l' := #[(sr x), (si 1), (si ch1), (si 0)]) rfl ?_; exact kont)⟩
        · exact ⟨(1 : Int32), Or.inl ⟨rfl, (by simp only [own_tc, own_an, own_sp, Int32.lt_iff_toInt_lt, ← Int32.toInt_inj, Int32.reduceToInt] at y0 y1 ⊢; omega)⟩, fun tgt kont => go12 tgt (by refine XS.iloadN X11.here hx rfl (D d29_16) rfl ?_; refine XS.bipush X11.here hx rfl (D d29_17) ?_; refine XS.icmpNo X11.here hx rfl (D d29_19) rfl (flt y0).1 ?_; refine XS.iloadN X11.here hx rfl (D d29_22) rfl ?_; refine XS.bipush X11.here hx rfl (D d29_23) ?_; refine XS.icmpYes X11.here hx rfl (pc0 := 25) (pc' := 52) rfl (D d29_25) rfl (flt y1).2.2.2 (by decide) (by decide) ?_; refine XS.iconst X11.here hx rfl (D d29_52) ?_; refine XS.goto X11.here hx rfl (pc0 := 53) (pc' := 57) rfl (D d29_53) (by decide) (by decide) ?_; refine XS.istoreN X11.here hx rfl (D d29_57) rfl (l' := #[(sr x), (si 1), (si ch1), (si 1)]) rfl ?_; exact kont)⟩
    rcases hb1 with ⟨rfl, ha1⟩ | ⟨rfl, ha1⟩
    · have go14 : Go p e below E0 T11 m 73 #[(sr x), (si 1), (si ch1), (si 1)] [] := fun tgt kont => go13 tgt (by
        refine XS.iloadN X11.here hx rfl (D d29_58) rfl ?_; refine XS.ifYes X11.here hx rfl (pc0 := 59) (pc' := 73) rfl (D d29_59) rfl ((if0 _ _).trans (feq (by decide)).2) (by decide) (by decide) ?_; exact kont)
      have tk1 : own_tc ch1 := Or.inl ha1
      have go15 : Go p e below E0 T11 m 4 #[(sr x), (si 2), (si ch1), (si 1)] [(.ref x), (.int 2)] := fun tgt kont => go14 tgt (by
        refine XS.iinc X11.here hx rfl (D d29_73) rfl (l' := #[(sr x), (si 2), (si ch1), (si 1)]) rfl ?_; refine XS.goto X11.here hx rfl (pc0 := 76) (pc' := 2) rfl (D d29_76) (by decide) (by decide) ?_; refine XS.iloadN X11.here hx rfl (D d29_2) rfl ?_; refine XS.aloadN X11.here hx rfl (D d29_3) rfl rfl ?_; exact kont)
      obtain ⟨cq16, kq16, q16a, q16b, q16c⟩ := isOf hZ e11 Ex
      obtain ⟨_, _, ⟨T16, L16, k16, n16⟩, -, X16, ⟨Lc16, hQ16, l16, y16, z16⟩, st16⟩ := X11.virtualBack hx (y := (⟨"java/lang/String", "length", "()I"⟩ : MethodName)) (z := (⟨"java/lang/String", "length", "()I"⟩ : MethodName)) hown (mvT hZ (wd hw 27 rfl)) (mvT hZ (wd hw 28 rfl)) (notFace_of_selects (args := #[]) (mvT hZ (wd hw 30 rfl))) (mvT hZ (wd hw 30 rfl)) (mvT hZ (wd hw 29 rfl)) (by decide) (backOf (W := 1) (rmE3 l Z a0 hw [] x ch0 ch1 ch2 G fv h0 n0 Z0 S0 kch0 kch1 kch2 W0 O0) hZ (wd hw 31 rfl) (wd hw 4 rfl) (by decide) (by decide)) q16a q16c (g := (mkF m 4 #[(sr x), (si 2), (si ch1), (si 1)] [(.ref x), (.int 2)])) rfl (by rw [hml]; rfl) (Steps.refl _) (argsL := []) (rest := [(.int (2 : Int32))]) (lenOf pd_15 rfl) rfl (by show 2 * 0 + _ ≤ _; exact Nat.le_of_eq rfl) (D d29_4) (fun _ _ => ⟨rfl, e11, (by decide : 0 + 0 ≤ _), (by decide : 0 + 0 ≤ _)⟩)
      dsimp only [Pt.U, Pt.locs, Pt.cells, Pt.slots] at X16 l16 y16 z16 st16 hQ16
      subst l16 y16 z16
      obtain ⟨rfl, rfl, e16⟩ := hQ16
      have N16 := Fr.app N11 (Fr.nil n0)
      have go16 : Go p e below E0 T16 m 7 #[(sr x), (si 2), (si ch1), (si 1)] [(.int 3), (.int 2)] := fun tgt kont => go15 tgt (st16.trans kont)
      have go17 : Go p e below E0 T16 m 12 #[(sr x), (si 2), (si ch1), (si 1)] [(.int 2), (.ref x)] := fun tgt kont => go16 tgt (by
        refine XS.icmpNo X16.here hx rfl (D d29_7) rfl (tlt (by decide)).2.1 ?_; refine XS.aloadN X16.here hx rfl (D d29_10) rfl rfl ?_; refine XS.iloadN X16.here hx rfl (D d29_11) rfl ?_; exact kont)
      obtain ⟨cq18, kq18, q18a, q18b, q18c⟩ := isOf hZ e16 Ex
      obtain ⟨_, _, ⟨T18, L18, k18, n18⟩, -, X18, ⟨Lc18, hQ18, l18, y18, z18⟩, st18⟩ := X16.virtualBack hx (y := (⟨"java/lang/String", "charAt", "(I)C"⟩ : MethodName)) (z := (⟨"java/lang/String", "charAt", "(I)C"⟩ : MethodName)) hown (mvT hZ (wd hw 57 rfl)) (mvT hZ (wd hw 58 rfl)) (notFace_of_selects (args := #[]) (mvT hZ (wd hw 60 rfl))) (mvT hZ (wd hw 60 rfl)) (mvT hZ (wd hw 59 rfl)) (by decide) (backOf (W := 0) (rmC32 l Z a0 hw [] x ch0 ch1 ch2 G fv h0 n0 Z0 S0 kch0 kch1 kch2 W0 O0) hZ (wd hw 61 rfl) (wd hw 4 rfl) (by decide) (by decide)) q18a q18c (g := (mkF m 12 #[(sr x), (si 2), (si ch1), (si 1)] [(.int 2), (.ref x)])) rfl (by rw [hml]; rfl) (Steps.refl _) (argsL := [(.int (2 : Int32))]) (rest := []) (lenOf pd_24 rfl) rfl (by show 2 * 0 + _ ≤ _; exact Nat.le_of_eq rfl) (D d29_12) (fun _ _ => ⟨rfl, e16, (by decide : 0 + 0 ≤ _), (by decide : 0 + 0 ≤ _)⟩)
      dsimp only [Pt.U, Pt.locs, Pt.cells, Pt.slots] at X18 l18 y18 z18 st18 hQ18
      subst l18 y18 z18
      obtain ⟨rfl, rfl, e18⟩ := hQ18
      have N18 := Fr.app N16 (Fr.nil n0)
      have go18 : Go p e below E0 T18 m 15 #[(sr x), (si 2), (si ch1), (si 1)] [(.int ch2)] := fun tgt kont => go17 tgt (st18.trans kont)
      have go19 : Go p e below E0 T18 m 16 #[(sr x), (si 2), (si ch2), (si 1)] [] := fun tgt kont => go18 tgt (by
        refine XS.istoreN X18.here hx rfl (D d29_15) rfl (l' := #[(sr x), (si 2), (si ch2), (si 1)]) rfl ?_; exact kont)
      obtain ⟨b2, hb2, go20⟩ : ∃ b2 : Int32, ((b2 = 1 ∧ own_an ch2) ∨ (b2 = 0 ∧ ¬ own_an ch2)) ∧ Go p e below E0 T18 m 58 #[(sr x), (si 2), (si ch2), (si b2)] [] := by
        by_cases y0 : ch2 < (97 : Int32)
        · by_cases y1 : ch2 < (65 : Int32)
          · by_cases y2 : ch2 < (48 : Int32)
            · exact ⟨(0 : Int32), Or.inr ⟨rfl, (by simp only [own_tc, own_an, own_sp, Int32.lt_iff_toInt_lt, ← Int32.toInt_inj, Int32.reduceToInt] at y0 y1 y2 ⊢; omega)⟩, fun tgt kont => go19 tgt (by refine XS.iloadN X18.here hx rfl (D d29_16) rfl ?_; refine XS.bipush X18.here hx rfl (D d29_17) ?_; refine XS.icmpYes X18.here hx rfl (pc0 := 19) (pc' := 28) rfl (D d29_19) rfl (tlt y0).1 (by decide) (by decide) ?_; refine XS.iloadN X18.here hx rfl (D d29_28) rfl ?_; refine XS.bipush X18.here hx rfl (D d29_29) ?_; refine XS.icmpYes X18.here hx rfl (pc0 := 31) (pc' := 40) rfl (D d29_31) rfl (tlt y1).1 (by decide) (by decide) ?_; refine XS.iloadN X18.here hx rfl (D d29_40) rfl ?_; refine XS.bipush X18.here hx rfl (D d29_41) ?_; refine XS.icmpYes X18.here hx rfl (pc0 := 43) (pc' := 56) rfl (D d29_43) rfl (tlt y2).1 (by decide) (by decide) ?_; refine XS.iconst X18.here hx rfl (D d29_56) ?_; refine XS.istoreN X18.here hx rfl (D d29_57) rfl (l' := #[(sr x), (si 2), (si ch2), (si 0)]) rfl ?_; exact kont)⟩
            · by_cases y3 : (57 : Int32) < ch2
              · exact ⟨(0 : Int32), Or.inr ⟨rfl, (by simp only [own_tc, own_an, own_sp, Int32.lt_iff_toInt_lt, ← Int32.toInt_inj, Int32.reduceToInt] at y0 y1 y2 y3 ⊢; omega)⟩, fun tgt kont => go19 tgt (by refine XS.iloadN X18.here hx rfl (D d29_16) rfl ?_; refine XS.bipush X18.here hx rfl (D d29_17) ?_; refine XS.icmpYes X18.here hx rfl (pc0 := 19) (pc' := 28) rfl (D d29_19) rfl (tlt y0).1 (by decide) (by decide) ?_; refine XS.iloadN X18.here hx rfl (D d29_28) rfl ?_; refine XS.bipush X18.here hx rfl (D d29_29) ?_; refine XS.icmpYes X18.here hx rfl (pc0 := 31) (pc' := 40) rfl (D d29_31) rfl (tlt y1).1 (by decide) (by decide) ?_; refine XS.iloadN X18.here hx rfl (D d29_40) rfl ?_; refine XS.bipush X18.here hx rfl (D d29_41) ?_; refine XS.icmpNo X18.here hx rfl (D d29_43) rfl (flt y2).1 ?_; refine XS.iloadN X18.here hx rfl (D d29_46) rfl ?_; refine XS.bipush X18.here hx rfl (D d29_47) ?_; refine XS.icmpYes X18.here hx rfl (pc0 := 49) (pc' := 56) rfl (D d29_49) rfl (tlt y3).2.2.1 (by decide) (by decide) ?_; refine XS.iconst X18.here hx rfl (D d29_56) ?_; refine XS.istoreN X18.here hx rfl (D d29_57) rfl (l' := #[(sr x), (si 2), (si ch2), (si 0)]) rfl ?_; exact kont)⟩
              · exact ⟨(1 : Int32), Or.inl ⟨rfl, (by simp only [own_tc, own_an, own_sp, Int32.lt_iff_toInt_lt, ← Int32.toInt_inj, Int32.reduceToInt] at y0 y1 y2 y3 ⊢; omega)⟩, fun tgt kont => go19 tgt (by refine XS.iloadN X18.here hx rfl (D d29_16) rfl ?_; refine XS.bipush X18.here hx rfl (D d29_17) ?_; refine XS.icmpYes X18.here hx rfl (pc0 := 19) (pc' := 28) rfl (D d29_19) rfl (tlt y0).1 (by decide) (by decide) ?_; refine XS.iloadN X18.here hx rfl (D d29_28) rfl ?_; refine XS.bipush X18.here hx rfl (D d29_29) ?_; refine XS.icmpYes X18.here hx rfl (pc0 := 31) (pc' := 40) rfl (D d29_31) rfl (tlt y1).1 (by decide) (by decide) ?_; refine XS.iloadN X18.here hx rfl (D d29_40) rfl ?_; refine XS.bipush X18.here hx rfl (D d29_41) ?_; refine XS.icmpNo X18.here hx rfl (D d29_43) rfl (flt y2).1 ?_; refine XS.iloadN X18.here hx rfl (D d29_46) rfl ?_; refine XS.bipush X18.here hx rfl (D d29_47) ?_; refine XS.icmpNo X18.here hx rfl (D d29_49) rfl (flt y3).2.2.1 ?_; refine XS.iconst X18.here hx rfl (D d29_52) ?_; refine XS.goto X18.here hx rfl (pc0 := 53) (pc' := 57) rfl (D d29_53) (by decide) (by decide) ?_; refine XS.istoreN X18.here hx rfl (D d29_57) rfl (l' := #[(sr x), (si 2), (si ch2), (si 1)]) rfl ?_; exact kont)⟩
          · by_cases y2 : (90 : Int32) < ch2
            · exact ⟨(0 : Int32), Or.inr ⟨rfl, (by simp only [own_tc, own_an, own_sp, Int32.lt_iff_toInt_lt, ← Int32.toInt_inj, Int32.reduceToInt] at y0 y1 y2 ⊢; omega)⟩, fun tgt kont => go19 tgt (by refine XS.iloadN X18.here hx rfl (D d29_16) rfl ?_; refine XS.bipush X18.here hx rfl (D d29_17) ?_; refine XS.icmpYes X18.here hx rfl (pc0 := 19) (pc' := 28) rfl (D d29_19) rfl (tlt y0).1 (by decide) (by decide) ?_; refine XS.iloadN X18.here hx rfl (D d29_28) rfl ?_; refine XS.bipush X18.here hx rfl (D d29_29) ?_; refine XS.icmpNo X18.here hx rfl (D d29_31) rfl (flt y1).1 ?_; refine XS.iloadN X18.here hx rfl (D d29_34) rfl ?_; refine XS.bipush X18.here hx rfl (D d29_35) ?_; refine XS.icmpNo X18.here hx rfl (D d29_37) rfl (tlt y2).2.2.2 ?_; refine XS.iloadN X18.here hx rfl (D d29_40) rfl ?_; refine XS.bipush X18.here hx rfl (D d29_41) ?_; refine XS.icmpNo X18.here hx rfl (D d29_43) rfl (flt (by simp only [Int32.lt_iff_toInt_lt, ← Int32.toInt_inj, Int32.reduceToInt] at y0 y1 y2 ⊢; omega : ¬ ch2 < (48 : Int32))).1 ?_; refine XS.iloadN X18.here hx rfl (D d29_46) rfl ?_; refine XS.bipush X18.here hx rfl (D d29_47) ?_; refine XS.icmpYes X18.here hx rfl (pc0 := 49) (pc' := 56) rfl (D d29_49) rfl (tlt (by simp only [Int32.lt_iff_toInt_lt, ← Int32.toInt_inj, Int32.reduceToInt] at y0 y1 y2 ⊢; omega : (57 : Int32) < ch2)).2.2.1 (by decide) (by decide) ?_; refine XS.iconst X18.here hx rfl (D d29_56) ?_; refine XS.istoreN X18.here hx rfl (D d29_57) rfl (l' := #[(sr x), (si 2), (si ch2), (si 0)]) rfl ?_; exact kont)⟩
            · exact ⟨(1 : Int32), Or.inl ⟨rfl, (by simp only [own_tc, own_an, own_sp, Int32.lt_iff_toInt_lt, ← Int32.toInt_inj, Int32.reduceToInt] at y0 y1 y2 ⊢; omega)⟩, fun tgt kont => go19 tgt (by refine XS.iloadN X18.here hx rfl (D d29_16) rfl ?_; refine XS.bipush X18.here hx rfl (D d29_17) ?_; refine XS.icmpYes X18.here hx rfl (pc0 := 19) (pc' := 28) rfl (D d29_19) rfl (tlt y0).1 (by decide) (by decide) ?_; refine XS.iloadN X18.here hx rfl (D d29_28) rfl ?_; refine XS.bipush X18.here hx rfl (D d29_29) ?_; refine XS.icmpNo X18.here hx rfl (D d29_31) rfl (flt y1).1 ?_; refine XS.iloadN X18.here hx rfl (D d29_34) rfl ?_; refine XS.bipush X18.here hx rfl (D d29_35) ?_; refine XS.icmpYes X18.here hx rfl (pc0 := 37) (pc' := 52) rfl (D d29_37) rfl (flt y2).2.2.2 (by decide) (by decide) ?_; refine XS.iconst X18.here hx rfl (D d29_52) ?_; refine XS.goto X18.here hx rfl (pc0 := 53) (pc' := 57) rfl (D d29_53) (by decide) (by decide) ?_; refine XS.istoreN X18.here hx rfl (D d29_57) rfl (l' := #[(sr x), (si 2), (si ch2), (si 1)]) rfl ?_; exact kont)⟩
        · by_cases y1 : (122 : Int32) < ch2
          · exact ⟨(0 : Int32), Or.inr ⟨rfl, (by simp only [own_tc, own_an, own_sp, Int32.lt_iff_toInt_lt, ← Int32.toInt_inj, Int32.reduceToInt] at y0 y1 ⊢; omega)⟩, fun tgt kont => go19 tgt (by refine XS.iloadN X18.here hx rfl (D d29_16) rfl ?_; refine XS.bipush X18.here hx rfl (D d29_17) ?_; refine XS.icmpNo X18.here hx rfl (D d29_19) rfl (flt y0).1 ?_; refine XS.iloadN X18.here hx rfl (D d29_22) rfl ?_; refine XS.bipush X18.here hx rfl (D d29_23) ?_; refine XS.icmpNo X18.here hx rfl (D d29_25) rfl (tlt y1).2.2.2 ?_; refine XS.iloadN X18.here hx rfl (D d29_28) rfl ?_; refine XS.bipush X18.here hx rfl (D d29_29) ?_; refine XS.icmpNo X18.here hx rfl (D d29_31) rfl (flt (by simp only [Int32.lt_iff_toInt_lt, ← Int32.toInt_inj, Int32.reduceToInt] at y0 y1 ⊢; omega : ¬ ch2 < (65 : Int32))).1 ?_; refine XS.iloadN X18.here hx rfl (D d29_34) rfl ?_; refine XS.bipush X18.here hx rfl (D d29_35) ?_; refine XS.icmpNo X18.here hx rfl (D d29_37) rfl (tlt (by simp only [Int32.lt_iff_toInt_lt, ← Int32.toInt_inj, Int32.reduceToInt] at y0 y1 ⊢; omega : (90 : Int32) < ch2)).2.2.2 ?_; refine XS.iloadN X18.here hx rfl (D d29_40) rfl ?_; refine XS.bipush X18.here hx rfl (D d29_41) ?_; refine XS.icmpNo X18.here hx rfl (D d29_43) rfl (flt (by simp only [Int32.lt_iff_toInt_lt, ← Int32.toInt_inj, Int32.reduceToInt] at y0 y1 ⊢; omega : ¬ ch2 < (48 : Int32))).1 ?_; refine XS.iloadN X18.here hx rfl (D d29_46) rfl ?_; refine XS.bipush X18.here hx rfl (D d29_47) ?_; refine XS.icmpYes X18.here hx rfl (pc0 := 49) (pc' := 56) rfl (D d29_49) rfl (tlt (by simp only [Int32.lt_iff_toInt_lt, ← Int32.toInt_inj, Int32.reduceToInt] at y0 y1 ⊢; omega : (57 : Int32) < ch2)).2.2.1 (by decide) (by decide) ?_; refine XS.iconst X18.here hx rfl (D d29_56) ?_; refine XS.istoreN X18.here hx rfl (D d29_57) rfl (l' := #[(sr x), (si 2), (si ch2), (si 0)]) rfl ?_; exact kont)⟩
          · exact ⟨(1 : Int32), Or.inl ⟨rfl, (by simp only [own_tc, own_an, own_sp, Int32.lt_iff_toInt_lt, ← Int32.toInt_inj, Int32.reduceToInt] at y0 y1 ⊢; omega)⟩, fun tgt kont => go19 tgt (by refine XS.iloadN X18.here hx rfl (D d29_16) rfl ?_; refine XS.bipush X18.here hx rfl (D d29_17) ?_; refine XS.icmpNo X18.here hx rfl (D d29_19) rfl (flt y0).1 ?_; refine XS.iloadN X18.here hx rfl (D d29_22) rfl ?_; refine XS.bipush X18.here hx rfl (D d29_23) ?_; refine XS.icmpYes X18.here hx rfl (pc0 := 25) (pc' := 52) rfl (D d29_25) rfl (flt y1).2.2.2 (by decide) (by decide) ?_; refine XS.iconst X18.here hx rfl (D d29_52) ?_; refine XS.goto X18.here hx rfl (pc0 := 53) (pc' := 57) rfl (D d29_53) (by decide) (by decide) ?_; refine XS.istoreN X18.here hx rfl (D d29_57) rfl (l' := #[(sr x), (si 2), (si ch2), (si 1)]) rfl ?_; exact kont)⟩
      rcases hb2 with ⟨rfl, ha2⟩ | ⟨rfl, ha2⟩
      · have go21 : Go p e below E0 T18 m 73 #[(sr x), (si 2), (si ch2), (si 1)] [] := fun tgt kont => go20 tgt (by
          refine XS.iloadN X18.here hx rfl (D d29_58) rfl ?_; refine XS.ifYes X18.here hx rfl (pc0 := 59) (pc' := 73) rfl (D d29_59) rfl ((if0 _ _).trans (feq (by decide)).2) (by decide) (by decide) ?_; exact kont)
        have tk2 : own_tc ch2 := Or.inl ha2
        have go22 : Go p e below E0 T18 m 4 #[(sr x), (si 3), (si ch2), (si 1)] [(.ref x), (.int 3)] := fun tgt kont => go21 tgt (by
          refine XS.iinc X18.here hx rfl (D d29_73) rfl (l' := #[(sr x), (si 3), (si ch2), (si 1)]) rfl ?_; refine XS.goto X18.here hx rfl (pc0 := 76) (pc' := 2) rfl (D d29_76) (by decide) (by decide) ?_; refine XS.iloadN X18.here hx rfl (D d29_2) rfl ?_; refine XS.aloadN X18.here hx rfl (D d29_3) rfl rfl ?_; exact kont)
        obtain ⟨cq23, kq23, q23a, q23b, q23c⟩ := isOf hZ e18 Ex
        obtain ⟨_, _, ⟨T23, L23, k23, n23⟩, -, X23, ⟨Lc23, hQ23, l23, y23, z23⟩, st23⟩ := X18.virtualBack hx (y := (⟨"java/lang/String", "length", "()I"⟩ : MethodName)) (z := (⟨"java/lang/String", "length", "()I"⟩ : MethodName)) hown (mvT hZ (wd hw 27 rfl)) (mvT hZ (wd hw 28 rfl)) (notFace_of_selects (args := #[]) (mvT hZ (wd hw 30 rfl))) (mvT hZ (wd hw 30 rfl)) (mvT hZ (wd hw 29 rfl)) (by decide) (backOf (W := 1) (rmE3 l Z a0 hw [] x ch0 ch1 ch2 G fv h0 n0 Z0 S0 kch0 kch1 kch2 W0 O0) hZ (wd hw 31 rfl) (wd hw 4 rfl) (by decide) (by decide)) q23a q23c (g := (mkF m 4 #[(sr x), (si 3), (si ch2), (si 1)] [(.ref x), (.int 3)])) rfl (by rw [hml]; rfl) (Steps.refl _) (argsL := []) (rest := [(.int (3 : Int32))]) (lenOf pd_15 rfl) rfl (by show 2 * 0 + _ ≤ _; exact Nat.le_of_eq rfl) (D d29_4) (fun _ _ => ⟨rfl, e18, (by decide : 0 + 0 ≤ _), (by decide : 0 + 0 ≤ _)⟩)
        dsimp only [Pt.U, Pt.locs, Pt.cells, Pt.slots] at X23 l23 y23 z23 st23 hQ23
        subst l23 y23 z23
        obtain ⟨rfl, rfl, e23⟩ := hQ23
        have N23 := Fr.app N18 (Fr.nil n0)
        have go23 : Go p e below E0 T23 m 7 #[(sr x), (si 3), (si ch2), (si 1)] [(.int 3), (.int 3)] := fun tgt kont => go22 tgt (st23.trans kont)
        have go24 : Go p e below E0 T23 m 80 #[(sr x), (si 3), (si ch2), (si 1)] [(.ref x)] := fun tgt kont => go23 tgt (by
          refine XS.icmpYes X23.here hx rfl (pc0 := 7) (pc' := 79) rfl (D d29_7) rfl (flt (by decide)).2.1 (by decide) (by decide) ?_; refine XS.aloadN X23.here hx rfl (D d29_79) rfl rfl ?_; exact kont)
        obtain ⟨cq25, kq25, q25a, q25b, q25c⟩ := isOf hZ e23 Ex
        obtain ⟨_, _, ⟨T25, L25, k25, n25⟩, -, X25, ⟨Lc25, hQ25, l25, y25, z25⟩, st25⟩ := X23.virtualBack hx (y := (⟨"java/lang/String", "isEmpty", "()Z"⟩ : MethodName)) (z := (⟨"java/lang/String", "isEmpty", "()Z"⟩ : MethodName)) hown (mvT hZ (wd hw 38 rfl)) (mvT hZ (wd hw 39 rfl)) (notFace_of_selects (args := #[]) (mvT hZ (wd hw 41 rfl))) (mvT hZ (wd hw 41 rfl)) (mvT hZ (wd hw 40 rfl)) (by decide) (backOf (W := 0) (rmM3 l Z a0 hw [] x ch0 ch1 ch2 G fv h0 n0 Z0 S0 kch0 kch1 kch2 W0 O0) hZ (wd hw 42 rfl) (wd hw 4 rfl) (by decide) (by decide)) q25a q25c (g := (mkF m 80 #[(sr x), (si 3), (si ch2), (si 1)] [(.ref x)])) rfl (by rw [hml]; rfl) (Steps.refl _) (argsL := []) (rest := []) (lenOf pd_10 rfl) rfl (by show 2 * 0 + _ ≤ _; exact Nat.le_of_eq rfl) (D d29_80) (fun _ _ => ⟨rfl, e23, (by decide : 0 + 0 ≤ _), (by decide : 0 + 0 ≤ _)⟩)
        dsimp only [Pt.U, Pt.locs, Pt.cells, Pt.slots] at X25 l25 y25 z25 st25 hQ25
        subst l25 y25 z25
        obtain ⟨rfl, rfl, e25⟩ := hQ25
        have N25 := Fr.app N23 (Fr.nil n0)
        have go25 : Go p e below E0 T25 m 83 #[(sr x), (si 3), (si ch2), (si 1)] [(.int 0)] := fun tgt kont => go24 tgt (st25.trans kont)
        have go26 : Go p e below E0 T25 m 91 #[(sr x), (si 3), (si ch2), (si 1)] [(.int 1)] := fun tgt kont => go25 tgt (by
          refine XS.ifNo X25.here hx rfl (D d29_83) rfl ((if0 _ _).trans (teq rfl).2) ?_; refine XS.iconst X25.here hx rfl (D d29_86) ?_; refine XS.goto X25.here hx rfl (pc0 := 87) (pc' := 91) rfl (D d29_87) (by decide) (by decide) ?_; exact kont)
        obtain ⟨fs, hr, hrun, hended, hW⟩ := X25.leaveW hS0 (by rw [e25]; exact hk0) (v := some (.int (1 : Int32))) (fun h => by rw [Bd.returns] at h; cases h)
        refine ⟨_, _, go26 _ ?_, hrun, hended, _, _, rfl, ?_, hW.1, hW.2.1, hW.2.2.1, hW.2.2.2.mono (by decide) (by decide)⟩
        · show Steps p.tables e below (T25.setTop (mkF m 91 #[(sr x), (si 3), (si ch2), (si 1)] [(.int 1)])) _
          exact retN X25 hx (t := .boolean) Bd.returns (by simp) (D d29_91) hr
        · show QT3 Z x ch0 ch1 ch2 G fv h0 n0 _ T25.heap _ T25.vm
          rw [e25]
          exact ⟨_, rfl, N25, (Keep.refl h0 []), Or.inl ⟨rfl, ⟨tk0, tk1, tk2⟩⟩⟩
      · have go27 : Go p e below E0 T18 m 62 #[(sr x), (si 2), (si ch2), (si 0)] [] := fun tgt kont => go20 tgt (by
          refine XS.iloadN X18.here hx rfl (D d29_58) rfl ?_; refine XS.ifNo X18.here hx rfl (D d29_59) rfl ((if0 _ _).trans (teq rfl).2) ?_; exact kont)
        have hkeep28 : ∀ (b : Addr) (cl : Cell), Z.heap[b]? = some cl → s.heap[b]? = some cl := fun b cl q => by rw [hh]; exact O0.2.2 b cl q
        obtain ⟨la, T28, h28, k28, lb, lk, X28, e28, E28, hS28, hk28, hZ28, hown28, E_la, C_la, V_la, A_la, -, -, -, Lt_la, st28⟩ := ldcSVL X18 hx hZ hown (wd hw 79 rfl) hwS e18 hS0 hk0 (fun y hy => by simp at hy) hkeep28 hJ0 (by simp) hH3 hCW (vs := own_SL) (z := (15 : Int32)) ⟨by decide +kernel, by decide +kernel⟩ (by decide) (by decide) (g := (mkF m 62 #[(sr x), (si 2), (si ch2), (si 0)] [])) rfl (D d29_62) (n := 60) (by decide +kernel) (by decide) (by decide) (by decide)
        have z29 : n0 ≤ h28.size := Nat.le_trans Z0 E28.1
        have K30 : Keep h0 h28 [] := (Keep.refl h0 []).ext E28
        have go28 : Go p e below E0 T28 m 64 #[(sr x), (si 2), (si ch2), (si 0)] [(.ref la)] := fun tgt kont => go27 tgt (st28 tgt kont)
        have SE28 : own_S3 Z h28 x ch0 ch1 ch2 := own_S3ext S0 E28
        have f31 : Old Z n0 h28 := (O0.ext E28)
        have go32 : Go p e below E0 T28 m 65 #[(sr x), (si 2), (si ch2), (si 0)] [(.int ch2), (.ref la)] := fun tgt kont => go28 tgt (by
          refine XS.iloadN X28.here hx rfl (D d29_64) rfl ?_; exact kont)
        obtain ⟨cq33, kq33, q33a, q33b, q33c⟩ := isOf hZ28 e28 E_la
        obtain ⟨_, _, ⟨T33, L33, k33, n33⟩, -, X33, ⟨Lc33, hQ33, l33, y33, z33⟩, st33⟩ := X28.virtualBack hx (y := (⟨"java/lang/String", "indexOf", "(I)I"⟩ : MethodName)) (z := (⟨"java/lang/String", "indexOf", "(I)I"⟩ : MethodName)) hown28 (mvT hZ28 (wd hw 80 rfl)) (mvT hZ28 (wd hw 81 rfl)) (notFace_of_selects (args := #[]) (mvT hZ28 (wd hw 83 rfl))) (mvT hZ28 (wd hw 83 rfl)) (mvT hZ28 (wd hw 82 rfl)) (by decide) (backOf (W := 0) (rmI1 l Z a0 hw [] la lb lk ch2 G fv h28 n0 z29 E_la C_la V_la A_la kch2.1 W0 f31) hZ28 (wd hw 84 rfl) (wd hw 4 rfl) (by decide) (by decide)) q33a q33c (g := (mkF m 65 #[(sr x), (si 2), (si ch2), (si 0)] [(.int ch2), (.ref la)])) rfl (by rw [hml]; rfl) (Steps.refl _) (argsL := [(.int ch2)]) (rest := []) (lenOf pd_16 rfl) rfl (by show 2 * 0 + _ ≤ _; exact Nat.le_of_eq rfl) (D d29_65) (fun _ _ => ⟨rfl, e28, (by decide : 2 + 0 ≤ _), (by decide : 64 + 0 ≤ _)⟩)
        dsimp only [Pt.U, Pt.locs, Pt.cells, Pt.slots] at X33 l33 y33 z33 st33 hQ33
        subst l33 y33 z33
        obtain ⟨r2, rfl, rfl, e33, hr2⟩ := hQ33
        have N33 := Fr.app N18 (Fr.nil n0)
        have go33 : Go p e below E0 T33 m 68 #[(sr x), (si 2), (si ch2), (si 0)] [(.int r2)] := fun tgt kont => go32 tgt (st33.trans kont)
        rcases hr2 with ⟨hz2, hs2⟩ | ⟨hz2, hs2⟩
        · have go34 : Go p e below E0 T33 m 73 #[(sr x), (si 2), (si ch2), (si 0)] [] := fun tgt kont => go33 tgt (by
            refine XS.ifYes X33.here hx rfl (pc0 := 68) (pc' := 73) rfl (D d29_68) rfl ((if0 _ _).trans (flt hz2).2.1) (by decide) (by decide) ?_; exact kont)
          have tk2 : own_tc ch2 := Or.inr hs2
          have go35 : Go p e below E0 T33 m 4 #[(sr x), (si 3), (si ch2), (si 0)] [(.ref x), (.int 3)] := fun tgt kont => go34 tgt (by
            refine XS.iinc X33.here hx rfl (D d29_73) rfl (l' := #[(sr x), (si 3), (si ch2), (si 0)]) rfl ?_; refine XS.goto X33.here hx rfl (pc0 := 76) (pc' := 2) rfl (D d29_76) (by decide) (by decide) ?_; refine XS.iloadN X33.here hx rfl (D d29_2) rfl ?_; refine XS.aloadN X33.here hx rfl (D d29_3) rfl rfl ?_; exact kont)
          have f37 : Exa Z h28 x "java/lang/String" := (Ex.ext E28)
          obtain ⟨cq36, kq36, q36a, q36b, q36c⟩ := isOf hZ28 e33 f37
          obtain ⟨_, _, ⟨T36, L36, k36, n36⟩, -, X36, ⟨Lc36, hQ36, l36, y36, z36⟩, st36⟩ := X33.virtualBack hx (y := (⟨"java/lang/String", "length", "()I"⟩ : MethodName)) (z := (⟨"java/lang/String", "length", "()I"⟩ : MethodName)) hown28 (mvT hZ28 (wd hw 27 rfl)) (mvT hZ28 (wd hw 28 rfl)) (notFace_of_selects (args := #[]) (mvT hZ28 (wd hw 30 rfl))) (mvT hZ28 (wd hw 30 rfl)) (mvT hZ28 (wd hw 29 rfl)) (by decide) (backOf (W := 1) (rmE3 l Z a0 hw [] x ch0 ch1 ch2 G fv h28 n0 z29 SE28 kch0 kch1 kch2 W0 f31) hZ28 (wd hw 31 rfl) (wd hw 4 rfl) (by decide) (by decide)) q36a q36c (g := (mkF m 4 #[(sr x), (si 3), (si ch2), (si 0)] [(.ref x), (.int 3)])) rfl (by rw [hml]; rfl) (Steps.refl _) (argsL := []) (rest := [(.int (3 : Int32))]) (lenOf pd_15 rfl) rfl (by show 2 * 0 + _ ≤ _; exact Nat.le_of_eq rfl) (D d29_4) (fun _ _ => ⟨rfl, e33, (by decide : 2 + 0 ≤ _), (by decide : 64 + 0 ≤ _)⟩)
          dsimp only [Pt.U, Pt.locs, Pt.cells, Pt.slots] at X36 l36 y36 z36 st36 hQ36
          subst l36 y36 z36
          obtain ⟨rfl, rfl, e36⟩ := hQ36
          have N36 := Fr.app N33 (Fr.nil n0)
          have go36 : Go p e below E0 T36 m 7 #[(sr x), (si 3), (si ch2), (si 0)] [(.int 3), (.int 3)] := fun tgt kont => go35 tgt (st36.trans kont)
          have go38 : Go p e below E0 T36 m 80 #[(sr x), (si 3), (si ch2), (si 0)] [(.ref x)] := fun tgt kont => go36 tgt (by
            refine XS.icmpYes X36.here hx rfl (pc0 := 7) (pc' := 79) rfl (D d29_7) rfl (flt (by decide)).2.1 (by decide) (by decide) ?_; refine XS.aloadN X36.here hx rfl (D d29_79) rfl rfl ?_; exact kont)
          obtain ⟨cq39, kq39, q39a, q39b, q39c⟩ := isOf hZ28 e36 f37
          obtain ⟨_, _, ⟨T39, L39, k39, n39⟩, -, X39, ⟨Lc39, hQ39, l39, y39, z39⟩, st39⟩ := X36.virtualBack hx (y := (⟨"java/lang/String", "isEmpty", "()Z"⟩ : MethodName)) (z := (⟨"java/lang/String", "isEmpty", "()Z"⟩ : MethodName)) hown28 (mvT hZ28 (wd hw 38 rfl)) (mvT hZ28 (wd hw 39 rfl)) (notFace_of_selects (args := #[]) (mvT hZ28 (wd hw 41 rfl))) (mvT hZ28 (wd hw 41 rfl)) (mvT hZ28 (wd hw 40 rfl)) (by decide) (backOf (W := 0) (rmM3 l Z a0 hw [] x ch0 ch1 ch2 G fv h28 n0 z29 SE28 kch0 kch1 kch2 W0 f31) hZ28 (wd hw 42 rfl) (wd hw 4 rfl) (by decide) (by decide)) q39a q39c (g := (mkF m 80 #[(sr x), (si 3), (si ch2), (si 0)] [(.ref x)])) rfl (by rw [hml]; rfl) (Steps.refl _) (argsL := []) (rest := []) (lenOf pd_10 rfl) rfl (by show 2 * 0 + _ ≤ _; exact Nat.le_of_eq rfl) (D d29_80) (fun _ _ => ⟨rfl, e36, (by decide : 2 + 0 ≤ _), (by decide : 64 + 0 ≤ _)⟩)
          dsimp only [Pt.U, Pt.locs, Pt.cells, Pt.slots] at X39 l39 y39 z39 st39 hQ39
          subst l39 y39 z39
          obtain ⟨rfl, rfl, e39⟩ := hQ39
          have N39 := Fr.app N36 (Fr.nil n0)
          have go39 : Go p e below E0 T39 m 83 #[(sr x), (si 3), (si ch2), (si 0)] [(.int 0)] := fun tgt kont => go38 tgt (st39.trans kont)
          have go40 : Go p e below E0 T39 m 91 #[(sr x), (si 3), (si ch2), (si 0)] [(.int 1)] := fun tgt kont => go39 tgt (by
            refine XS.ifNo X39.here hx rfl (D d29_83) rfl ((if0 _ _).trans (teq rfl).2) ?_; refine XS.iconst X39.here hx rfl (D d29_86) ?_; refine XS.goto X39.here hx rfl (pc0 := 87) (pc' := 91) rfl (D d29_87) (by decide) (by decide) ?_; exact kont)
          obtain ⟨fs, hr, hrun, hended, hW⟩ := X39.leaveW hS28 (by rw [e39]; exact hk28) (v := some (.int (1 : Int32))) (fun h => by rw [Bd.returns] at h; cases h)
          refine ⟨_, _, go40 _ ?_, hrun, hended, _, _, rfl, ?_, hW.1, hW.2.1, hW.2.2.1, hW.2.2.2.mono (by decide) (by decide)⟩
          · show Steps p.tables e below (T39.setTop (mkF m 91 #[(sr x), (si 3), (si ch2), (si 0)] [(.int 1)])) _
            exact retN X39 hx (t := .boolean) Bd.returns (by simp) (D d29_91) hr
          · show QT3 Z x ch0 ch1 ch2 G fv h0 n0 _ T39.heap _ T39.vm
            rw [e39]
            exact ⟨_, rfl, N39, K30, Or.inl ⟨rfl, ⟨tk0, tk1, tk2⟩⟩⟩
        · have go41 : Go p e below E0 T33 m 72 #[(sr x), (si 2), (si ch2), (si 0)] [(.int 0)] := fun tgt kont => go33 tgt (by
            refine XS.ifNo X33.here hx rfl (D d29_68) rfl ((if0 _ _).trans (tlt hz2).2.1) ?_; refine XS.iconst X33.here hx rfl (D d29_71) ?_; exact kont)
          obtain ⟨fs, hr, hrun, hended, hW⟩ := X33.leaveW hS28 (by rw [e33]; exact hk28) (v := some (.int (0 : Int32))) (fun h => by rw [Bd.returns] at h; cases h)
          refine ⟨_, _, go41 _ ?_, hrun, hended, _, _, rfl, ?_, hW.1, hW.2.1, hW.2.2.1, hW.2.2.2.mono (by decide) (by decide)⟩
          · show Steps p.tables e below (T33.setTop (mkF m 72 #[(sr x), (si 2), (si ch2), (si 0)] [(.int 0)])) _
            exact retN X33 hx (t := .boolean) Bd.returns (by simp) (D d29_72) hr
          · show QT3 Z x ch0 ch1 ch2 G fv h0 n0 _ T33.heap _ T33.vm
            rw [e33]
            exact ⟨_, rfl, N33, K30, Or.inr ⟨rfl, fun q => (q.2.2).elim ha2 hs2⟩⟩
    · have go42 : Go p e below E0 T11 m 62 #[(sr x), (si 1), (si ch1), (si 0)] [] := fun tgt kont => go13 tgt (by
        refine XS.iloadN X11.here hx rfl (D d29_58) rfl ?_; refine XS.ifNo X11.here hx rfl (D d29_59) rfl ((if0 _ _).trans (teq rfl).2) ?_; exact kont)
      have hkeep43 : ∀ (b : Addr) (cl : Cell), Z.heap[b]? = some cl → s.heap[b]? = some cl := fun b cl q => by rw [hh]; exact O0.2.2 b cl q
      obtain ⟨la, T43, h43, k43, lb, lk, X43, e43, E43, hS43, hk43, hZ43, hown43, E_la, C_la, V_la, A_la, -, -, -, Lt_la, st43⟩ := ldcSVL X11 hx hZ hown (wd hw 79 rfl) hwS e11 hS0 hk0 (fun y hy => by simp at hy) hkeep43 hJ0 (by simp) hH3 hCW (vs := own_SL) (z := (15 : Int32)) ⟨by decide +kernel, by decide +kernel⟩ (by decide) (by decide) (g := (mkF m 62 #[(sr x), (si 1), (si ch1), (si 0)] [])) rfl (D d29_62) (n := 60) (by decide +kernel) (by decide) (by decide) (by decide)
      have z44 : n0 ≤ h43.size := Nat.le_trans Z0 E43.1
      have K45 : Keep h0 h43 [] := (Keep.refl h0 []).ext E43
      have go43 : Go p e below E0 T43 m 64 #[(sr x), (si 1), (si ch1), (si 0)] [(.ref la)] := fun tgt kont => go42 tgt (st43 tgt kont)
      have SE43 : own_S3 Z h43 x ch0 ch1 ch2 := own_S3ext S0 E43
      have f46 : Old Z n0 h43 := (O0.ext E43)
      have go47 : Go p e below E0 T43 m 65 #[(sr x), (si 1), (si ch1), (si 0)] [(.int ch1), (.ref la)] := fun tgt kont => go43 tgt (by
        refine XS.iloadN X43.here hx rfl (D d29_64) rfl ?_; exact kont)
      obtain ⟨cq48, kq48, q48a, q48b, q48c⟩ := isOf hZ43 e43 E_la
      obtain ⟨_, _, ⟨T48, L48, k48, n48⟩, -, X48, ⟨Lc48, hQ48, l48, y48, z48⟩, st48⟩ := X43.virtualBack hx (y := (⟨"java/lang/String", "indexOf", "(I)I"⟩ : MethodName)) (z := (⟨"java/lang/String", "indexOf", "(I)I"⟩ : MethodName)) hown43 (mvT hZ43 (wd hw 80 rfl)) (mvT hZ43 (wd hw 81 rfl)) (notFace_of_selects (args := #[]) (mvT hZ43 (wd hw 83 rfl))) (mvT hZ43 (wd hw 83 rfl)) (mvT hZ43 (wd hw 82 rfl)) (by decide) (backOf (W := 0) (rmI1 l Z a0 hw [] la lb lk ch1 G fv h43 n0 z44 E_la C_la V_la A_la kch1.1 W0 f46) hZ43 (wd hw 84 rfl) (wd hw 4 rfl) (by decide) (by decide)) q48a q48c (g := (mkF m 65 #[(sr x), (si 1), (si ch1), (si 0)] [(.int ch1), (.ref la)])) rfl (by rw [hml]; rfl) (Steps.refl _) (argsL := [(.int ch1)]) (rest := []) (lenOf pd_16 rfl) rfl (by show 2 * 0 + _ ≤ _; exact Nat.le_of_eq rfl) (D d29_65) (fun _ _ => ⟨rfl, e43, (by decide : 2 + 0 ≤ _), (by decide : 64 + 0 ≤ _)⟩)
      dsimp only [Pt.U, Pt.locs, Pt.cells, Pt.slots] at X48 l48 y48 z48 st48 hQ48
      subst l48 y48 z48
      obtain ⟨r1, rfl, rfl, e48, hr1⟩ := hQ48
      have N48 := Fr.app N11 (Fr.nil n0)
      have go48 : Go p e below E0 T48 m 68 #[(sr x), (si 1), (si ch1), (si 0)] [(.int r1)] := fun tgt kont => go47 tgt (st48.trans kont)
      rcases hr1 with ⟨hz1, hs1⟩ | ⟨hz1, hs1⟩
      · have go49 : Go p e below E0 T48 m 73 #[(sr x), (si 1), (si ch1), (si 0)] [] := fun tgt kont => go48 tgt (by
          refine XS.ifYes X48.here hx rfl (pc0 := 68) (pc' := 73) rfl (D d29_68) rfl ((if0 _ _).trans (flt hz1).2.1) (by decide) (by decide) ?_; exact kont)
        have tk1 : own_tc ch1 := Or.inr hs1
        have go50 : Go p e below E0 T48 m 4 #[(sr x), (si 2), (si ch1), (si 0)] [(.ref x), (.int 2)] := fun tgt kont => go49 tgt (by
          refine XS.iinc X48.here hx rfl (D d29_73) rfl (l' := #[(sr x), (si 2), (si ch1), (si 0)]) rfl ?_; refine XS.goto X48.here hx rfl (pc0 := 76) (pc' := 2) rfl (D d29_76) (by decide) (by decide) ?_; refine XS.iloadN X48.here hx rfl (D d29_2) rfl ?_; refine XS.aloadN X48.here hx rfl (D d29_3) rfl rfl ?_; exact kont)
        have f52 : Exa Z h43 x "java/lang/String" := (Ex.ext E43)
        obtain ⟨cq51, kq51, q51a, q51b, q51c⟩ := isOf hZ43 e48 f52
        obtain ⟨_, _, ⟨T51, L51, k51, n51⟩, -, X51, ⟨Lc51, hQ51, l51, y51, z51⟩, st51⟩ := X48.virtualBack hx (y := (⟨"java/lang/String", "length", "()I"⟩ : MethodName)) (z := (⟨"java/lang/String", "length", "()I"⟩ : MethodName)) hown43 (mvT hZ43 (wd hw 27 rfl)) (mvT hZ43 (wd hw 28 rfl)) (notFace_of_selects (args := #[]) (mvT hZ43 (wd hw 30 rfl))) (mvT hZ43 (wd hw 30 rfl)) (mvT hZ43 (wd hw 29 rfl)) (by decide) (backOf (W := 1) (rmE3 l Z a0 hw [] x ch0 ch1 ch2 G fv h43 n0 z44 SE43 kch0 kch1 kch2 W0 f46) hZ43 (wd hw 31 rfl) (wd hw 4 rfl) (by decide) (by decide)) q51a q51c (g := (mkF m 4 #[(sr x), (si 2), (si ch1), (si 0)] [(.ref x), (.int 2)])) rfl (by rw [hml]; rfl) (Steps.refl _) (argsL := []) (rest := [(.int (2 : Int32))]) (lenOf pd_15 rfl) rfl (by show 2 * 0 + _ ≤ _; exact Nat.le_of_eq rfl) (D d29_4) (fun _ _ => ⟨rfl, e48, (by decide : 2 + 0 ≤ _), (by decide : 64 + 0 ≤ _)⟩)
        dsimp only [Pt.U, Pt.locs, Pt.cells, Pt.slots] at X51 l51 y51 z51 st51 hQ51
        subst l51 y51 z51
        obtain ⟨rfl, rfl, e51⟩ := hQ51
        have N51 := Fr.app N48 (Fr.nil n0)
        have go51 : Go p e below E0 T51 m 7 #[(sr x), (si 2), (si ch1), (si 0)] [(.int 3), (.int 2)] := fun tgt kont => go50 tgt (st51.trans kont)
        have go53 : Go p e below E0 T51 m 12 #[(sr x), (si 2), (si ch1), (si 0)] [(.int 2), (.ref x)] := fun tgt kont => go51 tgt (by
          refine XS.icmpNo X51.here hx rfl (D d29_7) rfl (tlt (by decide)).2.1 ?_; refine XS.aloadN X51.here hx rfl (D d29_10) rfl rfl ?_; refine XS.iloadN X51.here hx rfl (D d29_11) rfl ?_; exact kont)
        obtain ⟨cq54, kq54, q54a, q54b, q54c⟩ := isOf hZ43 e51 f52
        obtain ⟨_, _, ⟨T54, L54, k54, n54⟩, -, X54, ⟨Lc54, hQ54, l54, y54, z54⟩, st54⟩ := X51.virtualBack hx (y := (⟨"java/lang/String", "charAt", "(I)C"⟩ : MethodName)) (z := (⟨"java/lang/String", "charAt", "(I)C"⟩ : MethodName)) hown43 (mvT hZ43 (wd hw 57 rfl)) (mvT hZ43 (wd hw 58 rfl)) (notFace_of_selects (args := #[]) (mvT hZ43 (wd hw 60 rfl))) (mvT hZ43 (wd hw 60 rfl)) (mvT hZ43 (wd hw 59 rfl)) (by decide) (backOf (W := 0) (rmC32 l Z a0 hw [] x ch0 ch1 ch2 G fv h43 n0 z44 SE43 kch0 kch1 kch2 W0 f46) hZ43 (wd hw 61 rfl) (wd hw 4 rfl) (by decide) (by decide)) q54a q54c (g := (mkF m 12 #[(sr x), (si 2), (si ch1), (si 0)] [(.int 2), (.ref x)])) rfl (by rw [hml]; rfl) (Steps.refl _) (argsL := [(.int (2 : Int32))]) (rest := []) (lenOf pd_24 rfl) rfl (by show 2 * 0 + _ ≤ _; exact Nat.le_of_eq rfl) (D d29_12) (fun _ _ => ⟨rfl, e51, (by decide : 2 + 0 ≤ _), (by decide : 64 + 0 ≤ _)⟩)
        dsimp only [Pt.U, Pt.locs, Pt.cells, Pt.slots] at X54 l54 y54 z54 st54 hQ54
        subst l54 y54 z54
        obtain ⟨rfl, rfl, e54⟩ := hQ54
        have N54 := Fr.app N51 (Fr.nil n0)
        have go54 : Go p e below E0 T54 m 15 #[(sr x), (si 2), (si ch1), (si 0)] [(.int ch2)] := fun tgt kont => go53 tgt (st54.trans kont)
        have go55 : Go p e below E0 T54 m 16 #[(sr x), (si 2), (si ch2), (si 0)] [] := fun tgt kont => go54 tgt (by
          refine XS.istoreN X54.here hx rfl (D d29_15) rfl (l' := #[(sr x), (si 2), (si ch2), (si 0)]) rfl ?_; exact kont)
        obtain ⟨b2, hb2, go56⟩ : ∃ b2 : Int32, ((b2 = 1 ∧ own_an ch2) ∨ (b2 = 0 ∧ ¬ own_an ch2)) ∧ Go p e below E0 T54 m 58 #[(sr x), (si 2), (si ch2), (si b2)] [] := by
          by_cases y0 : ch2 < (97 : Int32)
          · by_cases y1 : ch2 < (65 : Int32)
            · by_cases y2 : ch2 < (48 : Int32)
              · exact ⟨(0 : Int32), Or.inr ⟨rfl, (by simp only [own_tc, own_an, own_sp, Int32.lt_iff_toInt_lt, ← Int32.toInt_inj, Int32.reduceToInt] at y0 y1 y2 ⊢; omega)⟩, fun tgt kont => go55 tgt (by refine XS.iloadN X54.here hx rfl (D d29_16) rfl ?_; refine XS.bipush X54.here hx rfl (D d29_17) ?_; refine XS.icmpYes X54.here hx rfl (pc0 := 19) (pc' := 28) rfl (D d29_19) rfl (tlt y0).1 (by decide) (by decide) ?_; refine XS.iloadN X54.here hx rfl (D d29_28) rfl ?_; refine XS.bipush X54.here hx rfl (D d29_29) ?_; refine XS.icmpYes X54.here hx rfl (pc0 := 31) (pc' := 40) rfl (D d29_31) rfl (tlt y1).1 (by decide) (by decide) ?_; refine XS.iloadN X54.here hx rfl (D d29_40) rfl ?_; refine XS.bipush X54.here hx rfl (D d29_41) ?_; refine XS.icmpYes X54.here hx rfl (pc0 := 43) (pc' := 56) rfl (D d29_43) rfl (tlt y2).1 (by decide) (by decide) ?_; refine XS.iconst X54.here hx rfl (D d29_56) ?_; refine XS.istoreN X54.here hx rfl (D d29_57) rfl (l' := #[(sr x), (si 2), (si ch2), (si 0)]) rfl ?_; exact kont)⟩
              · by_cases y3 : (57 : Int32) < ch2
                · exact ⟨(0 : Int32), Or.inr ⟨rfl, (by simp only [own_tc, own_an, own_sp, Int32.lt_iff_toInt_lt, ← Int32.toInt_inj, Int32.reduceToInt] at y0 y1 y2 y3 ⊢; omega)⟩, fun tgt kont => go55 tgt (by refine XS.iloadN X54.here hx rfl (D d29_16) rfl ?_; refine XS.bipush X54.here hx rfl (D d29_17) ?_; refine XS.icmpYes X54.here hx rfl (pc0 := 19) (pc' := 28) rfl (D d29_19) rfl (tlt y0).1 (by decide) (by decide) ?_; refine XS.iloadN X54.here hx rfl (D d29_28) rfl ?_; refine XS.bipush X54.here hx rfl (D d29_29) ?_; refine XS.icmpYes X54.here hx rfl (pc0 := 31) (pc' := 40) rfl (D d29_31) rfl (tlt y1).1 (by decide) (by decide) ?_; refine XS.iloadN X54.here hx rfl (D d29_40) rfl ?_; refine XS.bipush X54.here hx rfl (D d29_41) ?_; refine XS.icmpNo X54.here hx rfl (D d29_43) rfl (flt y2).1 ?_; refine XS.iloadN X54.here hx rfl (D d29_46) rfl ?_; refine XS.bipush X54.here hx rfl (D d29_47) ?_; refine XS.icmpYes X54.here hx rfl (pc0 := 49) (pc' := 56) rfl (D d29_49) rfl (tlt y3).2.2.1 (by decide) (by decide) ?_; refine XS.iconst X54.here hx rfl (D d29_56) ?_; refine XS.istoreN X54.here hx rfl (D d29_57) rfl (l' := #[(sr x), (si 2), (si ch2), (si 0)]) rfl ?_; exact kont)⟩
                · exact ⟨(1 : Int32), Or.inl ⟨rfl, (by simp only [own_tc, own_an, own_sp, Int32.lt_iff_toInt_lt, ← Int32.toInt_inj, Int32.reduceToInt] at y0 y1 y2 y3 ⊢; omega)⟩, fun tgt kont => go55 tgt (by refine XS.iloadN X54.here hx rfl (D d29_16) rfl ?_; refine XS.bipush X54.here hx rfl (D d29_17) ?_; refine XS.icmpYes X54.here hx rfl (pc0 := 19) (pc' := 28) rfl (D d29_19) rfl (tlt y0).1 (by decide) (by decide) ?_; refine XS.iloadN X54.here hx rfl (D d29_28) rfl ?_; refine XS.bipush X54.here hx rfl (D d29_29) ?_; refine XS.icmpYes X54.here hx rfl (pc0 := 31) (pc' := 40) rfl (D d29_31) rfl (tlt y1).1 (by decide) (by decide) ?_; refine XS.iloadN X54.here hx rfl (D d29_40) rfl ?_; refine XS.bipush X54.here hx rfl (D d29_41) ?_; refine XS.icmpNo X54.here hx rfl (D d29_43) rfl (flt y2).1 ?_; refine XS.iloadN X54.here hx rfl (D d29_46) rfl ?_; refine XS.bipush X54.here hx rfl (D d29_47) ?_; refine XS.icmpNo X54.here hx rfl (D d29_49) rfl (flt y3).2.2.1 ?_; refine XS.iconst X54.here hx rfl (D d29_52) ?_; refine XS.goto X54.here hx rfl (pc0 := 53) (pc' := 57) rfl (D d29_53) (by decide) (by decide) ?_; refine XS.istoreN X54.here hx rfl (D d29_57) rfl (l' := #[(sr x), (si 2), (si ch2), (si 1)]) rfl ?_; exact kont)⟩
            · by_cases y2 : (90 : Int32) < ch2
              · exact ⟨(0 : Int32), Or.inr ⟨rfl, (by simp only [own_tc, own_an, own_sp, Int32.lt_iff_toInt_lt, ← Int32.toInt_inj, Int32.reduceToInt] at y0 y1 y2 ⊢; omega)⟩, fun tgt kont => go55 tgt (by refine XS.iloadN X54.here hx rfl (D d29_16) rfl ?_; refine XS.bipush X54.here hx rfl (D d29_17) ?_; refine XS.icmpYes X54.here hx rfl (pc0 := 19) (pc' := 28) rfl (D d29_19) rfl (tlt y0).1 (by decide) (by decide) ?_; refine XS.iloadN X54.here hx rfl (D d29_28) rfl ?_; refine XS.bipush X54.here hx rfl (D d29_29) ?_; refine XS.icmpNo X54.here hx rfl (D d29_31) rfl (flt y1).1 ?_; refine XS.iloadN X54.here hx rfl (D d29_34) rfl ?_; refine XS.bipush X54.here hx rfl (D d29_35) ?_; refine XS.icmpNo X54.here hx rfl (D d29_37) rfl (tlt y2).2.2.2 ?_; refine XS.iloadN X54.here hx rfl (D d29_40) rfl ?_; refine XS.bipush X54.here hx rfl (D d29_41) ?_; refine XS.icmpNo X54.here hx rfl (D d29_43) rfl (flt (by simp only [Int32.lt_iff_toInt_lt, ← Int32.toInt_inj, Int32.reduceToInt] at y0 y1 y2 ⊢; omega : ¬ ch2 < (48 : Int32))).1 ?_; refine XS.iloadN X54.here hx rfl (D d29_46) rfl ?_; refine XS.bipush X54.here hx rfl (D d29_47) ?_; refine XS.icmpYes X54.here hx rfl (pc0 := 49) (pc' := 56) rfl (D d29_49) rfl (tlt (by simp only [Int32.lt_iff_toInt_lt, ← Int32.toInt_inj, Int32.reduceToInt] at y0 y1 y2 ⊢; omega : (57 : Int32) < ch2)).2.2.1 (by decide) (by decide) ?_; refine XS.iconst X54.here hx rfl (D d29_56) ?_; refine XS.istoreN X54.here hx rfl (D d29_57) rfl (l' := #[(sr x), (si 2), (si ch2), (si 0)]) rfl ?_; exact kont)⟩
              · exact ⟨(1 : Int32), Or.inl ⟨rfl, (by simp only [own_tc, own_an, own_sp, Int32.lt_iff_toInt_lt, ← Int32.toInt_inj, Int32.reduceToInt] at y0 y1 y2 ⊢; omega)⟩, fun tgt kont => go55 tgt (by refine XS.iloadN X54.here hx rfl (D d29_16) rfl ?_; refine XS.bipush X54.here hx rfl (D d29_17) ?_; refine XS.icmpYes X54.here hx rfl (pc0 := 19) (pc' := 28) rfl (D d29_19) rfl (tlt y0).1 (by decide) (by decide) ?_; refine XS.iloadN X54.here hx rfl (D d29_28) rfl ?_; refine XS.bipush X54.here hx rfl (D d29_29) ?_; refine XS.icmpNo X54.here hx rfl (D d29_31) rfl (flt y1).1 ?_; refine XS.iloadN X54.here hx rfl (D d29_34) rfl ?_; refine XS.bipush X54.here hx rfl (D d29_35) ?_; refine XS.icmpYes X54.here hx rfl (pc0 := 37) (pc' := 52) rfl (D d29_37) rfl (flt y2).2.2.2 (by decide) (by decide) ?_; refine XS.iconst X54.here hx rfl (D d29_52) ?_; refine XS.goto X54.here hx rfl (pc0 := 53) (pc' := 57) rfl (D d29_53) (by decide) (by decide) ?_; refine XS.istoreN X54.here hx rfl (D d29_57) rfl (l' := #[(sr x), (si 2), (si ch2), (si 1)]) rfl ?_; exact kont)⟩
          · by_cases y1 : (122 : Int32) < ch2
            · exact ⟨(0 : Int32), Or.inr ⟨rfl, (by simp only [own_tc, own_an, own_sp, Int32.lt_iff_toInt_lt, ← Int32.toInt_inj, Int32.reduceToInt] at y0 y1 ⊢; omega)⟩, fun tgt kont => go55 tgt (by refine XS.iloadN X54.here hx rfl (D d29_16) rfl ?_; refine XS.bipush X54.here hx rfl (D d29_17) ?_; refine XS.icmpNo X54.here hx rfl (D d29_19) rfl (flt y0).1 ?_; refine XS.iloadN X54.here hx rfl (D d29_22) rfl ?_; refine XS.bipush X54.here hx rfl (D d29_23) ?_; refine XS.icmpNo X54.here hx rfl (D d29_25) rfl (tlt y1).2.2.2 ?_; refine XS.iloadN X54.here hx rfl (D d29_28) rfl ?_; refine XS.bipush X54.here hx rfl (D d29_29) ?_; refine XS.icmpNo X54.here hx rfl (D d29_31) rfl (flt (by simp only [Int32.lt_iff_toInt_lt, ← Int32.toInt_inj, Int32.reduceToInt] at y0 y1 ⊢; omega : ¬ ch2 < (65 : Int32))).1 ?_; refine XS.iloadN X54.here hx rfl (D d29_34) rfl ?_; refine XS.bipush X54.here hx rfl (D d29_35) ?_; refine XS.icmpNo X54.here hx rfl (D d29_37) rfl (tlt (by simp only [Int32.lt_iff_toInt_lt, ← Int32.toInt_inj, Int32.reduceToInt] at y0 y1 ⊢; omega : (90 : Int32) < ch2)).2.2.2 ?_; refine XS.iloadN X54.here hx rfl (D d29_40) rfl ?_; refine XS.bipush X54.here hx rfl (D d29_41) ?_; refine XS.icmpNo X54.here hx rfl (D d29_43) rfl (flt (by simp only [Int32.lt_iff_toInt_lt, ← Int32.toInt_inj, Int32.reduceToInt] at y0 y1 ⊢; omega : ¬ ch2 < (48 : Int32))).1 ?_; refine XS.iloadN X54.here hx rfl (D d29_46) rfl ?_; refine XS.bipush X54.here hx rfl (D d29_47) ?_; refine XS.icmpYes X54.here hx rfl (pc0 := 49) (pc' := 56) rfl (D d29_49) rfl (tlt (by simp only [Int32.lt_iff_toInt_lt, ← Int32.toInt_inj, Int32.reduceToInt] at y0 y1 ⊢; omega : (57 : Int32) < ch2)).2.2.1 (by decide) (by decide) ?_; refine XS.iconst X54.here hx rfl (D d29_56) ?_; refine XS.istoreN X54.here hx rfl (D d29_57) rfl (l' := #[(sr x), (si 2), (si ch2), (si 0)]) rfl ?_; exact kont)⟩
            · exact ⟨(1 : Int32), Or.inl ⟨rfl, (by simp only [own_tc, own_an, own_sp, Int32.lt_iff_toInt_lt, ← Int32.toInt_inj, Int32.reduceToInt] at y0 y1 ⊢; omega)⟩, fun tgt kont => go55 tgt (by refine XS.iloadN X54.here hx rfl (D d29_16) rfl ?_; refine XS.bipush X54.here hx rfl (D d29_17) ?_; refine XS.icmpNo X54.here hx rfl (D d29_19) rfl (flt y0).1 ?_; refine XS.iloadN X54.here hx rfl (D d29_22) rfl ?_; refine XS.bipush X54.here hx rfl (D d29_23) ?_; refine XS.icmpYes X54.here hx rfl (pc0 := 25) (pc' := 52) rfl (D d29_25) rfl (flt y1).2.2.2 (by decide) (by decide) ?_; refine XS.iconst X54.here hx rfl (D d29_52) ?_; refine XS.goto X54.here hx rfl (pc0 := 53) (pc' := 57) rfl (D d29_53) (by decide) (by decide) ?_; refine XS.istoreN X54.here hx rfl (D d29_57) rfl (l' := #[(sr x), (si 2), (si ch2), (si 1)]) rfl ?_; exact kont)⟩
        rcases hb2 with ⟨rfl, ha2⟩ | ⟨rfl, ha2⟩
        · have go57 : Go p e below E0 T54 m 73 #[(sr x), (si 2), (si ch2), (si 1)] [] := fun tgt kont => go56 tgt (by
            refine XS.iloadN X54.here hx rfl (D d29_58) rfl ?_; refine XS.ifYes X54.here hx rfl (pc0 := 59) (pc' := 73) rfl (D d29_59) rfl ((if0 _ _).trans (feq (by decide)).2) (by decide) (by decide) ?_; exact kont)
          have tk2 : own_tc ch2 := Or.inl ha2
          have go58 : Go p e below E0 T54 m 4 #[(sr x), (si 3), (si ch2), (si 1)] [(.ref x), (.int 3)] := fun tgt kont => go57 tgt (by
            refine XS.iinc X54.here hx rfl (D d29_73) rfl (l' := #[(sr x), (si 3), (si ch2), (si 1)]) rfl ?_; refine XS.goto X54.here hx rfl (pc0 := 76) (pc' := 2) rfl (D d29_76) (by decide) (by decide) ?_; refine XS.iloadN X54.here hx rfl (D d29_2) rfl ?_; refine XS.aloadN X54.here hx rfl (D d29_3) rfl rfl ?_; exact kont)
          obtain ⟨cq59, kq59, q59a, q59b, q59c⟩ := isOf hZ43 e54 f52
          obtain ⟨_, _, ⟨T59, L59, k59, n59⟩, -, X59, ⟨Lc59, hQ59, l59, y59, z59⟩, st59⟩ := X54.virtualBack hx (y := (⟨"java/lang/String", "length", "()I"⟩ : MethodName)) (z := (⟨"java/lang/String", "length", "()I"⟩ : MethodName)) hown43 (mvT hZ43 (wd hw 27 rfl)) (mvT hZ43 (wd hw 28 rfl)) (notFace_of_selects (args := #[]) (mvT hZ43 (wd hw 30 rfl))) (mvT hZ43 (wd hw 30 rfl)) (mvT hZ43 (wd hw 29 rfl)) (by decide) (backOf (W := 1) (rmE3 l Z a0 hw [] x ch0 ch1 ch2 G fv h43 n0 z44 SE43 kch0 kch1 kch2 W0 f46) hZ43 (wd hw 31 rfl) (wd hw 4 rfl) (by decide) (by decide)) q59a q59c (g := (mkF m 4 #[(sr x), (si 3), (si ch2), (si 1)] [(.ref x), (.int 3)])) rfl (by rw [hml]; rfl) (Steps.refl _) (argsL := []) (rest := [(.int (3 : Int32))]) (lenOf pd_15 rfl) rfl (by show 2 * 0 + _ ≤ _; exact Nat.le_of_eq rfl) (D d29_4) (fun _ _ => ⟨rfl, e54, (by decide : 2 + 0 ≤ _), (by decide : 64 + 0 ≤ _)⟩)
          dsimp only [Pt.U, Pt.locs, Pt.cells, Pt.slots] at X59 l59 y59 z59 st59 hQ59
          subst l59 y59 z59
          obtain ⟨rfl, rfl, e59⟩ := hQ59
          have N59 := Fr.app N54 (Fr.nil n0)
          have go59 : Go p e below E0 T59 m 7 #[(sr x), (si 3), (si ch2), (si 1)] [(.int 3), (.int 3)] := fun tgt kont => go58 tgt (st59.trans kont)
          have go60 : Go p e below E0 T59 m 80 #[(sr x), (si 3), (si ch2), (si 1)] [(.ref x)] := fun tgt kont => go59 tgt (by
            refine XS.icmpYes X59.here hx rfl (pc0 := 7) (pc' := 79) rfl (D d29_7) rfl (flt (by decide)).2.1 (by decide) (by decide) ?_; refine XS.aloadN X59.here hx rfl (D d29_79) rfl rfl ?_; exact kont)
          obtain ⟨cq61, kq61, q61a, q61b, q61c⟩ := isOf hZ43 e59 f52
          obtain ⟨_, _, ⟨T61, L61, k61, n61⟩, -, X61, ⟨Lc61, hQ61, l61, y61, z61⟩, st61⟩ := X59.virtualBack hx (y := (⟨"java/lang/String", "isEmpty", "()Z"⟩ : MethodName)) (z := (⟨"java/lang/String", "isEmpty", "()Z"⟩ : MethodName)) hown43 (mvT hZ43 (wd hw 38 rfl)) (mvT hZ43 (wd hw 39 rfl)) (notFace_of_selects (args := #[]) (mvT hZ43 (wd hw 41 rfl))) (mvT hZ43 (wd hw 41 rfl)) (mvT hZ43 (wd hw 40 rfl)) (by decide) (backOf (W := 0) (rmM3 l Z a0 hw [] x ch0 ch1 ch2 G fv h43 n0 z44 SE43 kch0 kch1 kch2 W0 f46) hZ43 (wd hw 42 rfl) (wd hw 4 rfl) (by decide) (by decide)) q61a q61c (g := (mkF m 80 #[(sr x), (si 3), (si ch2), (si 1)] [(.ref x)])) rfl (by rw [hml]; rfl) (Steps.refl _) (argsL := []) (rest := []) (lenOf pd_10 rfl) rfl (by show 2 * 0 + _ ≤ _; exact Nat.le_of_eq rfl) (D d29_80) (fun _ _ => ⟨rfl, e59, (by decide : 2 + 0 ≤ _), (by decide : 64 + 0 ≤ _)⟩)
          dsimp only [Pt.U, Pt.locs, Pt.cells, Pt.slots] at X61 l61 y61 z61 st61 hQ61
          subst l61 y61 z61
          obtain ⟨rfl, rfl, e61⟩ := hQ61
          have N61 := Fr.app N59 (Fr.nil n0)
          have go61 : Go p e below E0 T61 m 83 #[(sr x), (si 3), (si ch2), (si 1)] [(.int 0)] := fun tgt kont => go60 tgt (st61.trans kont)
          have go62 : Go p e below E0 T61 m 91 #[(sr x), (si 3), (si ch2), (si 1)] [(.int 1)] := fun tgt kont => go61 tgt (by
            refine XS.ifNo X61.here hx rfl (D d29_83) rfl ((if0 _ _).trans (teq rfl).2) ?_; refine XS.iconst X61.here hx rfl (D d29_86) ?_; refine XS.goto X61.here hx rfl (pc0 := 87) (pc' := 91) rfl (D d29_87) (by decide) (by decide) ?_; exact kont)
          obtain ⟨fs, hr, hrun, hended, hW⟩ := X61.leaveW hS43 (by rw [e61]; exact hk43) (v := some (.int (1 : Int32))) (fun h => by rw [Bd.returns] at h; cases h)
          refine ⟨_, _, go62 _ ?_, hrun, hended, _, _, rfl, ?_, hW.1, hW.2.1, hW.2.2.1, hW.2.2.2.mono (by decide) (by decide)⟩
          · show Steps p.tables e below (T61.setTop (mkF m 91 #[(sr x), (si 3), (si ch2), (si 1)] [(.int 1)])) _
            exact retN X61 hx (t := .boolean) Bd.returns (by simp) (D d29_91) hr
          · show QT3 Z x ch0 ch1 ch2 G fv h0 n0 _ T61.heap _ T61.vm
            rw [e61]
            exact ⟨_, rfl, N61, K45, Or.inl ⟨rfl, ⟨tk0, tk1, tk2⟩⟩⟩
        · have go63 : Go p e below E0 T54 m 62 #[(sr x), (si 2), (si ch2), (si 0)] [] := fun tgt kont => go56 tgt (by
            refine XS.iloadN X54.here hx rfl (D d29_58) rfl ?_; refine XS.ifNo X54.here hx rfl (D d29_59) rfl ((if0 _ _).trans (teq rfl).2) ?_; exact kont)
          have go64 : Go p e below E0 T54 m 64 #[(sr x), (si 2), (si ch2), (si 0)] [(.ref la)] := fun tgt kont => go63 tgt (ldcAgain X54 hx hZ43 hown43 (wd hw 79 rfl) Lt_la (g := (mkF m 62 #[(sr x), (si 2), (si ch2), (si 0)] [])) rfl (D d29_62) tgt kont)
          have go65 : Go p e below E0 T54 m 65 #[(sr x), (si 2), (si ch2), (si 0)] [(.int ch2), (.ref la)] := fun tgt kont => go64 tgt (by
            refine XS.iloadN X54.here hx rfl (D d29_64) rfl ?_; exact kont)
          obtain ⟨cq66, kq66, q66a, q66b, q66c⟩ := isOf hZ43 e54 E_la
          obtain ⟨_, _, ⟨T66, L66, k66, n66⟩, -, X66, ⟨Lc66, hQ66, l66, y66, z66⟩, st66⟩ := X54.virtualBack hx (y := (⟨"java/lang/String", "indexOf", "(I)I"⟩ : MethodName)) (z := (⟨"java/lang/String", "indexOf", "(I)I"⟩ : MethodName)) hown43 (mvT hZ43 (wd hw 80 rfl)) (mvT hZ43 (wd hw 81 rfl)) (notFace_of_selects (args := #[]) (mvT hZ43 (wd hw 83 rfl))) (mvT hZ43 (wd hw 83 rfl)) (mvT hZ43 (wd hw 82 rfl)) (by decide) (backOf (W := 0) (rmI1 l Z a0 hw [] la lb lk ch2 G fv h43 n0 z44 E_la C_la V_la A_la kch2.1 W0 f46) hZ43 (wd hw 84 rfl) (wd hw 4 rfl) (by decide) (by decide)) q66a q66c (g := (mkF m 65 #[(sr x), (si 2), (si ch2), (si 0)] [(.int ch2), (.ref la)])) rfl (by rw [hml]; rfl) (Steps.refl _) (argsL := [(.int ch2)]) (rest := []) (lenOf pd_16 rfl) rfl (by show 2 * 0 + _ ≤ _; exact Nat.le_of_eq rfl) (D d29_65) (fun _ _ => ⟨rfl, e54, (by decide : 2 + 0 ≤ _), (by decide : 64 + 0 ≤ _)⟩)
          dsimp only [Pt.U, Pt.locs, Pt.cells, Pt.slots] at X66 l66 y66 z66 st66 hQ66
          subst l66 y66 z66
          obtain ⟨r2, rfl, rfl, e66, hr2⟩ := hQ66
          have N66 := Fr.app N54 (Fr.nil n0)
          have go66 : Go p e below E0 T66 m 68 #[(sr x), (si 2), (si ch2), (si 0)] [(.int r2)] := fun tgt kont => go65 tgt (st66.trans kont)
          rcases hr2 with ⟨hz2, hs2⟩ | ⟨hz2, hs2⟩
          · have go67 : Go p e below E0 T66 m 73 #[(sr x), (si 2), (si ch2), (si 0)] [] := fun tgt kont => go66 tgt (by
              refine XS.ifYes X66.here hx rfl (pc0 := 68) (pc' := 73) rfl (D d29_68) rfl ((if0 _ _).trans (flt hz2).2.1) (by decide) (by decide) ?_; exact kont)
            have tk2 : own_tc ch2 := Or.inr hs2
            have go68 : Go p e below E0 T66 m 4 #[(sr x), (si 3), (si ch2), (si 0)] [(.ref x), (.int 3)] := fun tgt kont => go67 tgt (by
              refine XS.iinc X66.here hx rfl (D d29_73) rfl (l' := #[(sr x), (si 3), (si ch2), (si 0)]) rfl ?_; refine XS.goto X66.here hx rfl (pc0 := 76) (pc' := 2) rfl (D d29_76) (by decide) (by decide) ?_; refine XS.iloadN X66.here hx rfl (D d29_2) rfl ?_; refine XS.aloadN X66.here hx rfl (D d29_3) rfl rfl ?_; exact kont)
            obtain ⟨cq69, kq69, q69a, q69b, q69c⟩ := isOf hZ43 e66 f52
            obtain ⟨_, _, ⟨T69, L69, k69, n69⟩, -, X69, ⟨Lc69, hQ69, l69, y69, z69⟩, st69⟩ := X66.virtualBack hx (y := (⟨"java/lang/String", "length", "()I"⟩ : MethodName)) (z := (⟨"java/lang/String", "length", "()I"⟩ : MethodName)) hown43 (mvT hZ43 (wd hw 27 rfl)) (mvT hZ43 (wd hw 28 rfl)) (notFace_of_selects (args := #[]) (mvT hZ43 (wd hw 30 rfl))) (mvT hZ43 (wd hw 30 rfl)) (mvT hZ43 (wd hw 29 rfl)) (by decide) (backOf (W := 1) (rmE3 l Z a0 hw [] x ch0 ch1 ch2 G fv h43 n0 z44 SE43 kch0 kch1 kch2 W0 f46) hZ43 (wd hw 31 rfl) (wd hw 4 rfl) (by decide) (by decide)) q69a q69c (g := (mkF m 4 #[(sr x), (si 3), (si ch2), (si 0)] [(.ref x), (.int 3)])) rfl (by rw [hml]; rfl) (Steps.refl _) (argsL := []) (rest := [(.int (3 : Int32))]) (lenOf pd_15 rfl) rfl (by show 2 * 0 + _ ≤ _; exact Nat.le_of_eq rfl) (D d29_4) (fun _ _ => ⟨rfl, e66, (by decide : 2 + 0 ≤ _), (by decide : 64 + 0 ≤ _)⟩)
            dsimp only [Pt.U, Pt.locs, Pt.cells, Pt.slots] at X69 l69 y69 z69 st69 hQ69
            subst l69 y69 z69
            obtain ⟨rfl, rfl, e69⟩ := hQ69
            have N69 := Fr.app N66 (Fr.nil n0)
            have go69 : Go p e below E0 T69 m 7 #[(sr x), (si 3), (si ch2), (si 0)] [(.int 3), (.int 3)] := fun tgt kont => go68 tgt (st69.trans kont)
            have go70 : Go p e below E0 T69 m 80 #[(sr x), (si 3), (si ch2), (si 0)] [(.ref x)] := fun tgt kont => go69 tgt (by
              refine XS.icmpYes X69.here hx rfl (pc0 := 7) (pc' := 79) rfl (D d29_7) rfl (flt (by decide)).2.1 (by decide) (by decide) ?_; refine XS.aloadN X69.here hx rfl (D d29_79) rfl rfl ?_; exact kont)
            obtain ⟨cq71, kq71, q71a, q71b, q71c⟩ := isOf hZ43 e69 f52
            obtain ⟨_, _, ⟨T71, L71, k71, n71⟩, -, X71, ⟨Lc71, hQ71, l71, y71, z71⟩, st71⟩ := X69.virtualBack hx (y := (⟨"java/lang/String", "isEmpty", "()Z"⟩ : MethodName)) (z := (⟨"java/lang/String", "isEmpty", "()Z"⟩ : MethodName)) hown43 (mvT hZ43 (wd hw 38 rfl)) (mvT hZ43 (wd hw 39 rfl)) (notFace_of_selects (args := #[]) (mvT hZ43 (wd hw 41 rfl))) (mvT hZ43 (wd hw 41 rfl)) (mvT hZ43 (wd hw 40 rfl)) (by decide) (backOf (W := 0) (rmM3 l Z a0 hw [] x ch0 ch1 ch2 G fv h43 n0 z44 SE43 kch0 kch1 kch2 W0 f46) hZ43 (wd hw 42 rfl) (wd hw 4 rfl) (by decide) (by decide)) q71a q71c (g := (mkF m 80 #[(sr x), (si 3), (si ch2), (si 0)] [(.ref x)])) rfl (by rw [hml]; rfl) (Steps.refl _) (argsL := []) (rest := []) (lenOf pd_10 rfl) rfl (by show 2 * 0 + _ ≤ _; exact Nat.le_of_eq rfl) (D d29_80) (fun _ _ => ⟨rfl, e69, (by decide : 2 + 0 ≤ _), (by decide : 64 + 0 ≤ _)⟩)
            dsimp only [Pt.U, Pt.locs, Pt.cells, Pt.slots] at X71 l71 y71 z71 st71 hQ71
            subst l71 y71 z71
            obtain ⟨rfl, rfl, e71⟩ := hQ71
            have N71 := Fr.app N69 (Fr.nil n0)
            have go71 : Go p e below E0 T71 m 83 #[(sr x), (si 3), (si ch2), (si 0)] [(.int 0)] := fun tgt kont => go70 tgt (st71.trans kont)
            have go72 : Go p e below E0 T71 m 91 #[(sr x), (si 3), (si ch2), (si 0)] [(.int 1)] := fun tgt kont => go71 tgt (by
              refine XS.ifNo X71.here hx rfl (D d29_83) rfl ((if0 _ _).trans (teq rfl).2) ?_; refine XS.iconst X71.here hx rfl (D d29_86) ?_; refine XS.goto X71.here hx rfl (pc0 := 87) (pc' := 91) rfl (D d29_87) (by decide) (by decide) ?_; exact kont)
            obtain ⟨fs, hr, hrun, hended, hW⟩ := X71.leaveW hS43 (by rw [e71]; exact hk43) (v := some (.int (1 : Int32))) (fun h => by rw [Bd.returns] at h; cases h)
            refine ⟨_, _, go72 _ ?_, hrun, hended, _, _, rfl, ?_, hW.1, hW.2.1, hW.2.2.1, hW.2.2.2.mono (by decide) (by decide)⟩
            · show Steps p.tables e below (T71.setTop (mkF m 91 #[(sr x), (si 3), (si ch2), (si 0)] [(.int 1)])) _
              exact retN X71 hx (t := .boolean) Bd.returns (by simp) (D d29_91) hr
            · show QT3 Z x ch0 ch1 ch2 G fv h0 n0 _ T71.heap _ T71.vm
              rw [e71]
              exact ⟨_, rfl, N71, K45, Or.inl ⟨rfl, ⟨tk0, tk1, tk2⟩⟩⟩
          · have go73 : Go p e below E0 T66 m 72 #[(sr x), (si 2), (si ch2), (si 0)] [(.int 0)] := fun tgt kont => go66 tgt (by
              refine XS.ifNo X66.here hx rfl (D d29_68) rfl ((if0 _ _).trans (tlt hz2).2.1) ?_; refine XS.iconst X66.here hx rfl (D d29_71) ?_; exact kont)
            obtain ⟨fs, hr, hrun, hended, hW⟩ := X66.leaveW hS43 (by rw [e66]; exact hk43) (v := some (.int (0 : Int32))) (fun h => by rw [Bd.returns] at h; cases h)
            refine ⟨_, _, go73 _ ?_, hrun, hended, _, _, rfl, ?_, hW.1, hW.2.1, hW.2.2.1, hW.2.2.2.mono (by decide) (by decide)⟩
            · show Steps p.tables e below (T66.setTop (mkF m 72 #[(sr x), (si 2), (si ch2), (si 0)] [(.int 0)])) _
              exact retN X66 hx (t := .boolean) Bd.returns (by simp) (D d29_72) hr
            · show QT3 Z x ch0 ch1 ch2 G fv h0 n0 _ T66.heap _ T66.vm
              rw [e66]
              exact ⟨_, rfl, N66, K45, Or.inr ⟨rfl, fun q => (q.2.2).elim ha2 hs2⟩⟩
      · have go74 : Go p e below E0 T48 m 72 #[(sr x), (si 1), (si ch1), (si 0)] [(.int 0)] := fun tgt kont => go48 tgt (by
          refine XS.ifNo X48.here hx rfl (D d29_68) rfl ((if0 _ _).trans (tlt hz1).2.1) ?_; refine XS.iconst X48.here hx rfl (D d29_71) ?_; exact kont)
        obtain ⟨fs, hr, hrun, hended, hW⟩ := X48.leaveW hS43 (by rw [e48]; exact hk43) (v := some (.int (0 : Int32))) (fun h => by rw [Bd.returns] at h; cases h)
        refine ⟨_, _, go74 _ ?_, hrun, hended, _, _, rfl, ?_, hW.1, hW.2.1, hW.2.2.1, hW.2.2.2.mono (by decide) (by decide)⟩
        · show Steps p.tables e below (T48.setTop (mkF m 72 #[(sr x), (si 1), (si ch1), (si 0)] [(.int 0)])) _
          exact retN X48 hx (t := .boolean) Bd.returns (by simp) (D d29_72) hr
        · show QT3 Z x ch0 ch1 ch2 G fv h0 n0 _ T48.heap _ T48.vm
          rw [e48]
          exact ⟨_, rfl, N48, K45, Or.inr ⟨rfl, fun q => (q.2.1).elim ha1 hs1⟩⟩
  · have go75 : Go p e below E0 T4 m 62 #[(sr x), (si 0), (si ch0), (si 0)] [] := fun tgt kont => go6 tgt (by
      refine XS.iloadN X4.here hx rfl (D d29_58) rfl ?_; refine XS.ifNo X4.here hx rfl (D d29_59) rfl ((if0 _ _).trans (teq rfl).2) ?_; exact kont)
    have hkeep76 : ∀ (b : Addr) (cl : Cell), Z.heap[b]? = some cl → s.heap[b]? = some cl := fun b cl q => by rw [hh]; exact O0.2.2 b cl q
    obtain ⟨la, T76, h76, k76, lb, lk, X76, e76, E76, hS76, hk76, hZ76, hown76, E_la, C_la, V_la, A_la, -, -, -, Lt_la, st76⟩ := ldcSVL X4 hx hZ hown (wd hw 79 rfl) hwS e4 hS0 hk0 (fun y hy => by simp at hy) hkeep76 hJ0 (by simp) hH3 hCW (vs := own_SL) (z := (15 : Int32)) ⟨by decide +kernel, by decide +kernel⟩ (by decide) (by decide) (g := (mkF m 62 #[(sr x), (si 0), (si ch0), (si 0)] [])) rfl (D d29_62) (n := 60) (by decide +kernel) (by decide) (by decide) (by decide)
    have z77 : n0 ≤ h76.size := Nat.le_trans Z0 E76.1
    have K78 : Keep h0 h76 [] := (Keep.refl h0 []).ext E76
    have go76 : Go p e below E0 T76 m 64 #[(sr x), (si 0), (si ch0), (si 0)] [(.ref la)] := fun tgt kont => go75 tgt (st76 tgt kont)
    have SE76 : own_S3 Z h76 x ch0 ch1 ch2 := own_S3ext S0 E76
    have f79 : Old Z n0 h76 := (O0.ext E76)
    have go80 : Go p e below E0 T76 m 65 #[(sr x), (si 0), (si ch0), (si 0)] [(.int ch0), (.ref la)] := fun tgt kont => go76 tgt (by
      refine XS.iloadN X76.here hx rfl (D d29_64) rfl ?_; exact kont)
    obtain ⟨cq81, kq81, q81a, q81b, q81c⟩ := isOf hZ76 e76 E_la
    obtain ⟨_, _, ⟨T81, L81, k81, n81⟩, -, X81, ⟨Lc81, hQ81, l81, y81, z81⟩, st81⟩ := X76.virtualBack hx (y := (⟨"java/lang/String", "indexOf", "(I)I"⟩ : MethodName)) (z := (⟨"java/lang/String", "indexOf", "(I)I"⟩ : MethodName)) hown76 (mvT hZ76 (wd hw 80 rfl)) (mvT hZ76 (wd hw 81 rfl)) (notFace_of_selects (args := #[]) (mvT hZ76 (wd hw 83 rfl))) (mvT hZ76 (wd hw 83 rfl)) (mvT hZ76 (wd hw 82 rfl)) (by decide) (backOf (W := 0) (rmI1 l Z a0 hw [] la lb lk ch0 G fv h76 n0 z77 E_la C_la V_la A_la kch0.1 W0 f79) hZ76 (wd hw 84 rfl) (wd hw 4 rfl) (by decide) (by decide)) q81a q81c (g := (mkF m 65 #[(sr x), (si 0), (si ch0), (si 0)] [(.int ch0), (.ref la)])) rfl (by rw [hml]; rfl) (Steps.refl _) (argsL := [(.int ch0)]) (rest := []) (lenOf pd_16 rfl) rfl (by show 2 * 0 + _ ≤ _; exact Nat.le_of_eq rfl) (D d29_65) (fun _ _ => ⟨rfl, e76, (by decide : 2 + 0 ≤ _), (by decide : 64 + 0 ≤ _)⟩)
    dsimp only [Pt.U, Pt.locs, Pt.cells, Pt.slots] at X81 l81 y81 z81 st81 hQ81
    subst l81 y81 z81
    obtain ⟨r0, rfl, rfl, e81, hr0⟩ := hQ81
    have N81 := Fr.app N4 (Fr.nil n0)
    have go81 : Go p e below E0 T81 m 68 #[(sr x), (si 0), (si ch0), (si 0)] [(.int r0)] := fun tgt kont => go80 tgt (st81.trans kont)
    rcases hr0 with ⟨hz0, hs0⟩ | ⟨hz0, hs0⟩
    · have go82 : Go p e below E0 T81 m 73 #[(sr x), (si 0), (si ch0), (si 0)] [] := fun tgt kont => go81 tgt (by
        refine XS.ifYes X81.here hx rfl (pc0 := 68) (pc' := 73) rfl (D d29_68) rfl ((if0 _ _).trans (flt hz0).2.1) (by decide) (by decide) ?_; exact kont)
      have tk0 : own_tc ch0 := Or.inr hs0
      have go83 : Go p e below E0 T81 m 4 #[(sr x), (si 1), (si ch0), (si 0)] [(.ref x), (.int 1)] := fun tgt kont => go82 tgt (by
        refine XS.iinc X81.here hx rfl (D d29_73) rfl (l' := #[(sr x), (si 1), (si ch0), (si 0)]) rfl ?_; refine XS.goto X81.here hx rfl (pc0 := 76) (pc' := 2) rfl (D d29_76) (by decide) (by decide) ?_; refine XS.iloadN X81.here hx rfl (D d29_2) rfl ?_; refine XS.aloadN X81.here hx rfl (D d29_3) rfl rfl ?_; exact kont)
      have f85 : Exa Z h76 x "java/lang/String" := (Ex.ext E76)
      obtain ⟨cq84, kq84, q84a, q84b, q84c⟩ := isOf hZ76 e81 f85
      obtain ⟨_, _, ⟨T84, L84, k84, n84⟩, -, X84, ⟨Lc84, hQ84, l84, y84, z84⟩, st84⟩ := X81.virtualBack hx (y := (⟨"java/lang/String", "length", "()I"⟩ : MethodName)) (z := (⟨"java/lang/String", "length", "()I"⟩ : MethodName)) hown76 (mvT hZ76 (wd hw 27 rfl)) (mvT hZ76 (wd hw 28 rfl)) (notFace_of_selects (args := #[]) (mvT hZ76 (wd hw 30 rfl))) (mvT hZ76 (wd hw 30 rfl)) (mvT hZ76 (wd hw 29 rfl)) (by decide) (backOf (W := 1) (rmE3 l Z a0 hw [] x ch0 ch1 ch2 G fv h76 n0 z77 SE76 kch0 kch1 kch2 W0 f79) hZ76 (wd hw 31 rfl) (wd hw 4 rfl) (by decide) (by decide)) q84a q84c (g := (mkF m 4 #[(sr x), (si 1), (si ch0), (si 0)] [(.ref x), (.int 1)])) rfl (by rw [hml]; rfl) (Steps.refl _) (argsL := []) (rest := [(.int (1 : Int32))]) (lenOf pd_15 rfl) rfl (by show 2 * 0 + _ ≤ _; exact Nat.le_of_eq rfl) (D d29_4) (fun _ _ => ⟨rfl, e81, (by decide : 2 + 0 ≤ _), (by decide : 64 + 0 ≤ _)⟩)
      dsimp only [Pt.U, Pt.locs, Pt.cells, Pt.slots] at X84 l84 y84 z84 st84 hQ84
      subst l84 y84 z84
      obtain ⟨rfl, rfl, e84⟩ := hQ84
      have N84 := Fr.app N81 (Fr.nil n0)
      have go84 : Go p e below E0 T84 m 7 #[(sr x), (si 1), (si ch0), (si 0)] [(.int 3), (.int 1)] := fun tgt kont => go83 tgt (st84.trans kont)
      have go86 : Go p e below E0 T84 m 12 #[(sr x), (si 1), (si ch0), (si 0)] [(.int 1), (.ref x)] := fun tgt kont => go84 tgt (by
        refine XS.icmpNo X84.here hx rfl (D d29_7) rfl (tlt (by decide)).2.1 ?_; refine XS.aloadN X84.here hx rfl (D d29_10) rfl rfl ?_; refine XS.iloadN X84.here hx rfl (D d29_11) rfl ?_; exact kont)
      obtain ⟨cq87, kq87, q87a, q87b, q87c⟩ := isOf hZ76 e84 f85
      obtain ⟨_, _, ⟨T87, L87, k87, n87⟩, -, X87, ⟨Lc87, hQ87, l87, y87, z87⟩, st87⟩ := X84.virtualBack hx (y := (⟨"java/lang/String", "charAt", "(I)C"⟩ : MethodName)) (z := (⟨"java/lang/String", "charAt", "(I)C"⟩ : MethodName)) hown76 (mvT hZ76 (wd hw 57 rfl)) (mvT hZ76 (wd hw 58 rfl)) (notFace_of_selects (args := #[]) (mvT hZ76 (wd hw 60 rfl))) (mvT hZ76 (wd hw 60 rfl)) (mvT hZ76 (wd hw 59 rfl)) (by decide) (backOf (W := 0) (rmC31 l Z a0 hw [] x ch0 ch1 ch2 G fv h76 n0 z77 SE76 kch0 kch1 kch2 W0 f79) hZ76 (wd hw 61 rfl) (wd hw 4 rfl) (by decide) (by decide)) q87a q87c (g := (mkF m 12 #[(sr x), (si 1), (si ch0), (si 0)] [(.int 1), (.ref x)])) rfl (by rw [hml]; rfl) (Steps.refl _) (argsL := [(.int (1 : Int32))]) (rest := []) (lenOf pd_24 rfl) rfl (by show 2 * 0 + _ ≤ _; exact Nat.le_of_eq rfl) (D d29_12) (fun _ _ => ⟨rfl, e84, (by decide : 2 + 0 ≤ _), (by decide : 64 + 0 ≤ _)⟩)
      dsimp only [Pt.U, Pt.locs, Pt.cells, Pt.slots] at X87 l87 y87 z87 st87 hQ87
      subst l87 y87 z87
      obtain ⟨rfl, rfl, e87⟩ := hQ87
      have N87 := Fr.app N84 (Fr.nil n0)
      have go87 : Go p e below E0 T87 m 15 #[(sr x), (si 1), (si ch0), (si 0)] [(.int ch1)] := fun tgt kont => go86 tgt (st87.trans kont)
      have go88 : Go p e below E0 T87 m 16 #[(sr x), (si 1), (si ch1), (si 0)] [] := fun tgt kont => go87 tgt (by
        refine XS.istoreN X87.here hx rfl (D d29_15) rfl (l' := #[(sr x), (si 1), (si ch1), (si 0)]) rfl ?_; exact kont)
      obtain ⟨b1, hb1, go89⟩ : ∃ b1 : Int32, ((b1 = 1 ∧ own_an ch1) ∨ (b1 = 0 ∧ ¬ own_an ch1)) ∧ Go p e below E0 T87 m 58 #[(sr x), (si 1), (si ch1), (si b1)] [] := by
        by_cases y0 : ch1 < (97 : Int32)
        · by_cases y1 : ch1 < (65 : Int32)
          · by_cases y2 : ch1 < (48 : Int32)
            · exact ⟨(0 : Int32), Or.inr ⟨rfl, (by simp only [own_tc, own_an, own_sp, Int32.lt_iff_toInt_lt, ← Int32.toInt_inj, Int32.reduceToInt] at y0 y1 y2 ⊢; omega)⟩, fun tgt kont => go88 tgt (by refine XS.iloadN X87.here hx rfl (D d29_16) rfl ?_; refine XS.bipush X87.here hx rfl (D d29_17) ?_; refine XS.icmpYes X87.here hx rfl (pc0 := 19) (pc' := 28) rfl (D d29_19) rfl (tlt y0).1 (by decide) (by decide) ?_; refine XS.iloadN X87.here hx rfl (D d29_28) rfl ?_; refine XS.bipush X87.here hx rfl (D d29_29) ?_; refine XS.icmpYes X87.here hx rfl (pc0 := 31) (pc' := 40) rfl (D d29_31) rfl (tlt y1).1 (by decide) (by decide) ?_; refine XS.iloadN X87.here hx rfl (D d29_40) rfl ?_; refine XS.bipush X87.here hx rfl (D d29_41) ?_; refine XS.icmpYes X87.here hx rfl (pc0 := 43) (pc' := 56) rfl (D d29_43) rfl (tlt y2).1 (by decide) (by decide) ?_; refine XS.iconst X87.here hx rfl (D d29_56) ?_; refine XS.istoreN X87.here hx rfl (D d29_57) rfl (l' := #[(sr x), (si 1), (si ch1), (si 0)]) rfl ?_; exact kont)⟩
            · by_cases y3 : (57 : Int32) < ch1
              · exact ⟨(0 : Int32), Or.inr ⟨rfl, (by simp only [own_tc, own_an, own_sp, Int32.lt_iff_toInt_lt, ← Int32.toInt_inj, Int32.reduceToInt] at y0 y1 y2 y3 ⊢; omega)⟩, fun tgt kont => go88 tgt (by refine XS.iloadN X87.here hx rfl (D d29_16) rfl ?_; refine XS.bipush X87.here hx rfl (D d29_17) ?_; refine XS.icmpYes X87.here hx rfl (pc0 := 19) (pc' := 28) rfl (D d29_19) rfl (tlt y0).1 (by decide) (by decide) ?_; refine XS.iloadN X87.here hx rfl (D d29_28) rfl ?_; refine XS.bipush X87.here hx rfl (D d29_29) ?_; refine XS.icmpYes X87.here hx rfl (pc0 := 31) (pc' := 40) rfl (D d29_31) rfl (tlt y1).1 (by decide) (by decide) ?_; refine XS.iloadN X87.here hx rfl (D d29_40) rfl ?_; refine XS.bipush X87.here hx rfl (D d29_41) ?_; refine XS.icmpNo X87.here hx rfl (D d29_43) rfl (flt y2).1 ?_; refine XS.iloadN X87.here hx rfl (D d29_46) rfl ?_; refine XS.bipush X87.here hx rfl (D d29_47) ?_; refine XS.icmpYes X87.here hx rfl (pc0 := 49) (pc' := 56) rfl (D d29_49) rfl (tlt y3).2.2.1 (by decide) (by decide) ?_; refine XS.iconst X87.here hx rfl (D d29_56) ?_; refine XS.istoreN X87.here hx rfl (D d29_57) rfl (l' := #[(sr x), (si 1), (si ch1), (si 0)]) rfl ?_; exact kont)⟩
              · exact ⟨(1 : Int32), Or.inl ⟨rfl, (by simp only [own_tc, own_an, own_sp, Int32.lt_iff_toInt_lt, ← Int32.toInt_inj, Int32.reduceToInt] at y0 y1 y2 y3 ⊢; omega)⟩, fun tgt kont => go88 tgt (by refine XS.iloadN X87.here hx rfl (D d29_16) rfl ?_; refine XS.bipush X87.here hx rfl (D d29_17) ?_; refine XS.icmpYes X87.here hx rfl (pc0 := 19) (pc' := 28) rfl (D d29_19) rfl (tlt y0).1 (by decide) (by decide) ?_; refine XS.iloadN X87.here hx rfl (D d29_28) rfl ?_; refine XS.bipush X87.here hx rfl (D d29_29) ?_; refine XS.icmpYes X87.here hx rfl (pc0 := 31) (pc' := 40) rfl (D d29_31) rfl (tlt y1).1 (by decide) (by decide) ?_; refine XS.iloadN X87.here hx rfl (D d29_40) rfl ?_; refine XS.bipush X87.here hx rfl (D d29_41) ?_; refine XS.icmpNo X87.here hx rfl (D d29_43) rfl (flt y2).1 ?_; refine XS.iloadN X87.here hx rfl (D d29_46) rfl ?_; refine XS.bipush X87.here hx rfl (D d29_47) ?_; refine XS.icmpNo X87.here hx rfl (D d29_49) rfl (flt y3).2.2.1 ?_; refine XS.iconst X87.here hx rfl (D d29_52) ?_; refine XS.goto X87.here hx rfl (pc0 := 53) (pc' := 57) rfl (D d29_53) (by decide) (by decide) ?_; refine XS.istoreN X87.here hx rfl (D d29_57) rfl (l' := #[(sr x), (si 1), (si ch1), (si 1)]) rfl ?_; exact kont)⟩
          · by_cases y2 : (90 : Int32) < ch1
            · exact ⟨(0 : Int32), Or.inr ⟨rfl, (by simp only [own_tc, own_an, own_sp, Int32.lt_iff_toInt_lt, ← Int32.toInt_inj, Int32.reduceToInt] at y0 y1 y2 ⊢; omega)⟩, fun tgt kont => go88 tgt (by refine XS.iloadN X87.here hx rfl (D d29_16) rfl ?_; refine XS.bipush X87.here hx rfl (D d29_17) ?_; refine XS.icmpYes X87.here hx rfl (pc0 := 19) (pc' := 28) rfl (D d29_19) rfl (tlt y0).1 (by decide) (by decide) ?_; refine XS.iloadN X87.here hx rfl (D d29_28) rfl ?_; refine XS.bipush X87.here hx rfl (D d29_29) ?_; refine XS.icmpNo X87.here hx rfl (D d29_31) rfl (flt y1).1 ?_; refine XS.iloadN X87.here hx rfl (D d29_34) rfl ?_; refine XS.bipush X87.here hx rfl (D d29_35) ?_; refine XS.icmpNo X87.here hx rfl (D d29_37) rfl (tlt y2).2.2.2 ?_; refine XS.iloadN X87.here hx rfl (D d29_40) rfl ?_; refine XS.bipush X87.here hx rfl (D d29_41) ?_; refine XS.icmpNo X87.here hx rfl (D d29_43) rfl (flt (by simp only [Int32.lt_iff_toInt_lt, ← Int32.toInt_inj, Int32.reduceToInt] at y0 y1 y2 ⊢; omega : ¬ ch1 < (48 : Int32))).1 ?_; refine XS.iloadN X87.here hx rfl (D d29_46) rfl ?_; refine XS.bipush X87.here hx rfl (D d29_47) ?_; refine XS.icmpYes X87.here hx rfl (pc0 := 49) (pc' := 56) rfl (D d29_49) rfl (tlt (by simp only [Int32.lt_iff_toInt_lt, ← Int32.toInt_inj, Int32.reduceToInt] at y0 y1 y2 ⊢; omega : (57 : Int32) < ch1)).2.2.1 (by decide) (by decide) ?_; refine XS.iconst X87.here hx rfl (D d29_56) ?_; refine XS.istoreN X87.here hx rfl (D d29_57) rfl (l' := #[(sr x), (si 1), (si ch1), (si 0)]) rfl ?_; exact kont)⟩
            · exact ⟨(1 : Int32), Or.inl ⟨rfl, (by simp only [own_tc, own_an, own_sp, Int32.lt_iff_toInt_lt, ← Int32.toInt_inj, Int32.reduceToInt] at y0 y1 y2 ⊢; omega)⟩, fun tgt kont => go88 tgt (by refine XS.iloadN X87.here hx rfl (D d29_16) rfl ?_; refine XS.bipush X87.here hx rfl (D d29_17) ?_; refine XS.icmpYes X87.here hx rfl (pc0 := 19) (pc' := 28) rfl (D d29_19) rfl (tlt y0).1 (by decide) (by decide) ?_; refine XS.iloadN X87.here hx rfl (D d29_28) rfl ?_; refine XS.bipush X87.here hx rfl (D d29_29) ?_; refine XS.icmpNo X87.here hx rfl (D d29_31) rfl (flt y1).1 ?_; refine XS.iloadN X87.here hx rfl (D d29_34) rfl ?_; refine XS.bipush X87.here hx rfl (D d29_35) ?_; refine XS.icmpYes X87.here hx rfl (pc0 := 37) (pc' := 52) rfl (D d29_37) rfl (flt y2).2.2.2 (by decide) (by decide) ?_; refine XS.iconst X87.here hx rfl (D d29_52) ?_; refine XS.goto X87.here hx rfl (pc0 := 53) (pc' := 57) rfl (D d29_53) (by decide) (by decide) ?_; refine XS.istoreN X87.here hx rfl (D d29_57) rfl (l' := #[(sr x), (si 1), (si ch1), (si 1)]) rfl ?_; exact kont)⟩
        · by_cases y1 : (122 : Int32) < ch1
          · exact ⟨(0 : Int32), Or.inr ⟨rfl, (by simp only [own_tc, own_an, own_sp, Int32.lt_iff_toInt_lt, ← Int32.toInt_inj, Int32.reduceToInt] at y0 y1 ⊢; omega)⟩, fun tgt kont => go88 tgt (by refine XS.iloadN X87.here hx rfl (D d29_16) rfl ?_; refine XS.bipush X87.here hx rfl (D d29_17) ?_; refine XS.icmpNo X87.here hx rfl (D d29_19) rfl (flt y0).1 ?_; refine XS.iloadN X87.here hx rfl (D d29_22) rfl ?_; refine XS.bipush X87.here hx rfl (D d29_23) ?_; refine XS.icmpNo X87.here hx rfl (D d29_25) rfl (tlt y1).2.2.2 ?_; refine XS.iloadN X87.here hx rfl (D d29_28) rfl ?_; refine XS.bipush X87.here hx rfl (D d29_29) ?_; refine XS.icmpNo X87.here hx rfl (D d29_31) rfl (flt (by simp only [Int32.lt_iff_toInt_lt, ← Int32.toInt_inj, Int32.reduceToInt] at y0 y1 ⊢; omega : ¬ ch1 < (65 : Int32))).1 ?_; refine XS.iloadN X87.here hx rfl (D d29_34) rfl ?_; refine XS.bipush X87.here hx rfl (D d29_35) ?_; refine XS.icmpNo X87.here hx rfl (D d29_37) rfl (tlt (by simp only [Int32.lt_iff_toInt_lt, ← Int32.toInt_inj, Int32.reduceToInt] at y0 y1 ⊢; omega : (90 : Int32) < ch1)).2.2.2 ?_; refine XS.iloadN X87.here hx rfl (D d29_40) rfl ?_; refine XS.bipush X87.here hx rfl (D d29_41) ?_; refine XS.icmpNo X87.here hx rfl (D d29_43) rfl (flt (by simp only [Int32.lt_iff_toInt_lt, ← Int32.toInt_inj, Int32.reduceToInt] at y0 y1 ⊢; omega : ¬ ch1 < (48 : Int32))).1 ?_; refine XS.iloadN X87.here hx rfl (D d29_46) rfl ?_; refine XS.bipush X87.here hx rfl (D d29_47) ?_; refine XS.icmpYes X87.here hx rfl (pc0 := 49) (pc' := 56) rfl (D d29_49) rfl (tlt (by simp only [Int32.lt_iff_toInt_lt, ← Int32.toInt_inj, Int32.reduceToInt] at y0 y1 ⊢; omega : (57 : Int32) < ch1)).2.2.1 (by decide) (by decide) ?_; refine XS.iconst X87.here hx rfl (D d29_56) ?_; refine XS.istoreN X87.here hx rfl (D d29_57) rfl (l' := #[(sr x), (si 1), (si ch1), (si 0)]) rfl ?_; exact kont)⟩
          · exact ⟨(1 : Int32), Or.inl ⟨rfl, (by simp only [own_tc, own_an, own_sp, Int32.lt_iff_toInt_lt, ← Int32.toInt_inj, Int32.reduceToInt] at y0 y1 ⊢; omega)⟩, fun tgt kont => go88 tgt (by refine XS.iloadN X87.here hx rfl (D d29_16) rfl ?_; refine XS.bipush X87.here hx rfl (D d29_17) ?_; refine XS.icmpNo X87.here hx rfl (D d29_19) rfl (flt y0).1 ?_; refine XS.iloadN X87.here hx rfl (D d29_22) rfl ?_; refine XS.bipush X87.here hx rfl (D d29_23) ?_; refine XS.icmpYes X87.here hx rfl (pc0 := 25) (pc' := 52) rfl (D d29_25) rfl (flt y1).2.2.2 (by decide) (by decide) ?_; refine XS.iconst X87.here hx rfl (D d29_52) ?_; refine XS.goto X87.here hx rfl (pc0 := 53) (pc' := 57) rfl (D d29_53) (by decide) (by decide) ?_; refine XS.istoreN X87.here hx rfl (D d29_57) rfl (l' := #[(sr x), (si 1), (si ch1), (si 1)]) rfl ?_; exact kont)⟩
      rcases hb1 with ⟨rfl, ha1⟩ | ⟨rfl, ha1⟩
      · have go90 : Go p e below E0 T87 m 73 #[(sr x), (si 1), (si ch1), (si 1)] [] := fun tgt kont => go89 tgt (by
          refine XS.iloadN X87.here hx rfl (D d29_58) rfl ?_; refine XS.ifYes X87.here hx rfl (pc0 := 59) (pc' := 73) rfl (D d29_59) rfl ((if0 _ _).trans (feq (by decide)).2) (by decide) (by decide) ?_; exact kont)
        have tk1 : own_tc ch1 := Or.inl ha1
        have go91 : Go p e below E0 T87 m 4 #[(sr x), (si 2), (si ch1), (si 1)] [(.ref x), (.int 2)] := fun tgt kont => go90 tgt (by
          refine XS.iinc X87.here hx rfl (D d29_73) rfl (l' := #[(sr x), (si 2), (si ch1), (si 1)]) rfl ?_; refine XS.goto X87.here hx rfl (pc0 := 76) (pc' := 2) rfl (D d29_76) (by decide) (by decide) ?_; refine XS.iloadN X87.here hx rfl (D d29_2) rfl ?_; refine XS.aloadN X87.here hx rfl (D d29_3) rfl rfl ?_; exact kont)
        obtain ⟨cq92, kq92, q92a, q92b, q92c⟩ := isOf hZ76 e87 f85
        obtain ⟨_, _, ⟨T92, L92, k92, n92⟩, -, X92, ⟨Lc92, hQ92, l92, y92, z92⟩, st92⟩ := X87.virtualBack hx (y := (⟨"java/lang/String", "length", "()I"⟩ : MethodName)) (z := (⟨"java/lang/String", "length", "()I"⟩ : MethodName)) hown76 (mvT hZ76 (wd hw 27 rfl)) (mvT hZ76 (wd hw 28 rfl)) (notFace_of_selects (args := #[]) (mvT hZ76 (wd hw 30 rfl))) (mvT hZ76 (wd hw 30 rfl)) (mvT hZ76 (wd hw 29 rfl)) (by decide) (backOf (W := 1) (rmE3 l Z a0 hw [] x ch0 ch1 ch2 G fv h76 n0 z77 SE76 kch0 kch1 kch2 W0 f79) hZ76 (wd hw 31 rfl) (wd hw 4 rfl) (by decide) (by decide)) q92a q92c (g := (mkF m 4 #[(sr x), (si 2), (si ch1), (si 1)] [(.ref x), (.int 2)])) rfl (by rw [hml]; rfl) (Steps.refl _) (argsL := []) (rest := [(.int (2 : Int32))]) (lenOf pd_15 rfl) rfl (by show 2 * 0 + _ ≤ _; exact Nat.le_of_eq rfl) (D d29_4) (fun _ _ => ⟨rfl, e87, (by decide : 2 + 0 ≤ _), (by decide : 64 + 0 ≤ _)⟩)
        dsimp only [Pt.U, Pt.locs, Pt.cells, Pt.slots] at X92 l92 y92 z92 st92 hQ92
        subst l92 y92 z92
        obtain ⟨rfl, rfl, e92⟩ := hQ92
        have N92 := Fr.app N87 (Fr.nil n0)
        have go92 : Go p e below E0 T92 m 7 #[(sr x), (si 2), (si ch1), (si 1)] [(.int 3), (.int 2)] := fun tgt kont => go91 tgt (st92.trans kont)
        have go93 : Go p e below E0 T92 m 12 #[(sr x), (si 2), (si ch1), (si 1)] [(.int 2), (.ref x)] := fun tgt kont => go92 tgt (by
          refine XS.icmpNo X92.here hx rfl (D d29_7) rfl (tlt (by decide)).2.1 ?_; refine XS.aloadN X92.here hx rfl (D d29_10) rfl rfl ?_; refine XS.iloadN X92.here hx rfl (D d29_11) rfl ?_; exact kont)
        obtain ⟨cq94, kq94, q94a, q94b, q94c⟩ := isOf hZ76 e92 f85
        obtain ⟨_, _, ⟨T94, L94, k94, n94⟩, -, X94, ⟨Lc94, hQ94, l94, y94, z94⟩, st94⟩ := X92.virtualBack hx (y := (⟨"java/lang/String", "charAt", "(I)C"⟩ : MethodName)) (z := (⟨"java/lang/String", "charAt", "(I)C"⟩ : MethodName)) hown76 (mvT hZ76 (wd hw 57 rfl)) (mvT hZ76 (wd hw 58 rfl)) (notFace_of_selects (args := #[]) (mvT hZ76 (wd hw 60 rfl))) (mvT hZ76 (wd hw 60 rfl)) (mvT hZ76 (wd hw 59 rfl)) (by decide) (backOf (W := 0) (rmC32 l Z a0 hw [] x ch0 ch1 ch2 G fv h76 n0 z77 SE76 kch0 kch1 kch2 W0 f79) hZ76 (wd hw 61 rfl) (wd hw 4 rfl) (by decide) (by decide)) q94a q94c (g := (mkF m 12 #[(sr x), (si 2), (si ch1), (si 1)] [(.int 2), (.ref x)])) rfl (by rw [hml]; rfl) (Steps.refl _) (argsL := [(.int (2 : Int32))]) (rest := []) (lenOf pd_24 rfl) rfl (by show 2 * 0 + _ ≤ _; exact Nat.le_of_eq rfl) (D d29_12) (fun _ _ => ⟨rfl, e92, (by decide : 2 + 0 ≤ _), (by decide : 64 + 0 ≤ _)⟩)
        dsimp only [Pt.U, Pt.locs, Pt.cells, Pt.slots] at X94 l94 y94 z94 st94 hQ94
        subst l94 y94 z94
        obtain ⟨rfl, rfl, e94⟩ := hQ94
        have N94 := Fr.app N92 (Fr.nil n0)
        have go94 : Go p e below E0 T94 m 15 #[(sr x), (si 2), (si ch1), (si 1)] [(.int ch2)] := fun tgt kont => go93 tgt (st94.trans kont)
        have go95 : Go p e below E0 T94 m 16 #[(sr x), (si 2), (si ch2), (si 1)] [] := fun tgt kont => go94 tgt (by
          refine XS.istoreN X94.here hx rfl (D d29_15) rfl (l' := #[(sr x), (si 2), (si ch2), (si 1)]) rfl ?_; exact kont)
        obtain ⟨b2, hb2, go96⟩ : ∃ b2 : Int32, ((b2 = 1 ∧ own_an ch2) ∨ (b2 = 0 ∧ ¬ own_an ch2)) ∧ Go p e below E0 T94 m 58 #[(sr x), (si 2), (si ch2), (si b2)] [] := by
          by_cases y0 : ch2 < (97 : Int32)
          · by_cases y1 : ch2 < (65 : Int32)
            · by_cases y2 : ch2 < (48 : Int32)
              · exact ⟨(0 : Int32), Or.inr ⟨rfl, (by simp only [own_tc, own_an, own_sp, Int32.lt_iff_toInt_lt, ← Int32.toInt_inj, Int32.reduceToInt] at y0 y1 y2 ⊢; omega)⟩, fun tgt kont => go95 tgt (by refine XS.iloadN X94.here hx rfl (D d29_16) rfl ?_; refine XS.bipush X94.here hx rfl (D d29_17) ?_; refine XS.icmpYes X94.here hx rfl (pc0 := 19) (pc' := 28) rfl (D d29_19) rfl (tlt y0).1 (by decide) (by decide) ?_; refine XS.iloadN X94.here hx rfl (D d29_28) rfl ?_; refine XS.bipush X94.here hx rfl (D d29_29) ?_; refine XS.icmpYes X94.here hx rfl (pc0 := 31) (pc' := 40) rfl (D d29_31) rfl (tlt y1).1 (by decide) (by decide) ?_; refine XS.iloadN X94.here hx rfl (D d29_40) rfl ?_; refine XS.bipush X94.here hx rfl (D d29_41) ?_; refine XS.icmpYes X94.here hx rfl (pc0 := 43) (pc' := 56) rfl (D d29_43) rfl (tlt y2).1 (by decide) (by decide) ?_; refine XS.iconst X94.here hx rfl (D d29_56) ?_; refine XS.istoreN X94.here hx rfl (D d29_57) rfl (l' := #[(sr x), (si 2), (si ch2), (si 0)]) rfl ?_; exact kont)⟩
              · by_cases y3 : (57 : Int32) < ch2
                · exact ⟨(0 : Int32), Or.inr ⟨rfl, (by simp only [own_tc, own_an, own_sp, Int32.lt_iff_toInt_lt, ← Int32.toInt_inj, Int32.reduceToInt] at y0 y1 y2 y3 ⊢; omega)⟩, fun tgt kont => go95 tgt (by refine XS.iloadN X94.here hx rfl (D d29_16) rfl ?_; refine XS.bipush X94.here hx rfl (D d29_17) ?_; refine XS.icmpYes X94.here hx rfl (pc0 := 19) (pc' := 28) rfl (D d29_19) rfl (tlt y0).1 (by decide) (by decide) ?_; refine XS.iloadN X94.here hx rfl (D d29_28) rfl ?_; refine XS.bipush X94.here hx rfl (D d29_29) ?_; refine XS.icmpYes X94.here hx rfl (pc0 := 31) (pc' := 40) rfl (D d29_31) rfl (tlt y1).1 (by decide) (by decide) ?_; refine XS.iloadN X94.here hx rfl (D d29_40) rfl ?_; refine XS.bipush X94.here hx rfl (D d29_41) ?_; refine XS.icmpNo X94.here hx rfl (D d29_43) rfl (flt y2).1 ?_; refine XS.iloadN X94.here hx rfl (D d29_46) rfl ?_; refine XS.bipush X94.here hx rfl (D d29_47) ?_; refine XS.icmpYes X94.here hx rfl (pc0 := 49) (pc' := 56) rfl (D d29_49) rfl (tlt y3).2.2.1 (by decide) (by decide) ?_; refine XS.iconst X94.here hx rfl (D d29_56) ?_; refine XS.istoreN X94.here hx rfl (D d29_57) rfl (l' := #[(sr x), (si 2), (si ch2), (si 0)]) rfl ?_; exact kont)⟩
                · exact ⟨(1 : Int32), Or.inl ⟨rfl, (by simp only [own_tc, own_an, own_sp, Int32.lt_iff_toInt_lt, ← Int32.toInt_inj, Int32.reduceToInt] at y0 y1 y2 y3 ⊢; omega)⟩, fun tgt kont => go95 tgt (by refine XS.iloadN X94.here hx rfl (D d29_16) rfl ?_; refine XS.bipush X94.here hx rfl (D d29_17) ?_; refine XS.icmpYes X94.here hx rfl (pc0 := 19) (pc' := 28) rfl (D d29_19) rfl (tlt y0).1 (by decide) (by decide) ?_; refine XS.iloadN X94.here hx rfl (D d29_28) rfl ?_; refine XS.bipush X94.here hx rfl (D d29_29) ?_; refine XS.icmpYes X94.here hx rfl (pc0 := 31) (pc' := 40) rfl (D d29_31) rfl (tlt y1).1 (by decide) (by decide) ?_; refine XS.iloadN X94.here hx rfl (D d29_40) rfl ?_; refine XS.bipush X94.here hx rfl (D d29_41) ?_; refine XS.icmpNo X94.here hx rfl (D d29_43) rfl (flt y2).1 ?_; refine XS.iloadN X94.here hx rfl (D d29_46) rfl ?_; refine XS.bipush X94.here hx rfl (D d29_47) ?_; refine XS.icmpNo X94.here hx rfl (D d29_49) rfl (flt y3).2.2.1 ?_; refine XS.iconst X94.here hx rfl (D d29_52) ?_; refine XS.goto X94.here hx rfl (pc0 := 53) (pc' := 57) rfl (D d29_53) (by decide) (by decide) ?_; refine XS.istoreN X94.here hx rfl (D d29_57) rfl (l' := #[(sr x), (si 2), (si ch2), (si 1)]) rfl ?_; exact kont)⟩
            · by_cases y2 : (90 : Int32) < ch2
              · exact ⟨(0 : Int32), Or.inr ⟨rfl, (by simp only [own_tc, own_an, own_sp, Int32.lt_iff_toInt_lt, ← Int32.toInt_inj, Int32.reduceToInt] at y0 y1 y2 ⊢; omega)⟩, fun tgt kont => go95 tgt (by refine XS.iloadN X94.here hx rfl (D d29_16) rfl ?_; refine XS.bipush X94.here hx rfl (D d29_17) ?_; refine XS.icmpYes X94.here hx rfl (pc0 := 19) (pc' := 28) rfl (D d29_19) rfl (tlt y0).1 (by decide) (by decide) ?_; refine XS.iloadN X94.here hx rfl (D d29_28) rfl ?_; refine XS.bipush X94.here hx rfl (D d29_29) ?_; refine XS.icmpNo X94.here hx rfl (D d29_31) rfl (flt y1).1 ?_; refine XS.iloadN X94.here hx rfl (D d29_34) rfl ?_; refine XS.bipush X94.here hx rfl (D d29_35) ?_; refine XS.icmpNo X94.here hx rfl (D d29_37) rfl (tlt y2).2.2.2 ?_; refine XS.iloadN X94.here hx rfl (D d29_40) rfl ?_; refine XS.bipush X94.here hx rfl (D d29_41) ?_; refine XS.icmpNo X94.here hx rfl (D d29_43) rfl (flt (by simp only [Int32.lt_iff_toInt_lt, ← Int32.toInt_inj, Int32.reduceToInt] at y0 y1 y2 ⊢; omega : ¬ ch2 < (48 : Int32))).1 ?_; refine XS.iloadN X94.here hx rfl (D d29_46) rfl ?_; refine XS.bipush X94.here hx rfl (D d29_47) ?_; refine XS.icmpYes X94.here hx rfl (pc0 := 49) (pc' := 56) rfl (D d29_49) rfl (tlt (by simp only [Int32.lt_iff_toInt_lt, ← Int32.toInt_inj, Int32.reduceToInt] at y0 y1 y2 ⊢; omega : (57 : Int32) < ch2)).2.2.1 (by decide) (by decide) ?_; refine XS.iconst X94.here hx rfl (D d29_56) ?_; refine XS.istoreN X94.here hx rfl (D d29_57) rfl (l' := #[(sr x), (si 2), (si ch2), (si 0)]) rfl ?_; exact kont)⟩
              · exact ⟨(1 : Int32), Or.inl ⟨rfl, (by simp only [own_tc, own_an, own_sp, Int32.lt_iff_toInt_lt, ← Int32.toInt_inj, Int32.reduceToInt] at y0 y1 y2 ⊢; omega)⟩, fun tgt kont => go95 tgt (by refine XS.iloadN X94.here hx rfl (D d29_16) rfl ?_; refine XS.bipush X94.here hx rfl (D d29_17) ?_; refine XS.icmpYes X94.here hx rfl (pc0 := 19) (pc' := 28) rfl (D d29_19) rfl (tlt y0).1 (by decide) (by decide) ?_; refine XS.iloadN X94.here hx rfl (D d29_28) rfl ?_; refine XS.bipush X94.here hx rfl (D d29_29) ?_; refine XS.icmpNo X94.here hx rfl (D d29_31) rfl (flt y1).1 ?_; refine XS.iloadN X94.here hx rfl (D d29_34) rfl ?_; refine XS.bipush X94.here hx rfl (D d29_35) ?_; refine XS.icmpYes X94.here hx rfl (pc0 := 37) (pc' := 52) rfl (D d29_37) rfl (flt y2).2.2.2 (by decide) (by decide) ?_; refine XS.iconst X94.here hx rfl (D d29_52) ?_; refine XS.goto X94.here hx rfl (pc0 := 53) (pc' := 57) rfl (D d29_53) (by decide) (by decide) ?_; refine XS.istoreN X94.here hx rfl (D d29_57) rfl (l' := #[(sr x), (si 2), (si ch2), (si 1)]) rfl ?_; exact kont)⟩
          · by_cases y1 : (122 : Int32) < ch2
            · exact ⟨(0 : Int32), Or.inr ⟨rfl, (by simp only [own_tc, own_an, own_sp, Int32.lt_iff_toInt_lt, ← Int32.toInt_inj, Int32.reduceToInt] at y0 y1 ⊢; omega)⟩, fun tgt kont => go95 tgt (by refine XS.iloadN X94.here hx rfl (D d29_16) rfl ?_; refine XS.bipush X94.here hx rfl (D d29_17) ?_; refine XS.icmpNo X94.here hx rfl (D d29_19) rfl (flt y0).1 ?_; refine XS.iloadN X94.here hx rfl (D d29_22) rfl ?_; refine XS.bipush X94.here hx rfl (D d29_23) ?_; refine XS.icmpNo X94.here hx rfl (D d29_25) rfl (tlt y1).2.2.2 ?_; refine XS.iloadN X94.here hx rfl (D d29_28) rfl ?_; refine XS.bipush X94.here hx rfl (D d29_29) ?_; refine XS.icmpNo X94.here hx rfl (D d29_31) rfl (flt (by simp only [Int32.lt_iff_toInt_lt, ← Int32.toInt_inj, Int32.reduceToInt] at y0 y1 ⊢; omega : ¬ ch2 < (65 : Int32))).1 ?_; refine XS.iloadN X94.here hx rfl (D d29_34) rfl ?_; refine XS.bipush X94.here hx rfl (D d29_35) ?_; refine XS.icmpNo X94.here hx rfl (D d29_37) rfl (tlt (by simp only [Int32.lt_iff_toInt_lt, ← Int32.toInt_inj, Int32.reduceToInt] at y0 y1 ⊢; omega : (90 : Int32) < ch2)).2.2.2 ?_; refine XS.iloadN X94.here hx rfl (D d29_40) rfl ?_; refine XS.bipush X94.here hx rfl (D d29_41) ?_; refine XS.icmpNo X94.here hx rfl (D d29_43) rfl (flt (by simp only [Int32.lt_iff_toInt_lt, ← Int32.toInt_inj, Int32.reduceToInt] at y0 y1 ⊢; omega : ¬ ch2 < (48 : Int32))).1 ?_; refine XS.iloadN X94.here hx rfl (D d29_46) rfl ?_; refine XS.bipush X94.here hx rfl (D d29_47) ?_; refine XS.icmpYes X94.here hx rfl (pc0 := 49) (pc' := 56) rfl (D d29_49) rfl (tlt (by simp only [Int32.lt_iff_toInt_lt, ← Int32.toInt_inj, Int32.reduceToInt] at y0 y1 ⊢; omega : (57 : Int32) < ch2)).2.2.1 (by decide) (by decide) ?_; refine XS.iconst X94.here hx rfl (D d29_56) ?_; refine XS.istoreN X94.here hx rfl (D d29_57) rfl (l' := #[(sr x), (si 2), (si ch2), (si 0)]) rfl ?_; exact kont)⟩
            · exact ⟨(1 : Int32), Or.inl ⟨rfl, (by simp only [own_tc, own_an, own_sp, Int32.lt_iff_toInt_lt, ← Int32.toInt_inj, Int32.reduceToInt] at y0 y1 ⊢; omega)⟩, fun tgt kont => go95 tgt (by refine XS.iloadN X94.here hx rfl (D d29_16) rfl ?_; refine XS.bipush X94.here hx rfl (D d29_17) ?_; refine XS.icmpNo X94.here hx rfl (D d29_19) rfl (flt y0).1 ?_; refine XS.iloadN X94.here hx rfl (D d29_22) rfl ?_; refine XS.bipush X94.here hx rfl (D d29_23) ?_; refine XS.icmpYes X94.here hx rfl (pc0 := 25) (pc' := 52) rfl (D d29_25) rfl (flt y1).2.2.2 (by decide) (by decide) ?_; refine XS.iconst X94.here hx rfl (D d29_52) ?_; refine XS.goto X94.here hx rfl (pc0 := 53) (pc' := 57) rfl (D d29_53) (by decide) (by decide) ?_; refine XS.istoreN X94.here hx rfl (D d29_57) rfl (l' := #[(sr x), (si 2), (si ch2), (si 1)]) rfl ?_; exact kont)⟩
        rcases hb2 with ⟨rfl, ha2⟩ | ⟨rfl, ha2⟩
        · have go97 : Go p e below E0 T94 m 73 #[(sr x), (si 2), (si ch2), (si 1)] [] := fun tgt kont => go96 tgt (by
            refine XS.iloadN X94.here hx rfl (D d29_58) rfl ?_; refine XS.ifYes X94.here hx rfl (pc0 := 59) (pc' := 73) rfl (D d29_59) rfl ((if0 _ _).trans (feq (by decide)).2) (by decide) (by decide) ?_; exact kont)
          have tk2 : own_tc ch2 := Or.inl ha2
          have go98 : Go p e below E0 T94 m 4 #[(sr x), (si 3), (si ch2), (si 1)] [(.ref x), (.int 3)] := fun tgt kont => go97 tgt (by
            refine XS.iinc X94.here hx rfl (D d29_73) rfl (l' := #[(sr x), (si 3), (si ch2), (si 1)]) rfl ?_; refine XS.goto X94.here hx rfl (pc0 := 76) (pc' := 2) rfl (D d29_76) (by decide) (by decide) ?_; refine XS.iloadN X94.here hx rfl (D d29_2) rfl ?_; refine XS.aloadN X94.here hx rfl (D d29_3) rfl rfl ?_; exact kont)
          obtain ⟨cq99, kq99, q99a, q99b, q99c⟩ := isOf hZ76 e94 f85
          obtain ⟨_, _, ⟨T99, L99, k99, n99⟩, -, X99, ⟨Lc99, hQ99, l99, y99, z99⟩, st99⟩ := X94.virtualBack hx (y := (⟨"java/lang/String", "length", "()I"⟩ : MethodName)) (z := (⟨"java/lang/String", "length", "()I"⟩ : MethodName)) hown76 (mvT hZ76 (wd hw 27 rfl)) (mvT hZ76 (wd hw 28 rfl)) (notFace_of_selects (args := #[]) (mvT hZ76 (wd hw 30 rfl))) (mvT hZ76 (wd hw 30 rfl)) (mvT hZ76 (wd hw 29 rfl)) (by decide) (backOf (W := 1) (rmE3 l Z a0 hw [] x ch0 ch1 ch2 G fv h76 n0 z77 SE76 kch0 kch1 kch2 W0 f79) hZ76 (wd hw 31 rfl) (wd hw 4 rfl) (by decide) (by decide)) q99a q99c (g := (mkF m 4 #[(sr x), (si 3), (si ch2), (si 1)] [(.ref x), (.int 3)])) rfl (by rw [hml]; rfl) (Steps.refl _) (argsL := []) (rest := [(.int (3 : Int32))]) (lenOf pd_15 rfl) rfl (by show 2 * 0 + _ ≤ _; exact Nat.le_of_eq rfl) (D d29_4) (fun _ _ => ⟨rfl, e94, (by decide : 2 + 0 ≤ _), (by decide : 64 + 0 ≤ _)⟩)
          dsimp only [Pt.U, Pt.locs, Pt.cells, Pt.slots] at X99 l99 y99 z99 st99 hQ99
          subst l99 y99 z99
          obtain ⟨rfl, rfl, e99⟩ := hQ99
          have N99 := Fr.app N94 (Fr.nil n0)
          have go99 : Go p e below E0 T99 m 7 #[(sr x), (si 3), (si ch2), (si 1)] [(.int 3), (.int 3)] := fun tgt kont => go98 tgt (st99.trans kont)
          have go100 : Go p e below E0 T99 m 80 #[(sr x), (si 3), (si ch2), (si 1)] [(.ref x)] := fun tgt kont => go99 tgt (by
            refine XS.icmpYes X99.here hx rfl (pc0 := 7) (pc' := 79) rfl (D d29_7) rfl (flt (by decide)).2.1 (by decide) (by decide) ?_; refine XS.aloadN X99.here hx rfl (D d29_79) rfl rfl ?_; exact kont)
          obtain ⟨cq101, kq101, q101a, q101b, q101c⟩ := isOf hZ76 e99 f85
          obtain ⟨_, _, ⟨T101, L101, k101, n101⟩, -, X101, ⟨Lc101, hQ101, l101, y101, z101⟩, st101⟩ := X99.virtualBack hx (y := (⟨"java/lang/String", "isEmpty", "()Z"⟩ : MethodName)) (z := (⟨"java/lang/String", "isEmpty", "()Z"⟩ : MethodName)) hown76 (mvT hZ76 (wd hw 38 rfl)) (mvT hZ76 (wd hw 39 rfl)) (notFace_of_selects (args := #[]) (mvT hZ76 (wd hw 41 rfl))) (mvT hZ76 (wd hw 41 rfl)) (mvT hZ76 (wd hw 40 rfl)) (by decide) (backOf (W := 0) (rmM3 l Z a0 hw [] x ch0 ch1 ch2 G fv h76 n0 z77 SE76 kch0 kch1 kch2 W0 f79) hZ76 (wd hw 42 rfl) (wd hw 4 rfl) (by decide) (by decide)) q101a q101c (g := (mkF m 80 #[(sr x), (si 3), (si ch2), (si 1)] [(.ref x)])) rfl (by rw [hml]; rfl) (Steps.refl _) (argsL := []) (rest := []) (lenOf pd_10 rfl) rfl (by show 2 * 0 + _ ≤ _; exact Nat.le_of_eq rfl) (D d29_80) (fun _ _ => ⟨rfl, e99, (by decide : 2 + 0 ≤ _), (by decide : 64 + 0 ≤ _)⟩)
          dsimp only [Pt.U, Pt.locs, Pt.cells, Pt.slots] at X101 l101 y101 z101 st101 hQ101
          subst l101 y101 z101
          obtain ⟨rfl, rfl, e101⟩ := hQ101
          have N101 := Fr.app N99 (Fr.nil n0)
          have go101 : Go p e below E0 T101 m 83 #[(sr x), (si 3), (si ch2), (si 1)] [(.int 0)] := fun tgt kont => go100 tgt (st101.trans kont)
          have go102 : Go p e below E0 T101 m 91 #[(sr x), (si 3), (si ch2), (si 1)] [(.int 1)] := fun tgt kont => go101 tgt (by
            refine XS.ifNo X101.here hx rfl (D d29_83) rfl ((if0 _ _).trans (teq rfl).2) ?_; refine XS.iconst X101.here hx rfl (D d29_86) ?_; refine XS.goto X101.here hx rfl (pc0 := 87) (pc' := 91) rfl (D d29_87) (by decide) (by decide) ?_; exact kont)
          obtain ⟨fs, hr, hrun, hended, hW⟩ := X101.leaveW hS76 (by rw [e101]; exact hk76) (v := some (.int (1 : Int32))) (fun h => by rw [Bd.returns] at h; cases h)
          refine ⟨_, _, go102 _ ?_, hrun, hended, _, _, rfl, ?_, hW.1, hW.2.1, hW.2.2.1, hW.2.2.2.mono (by decide) (by decide)⟩
          · show Steps p.tables e below (T101.setTop (mkF m 91 #[(sr x), (si 3), (si ch2), (si 1)] [(.int 1)])) _
            exact retN X101 hx (t := .boolean) Bd.returns (by simp) (D d29_91) hr
          · show QT3 Z x ch0 ch1 ch2 G fv h0 n0 _ T101.heap _ T101.vm
            rw [e101]
            exact ⟨_, rfl, N101, K78, Or.inl ⟨rfl, ⟨tk0, tk1, tk2⟩⟩⟩
        · have go103 : Go p e below E0 T94 m 62 #[(sr x), (si 2), (si ch2), (si 0)] [] := fun tgt kont => go96 tgt (by
            refine XS.iloadN X94.here hx rfl (D d29_58) rfl ?_; refine XS.ifNo X94.here hx rfl (D d29_59) rfl ((if0 _ _).trans (teq rfl).2) ?_; exact kont)
          have go104 : Go p e below E0 T94 m 64 #[(sr x), (si 2), (si ch2), (si 0)] [(.ref la)] := fun tgt kont => go103 tgt (ldcAgain X94 hx hZ76 hown76 (wd hw 79 rfl) Lt_la (g := (mkF m 62 #[(sr x), (si 2), (si ch2), (si 0)] [])) rfl (D d29_62) tgt kont)
          have go105 : Go p e below E0 T94 m 65 #[(sr x), (si 2), (si ch2), (si 0)] [(.int ch2), (.ref la)] := fun tgt kont => go104 tgt (by
            refine XS.iloadN X94.here hx rfl (D d29_64) rfl ?_; exact kont)
          obtain ⟨cq106, kq106, q106a, q106b, q106c⟩ := isOf hZ76 e94 E_la
          obtain ⟨_, _, ⟨T106, L106, k106, n106⟩, -, X106, ⟨Lc106, hQ106, l106, y106, z106⟩, st106⟩ := X94.virtualBack hx (y := (⟨"java/lang/String", "indexOf", "(I)I"⟩ : MethodName)) (z := (⟨"java/lang/String", "indexOf", "(I)I"⟩ : MethodName)) hown76 (mvT hZ76 (wd hw 80 rfl)) (mvT hZ76 (wd hw 81 rfl)) (notFace_of_selects (args := #[]) (mvT hZ76 (wd hw 83 rfl))) (mvT hZ76 (wd hw 83 rfl)) (mvT hZ76 (wd hw 82 rfl)) (by decide) (backOf (W := 0) (rmI1 l Z a0 hw [] la lb lk ch2 G fv h76 n0 z77 E_la C_la V_la A_la kch2.1 W0 f79) hZ76 (wd hw 84 rfl) (wd hw 4 rfl) (by decide) (by decide)) q106a q106c (g := (mkF m 65 #[(sr x), (si 2), (si ch2), (si 0)] [(.int ch2), (.ref la)])) rfl (by rw [hml]; rfl) (Steps.refl _) (argsL := [(.int ch2)]) (rest := []) (lenOf pd_16 rfl) rfl (by show 2 * 0 + _ ≤ _; exact Nat.le_of_eq rfl) (D d29_65) (fun _ _ => ⟨rfl, e94, (by decide : 2 + 0 ≤ _), (by decide : 64 + 0 ≤ _)⟩)
          dsimp only [Pt.U, Pt.locs, Pt.cells, Pt.slots] at X106 l106 y106 z106 st106 hQ106
          subst l106 y106 z106
          obtain ⟨r2, rfl, rfl, e106, hr2⟩ := hQ106
          have N106 := Fr.app N94 (Fr.nil n0)
          have go106 : Go p e below E0 T106 m 68 #[(sr x), (si 2), (si ch2), (si 0)] [(.int r2)] := fun tgt kont => go105 tgt (st106.trans kont)
          rcases hr2 with ⟨hz2, hs2⟩ | ⟨hz2, hs2⟩
          · have go107 : Go p e below E0 T106 m 73 #[(sr x), (si 2), (si ch2), (si 0)] [] := fun tgt kont => go106 tgt (by
              refine XS.ifYes X106.here hx rfl (pc0 := 68) (pc' := 73) rfl (D d29_68) rfl ((if0 _ _).trans (flt hz2).2.1) (by decide) (by decide) ?_; exact kont)
            have tk2 : own_tc ch2 := Or.inr hs2
            have go108 : Go p e below E0 T106 m 4 #[(sr x), (si 3), (si ch2), (si 0)] [(.ref x), (.int 3)] := fun tgt kont => go107 tgt (by
              refine XS.iinc X106.here hx rfl (D d29_73) rfl (l' := #[(sr x), (si 3), (si ch2), (si 0)]) rfl ?_; refine XS.goto X106.here hx rfl (pc0 := 76) (pc' := 2) rfl (D d29_76) (by decide) (by decide) ?_; refine XS.iloadN X106.here hx rfl (D d29_2) rfl ?_; refine XS.aloadN X106.here hx rfl (D d29_3) rfl rfl ?_; exact kont)
            obtain ⟨cq109, kq109, q109a, q109b, q109c⟩ := isOf hZ76 e106 f85
            obtain ⟨_, _, ⟨T109, L109, k109, n109⟩, -, X109, ⟨Lc109, hQ109, l109, y109, z109⟩, st109⟩ := X106.virtualBack hx (y := (⟨"java/lang/String", "length", "()I"⟩ : MethodName)) (z := (⟨"java/lang/String", "length", "()I"⟩ : MethodName)) hown76 (mvT hZ76 (wd hw 27 rfl)) (mvT hZ76 (wd hw 28 rfl)) (notFace_of_selects (args := #[]) (mvT hZ76 (wd hw 30 rfl))) (mvT hZ76 (wd hw 30 rfl)) (mvT hZ76 (wd hw 29 rfl)) (by decide) (backOf (W := 1) (rmE3 l Z a0 hw [] x ch0 ch1 ch2 G fv h76 n0 z77 SE76 kch0 kch1 kch2 W0 f79) hZ76 (wd hw 31 rfl) (wd hw 4 rfl) (by decide) (by decide)) q109a q109c (g := (mkF m 4 #[(sr x), (si 3), (si ch2), (si 0)] [(.ref x), (.int 3)])) rfl (by rw [hml]; rfl) (Steps.refl _) (argsL := []) (rest := [(.int (3 : Int32))]) (lenOf pd_15 rfl) rfl (by show 2 * 0 + _ ≤ _; exact Nat.le_of_eq rfl) (D d29_4) (fun _ _ => ⟨rfl, e106, (by decide : 2 + 0 ≤ _), (by decide : 64 + 0 ≤ _)⟩)
            dsimp only [Pt.U, Pt.locs, Pt.cells, Pt.slots] at X109 l109 y109 z109 st109 hQ109
            subst l109 y109 z109
            obtain ⟨rfl, rfl, e109⟩ := hQ109
            have N109 := Fr.app N106 (Fr.nil n0)
            have go109 : Go p e below E0 T109 m 7 #[(sr x), (si 3), (si ch2), (si 0)] [(.int 3), (.int 3)] := fun tgt kont => go108 tgt (st109.trans kont)
            have go110 : Go p e below E0 T109 m 80 #[(sr x), (si 3), (si ch2), (si 0)] [(.ref x)] := fun tgt kont => go109 tgt (by
              refine XS.icmpYes X109.here hx rfl (pc0 := 7) (pc' := 79) rfl (D d29_7) rfl (flt (by decide)).2.1 (by decide) (by decide) ?_; refine XS.aloadN X109.here hx rfl (D d29_79) rfl rfl ?_; exact kont)
            obtain ⟨cq111, kq111, q111a, q111b, q111c⟩ := isOf hZ76 e109 f85
            obtain ⟨_, _, ⟨T111, L111, k111, n111⟩, -, X111, ⟨Lc111, hQ111, l111, y111, z111⟩, st111⟩ := X109.virtualBack hx (y := (⟨"java/lang/String", "isEmpty", "()Z"⟩ : MethodName)) (z := (⟨"java/lang/String", "isEmpty", "()Z"⟩ : MethodName)) hown76 (mvT hZ76 (wd hw 38 rfl)) (mvT hZ76 (wd hw 39 rfl)) (notFace_of_selects (args := #[]) (mvT hZ76 (wd hw 41 rfl))) (mvT hZ76 (wd hw 41 rfl)) (mvT hZ76 (wd hw 40 rfl)) (by decide) (backOf (W := 0) (rmM3 l Z a0 hw [] x ch0 ch1 ch2 G fv h76 n0 z77 SE76 kch0 kch1 kch2 W0 f79) hZ76 (wd hw 42 rfl) (wd hw 4 rfl) (by decide) (by decide)) q111a q111c (g := (mkF m 80 #[(sr x), (si 3), (si ch2), (si 0)] [(.ref x)])) rfl (by rw [hml]; rfl) (Steps.refl _) (argsL := []) (rest := []) (lenOf pd_10 rfl) rfl (by show 2 * 0 + _ ≤ _; exact Nat.le_of_eq rfl) (D d29_80) (fun _ _ => ⟨rfl, e109, (by decide : 2 + 0 ≤ _), (by decide : 64 + 0 ≤ _)⟩)
            dsimp only [Pt.U, Pt.locs, Pt.cells, Pt.slots] at X111 l111 y111 z111 st111 hQ111
            subst l111 y111 z111
            obtain ⟨rfl, rfl, e111⟩ := hQ111
            have N111 := Fr.app N109 (Fr.nil n0)
            have go111 : Go p e below E0 T111 m 83 #[(sr x), (si 3), (si ch2), (si 0)] [(.int 0)] := fun tgt kont => go110 tgt (st111.trans kont)
            have go112 : Go p e below E0 T111 m 91 #[(sr x), (si 3), (si ch2), (si 0)] [(.int 1)] := fun tgt kont => go111 tgt (by
              refine XS.ifNo X111.here hx rfl (D d29_83) rfl ((if0 _ _).trans (teq rfl).2) ?_; refine XS.iconst X111.here hx rfl (D d29_86) ?_; refine XS.goto X111.here hx rfl (pc0 := 87) (pc' := 91) rfl (D d29_87) (by decide) (by decide) ?_; exact kont)
            obtain ⟨fs, hr, hrun, hended, hW⟩ := X111.leaveW hS76 (by rw [e111]; exact hk76) (v := some (.int (1 : Int32))) (fun h => by rw [Bd.returns] at h; cases h)
            refine ⟨_, _, go112 _ ?_, hrun, hended, _, _, rfl, ?_, hW.1, hW.2.1, hW.2.2.1, hW.2.2.2.mono (by decide) (by decide)⟩
            · show Steps p.tables e below (T111.setTop (mkF m 91 #[(sr x), (si 3), (si ch2), (si 0)] [(.int 1)])) _
              exact retN X111 hx (t := .boolean) Bd.returns (by simp) (D d29_91) hr
            · show QT3 Z x ch0 ch1 ch2 G fv h0 n0 _ T111.heap _ T111.vm
              rw [e111]
              exact ⟨_, rfl, N111, K78, Or.inl ⟨rfl, ⟨tk0, tk1, tk2⟩⟩⟩
          · have go113 : Go p e below E0 T106 m 72 #[(sr x), (si 2), (si ch2), (si 0)] [(.int 0)] := fun tgt kont => go106 tgt (by
              refine XS.ifNo X106.here hx rfl (D d29_68) rfl ((if0 _ _).trans (tlt hz2).2.1) ?_; refine XS.iconst X106.here hx rfl (D d29_71) ?_; exact kont)
            obtain ⟨fs, hr, hrun, hended, hW⟩ := X106.leaveW hS76 (by rw [e106]; exact hk76) (v := some (.int (0 : Int32))) (fun h => by rw [Bd.returns] at h; cases h)
            refine ⟨_, _, go113 _ ?_, hrun, hended, _, _, rfl, ?_, hW.1, hW.2.1, hW.2.2.1, hW.2.2.2.mono (by decide) (by decide)⟩
            · show Steps p.tables e below (T106.setTop (mkF m 72 #[(sr x), (si 2), (si ch2), (si 0)] [(.int 0)])) _
              exact retN X106 hx (t := .boolean) Bd.returns (by simp) (D d29_72) hr
            · show QT3 Z x ch0 ch1 ch2 G fv h0 n0 _ T106.heap _ T106.vm
              rw [e106]
              exact ⟨_, rfl, N106, K78, Or.inr ⟨rfl, fun q => (q.2.2).elim ha2 hs2⟩⟩
      · have go114 : Go p e below E0 T87 m 62 #[(sr x), (si 1), (si ch1), (si 0)] [] := fun tgt kont => go89 tgt (by
          refine XS.iloadN X87.here hx rfl (D d29_58) rfl ?_; refine XS.ifNo X87.here hx rfl (D d29_59) rfl ((if0 _ _).trans (teq rfl).2) ?_; exact kont)
        have go115 : Go p e below E0 T87 m 64 #[(sr x), (si 1), (si ch1), (si 0)] [(.ref la)] := fun tgt kont => go114 tgt (ldcAgain X87 hx hZ76 hown76 (wd hw 79 rfl) Lt_la (g := (mkF m 62 #[(sr x), (si 1), (si ch1), (si 0)] [])) rfl (D d29_62) tgt kont)
        have go116 : Go p e below E0 T87 m 65 #[(sr x), (si 1), (si ch1), (si 0)] [(.int ch1), (.ref la)] := fun tgt kont => go115 tgt (by
          refine XS.iloadN X87.here hx rfl (D d29_64) rfl ?_; exact kont)
        obtain ⟨cq117, kq117, q117a, q117b, q117c⟩ := isOf hZ76 e87 E_la
        obtain ⟨_, _, ⟨T117, L117, k117, n117⟩, -, X117, ⟨Lc117, hQ117, l117, y117, z117⟩, st117⟩ := X87.virtualBack hx (y := (⟨"java/lang/String", "indexOf", "(I)I"⟩ : MethodName)) (z := (⟨"java/lang/String", "indexOf", "(I)I"⟩ : MethodName)) hown76 (mvT hZ76 (wd hw 80 rfl)) (mvT hZ76 (wd hw 81 rfl)) (notFace_of_selects (args := #[]) (mvT hZ76 (wd hw 83 rfl))) (mvT hZ76 (wd hw 83 rfl)) (mvT hZ76 (wd hw 82 rfl)) (by decide) (backOf (W := 0) (rmI1 l Z a0 hw [] la lb lk ch1 G fv h76 n0 z77 E_la C_la V_la A_la kch1.1 W0 f79) hZ76 (wd hw 84 rfl) (wd hw 4 rfl) (by decide) (by decide)) q117a q117c (g := (mkF m 65 #[(sr x), (si 1), (si ch1), (si 0)] [(.int ch1), (.ref la)])) rfl (by rw [hml]; rfl) (Steps.refl _) (argsL := [(.int ch1)]) (rest := []) (lenOf pd_16 rfl) rfl (by show 2 * 0 + _ ≤ _; exact Nat.le_of_eq rfl) (D d29_65) (fun _ _ => ⟨rfl, e87, (by decide : 2 + 0 ≤ _), (by decide : 64 + 0 ≤ _)⟩)
        dsimp only [Pt.U, Pt.locs, Pt.cells, Pt.slots] at X117 l117 y117 z117 st117 hQ117
        subst l117 y117 z117
        obtain ⟨r1, rfl, rfl, e117, hr1⟩ := hQ117
        have N117 := Fr.app N87 (Fr.nil n0)
        have go117 : Go p e below E0 T117 m 68 #[(sr x), (si 1), (si ch1), (si 0)] [(.int r1)] := fun tgt kont => go116 tgt (st117.trans kont)
        rcases hr1 with ⟨hz1, hs1⟩ | ⟨hz1, hs1⟩
        · have go118 : Go p e below E0 T117 m 73 #[(sr x), (si 1), (si ch1), (si 0)] [] := fun tgt kont => go117 tgt (by
            refine XS.ifYes X117.here hx rfl (pc0 := 68) (pc' := 73) rfl (D d29_68) rfl ((if0 _ _).trans (flt hz1).2.1) (by decide) (by decide) ?_; exact kont)
          have tk1 : own_tc ch1 := Or.inr hs1
          have go119 : Go p e below E0 T117 m 4 #[(sr x), (si 2), (si ch1), (si 0)] [(.ref x), (.int 2)] := fun tgt kont => go118 tgt (by
            refine XS.iinc X117.here hx rfl (D d29_73) rfl (l' := #[(sr x), (si 2), (si ch1), (si 0)]) rfl ?_; refine XS.goto X117.here hx rfl (pc0 := 76) (pc' := 2) rfl (D d29_76) (by decide) (by decide) ?_; refine XS.iloadN X117.here hx rfl (D d29_2) rfl ?_; refine XS.aloadN X117.here hx rfl (D d29_3) rfl rfl ?_; exact kont)
          obtain ⟨cq120, kq120, q120a, q120b, q120c⟩ := isOf hZ76 e117 f85
          obtain ⟨_, _, ⟨T120, L120, k120, n120⟩, -, X120, ⟨Lc120, hQ120, l120, y120, z120⟩, st120⟩ := X117.virtualBack hx (y := (⟨"java/lang/String", "length", "()I"⟩ : MethodName)) (z := (⟨"java/lang/String", "length", "()I"⟩ : MethodName)) hown76 (mvT hZ76 (wd hw 27 rfl)) (mvT hZ76 (wd hw 28 rfl)) (notFace_of_selects (args := #[]) (mvT hZ76 (wd hw 30 rfl))) (mvT hZ76 (wd hw 30 rfl)) (mvT hZ76 (wd hw 29 rfl)) (by decide) (backOf (W := 1) (rmE3 l Z a0 hw [] x ch0 ch1 ch2 G fv h76 n0 z77 SE76 kch0 kch1 kch2 W0 f79) hZ76 (wd hw 31 rfl) (wd hw 4 rfl) (by decide) (by decide)) q120a q120c (g := (mkF m 4 #[(sr x), (si 2), (si ch1), (si 0)] [(.ref x), (.int 2)])) rfl (by rw [hml]; rfl) (Steps.refl _) (argsL := []) (rest := [(.int (2 : Int32))]) (lenOf pd_15 rfl) rfl (by show 2 * 0 + _ ≤ _; exact Nat.le_of_eq rfl) (D d29_4) (fun _ _ => ⟨rfl, e117, (by decide : 2 + 0 ≤ _), (by decide : 64 + 0 ≤ _)⟩)
          dsimp only [Pt.U, Pt.locs, Pt.cells, Pt.slots] at X120 l120 y120 z120 st120 hQ120
          subst l120 y120 z120
          obtain ⟨rfl, rfl, e120⟩ := hQ120
          have N120 := Fr.app N117 (Fr.nil n0)
          have go120 : Go p e below E0 T120 m 7 #[(sr x), (si 2), (si ch1), (si 0)] [(.int 3), (.int 2)] := fun tgt kont => go119 tgt (st120.trans kont)
          have go121 : Go p e below E0 T120 m 12 #[(sr x), (si 2), (si ch1), (si 0)] [(.int 2), (.ref x)] := fun tgt kont => go120 tgt (by
            refine XS.icmpNo X120.here hx rfl (D d29_7) rfl (tlt (by decide)).2.1 ?_; refine XS.aloadN X120.here hx rfl (D d29_10) rfl rfl ?_; refine XS.iloadN X120.here hx rfl (D d29_11) rfl ?_; exact kont)
          obtain ⟨cq122, kq122, q122a, q122b, q122c⟩ := isOf hZ76 e120 f85
          obtain ⟨_, _, ⟨T122, L122, k122, n122⟩, -, X122, ⟨Lc122, hQ122, l122, y122, z122⟩, st122⟩ := X120.virtualBack hx (y := (⟨"java/lang/String", "charAt", "(I)C"⟩ : MethodName)) (z := (⟨"java/lang/String", "charAt", "(I)C"⟩ : MethodName)) hown76 (mvT hZ76 (wd hw 57 rfl)) (mvT hZ76 (wd hw 58 rfl)) (notFace_of_selects (args := #[]) (mvT hZ76 (wd hw 60 rfl))) (mvT hZ76 (wd hw 60 rfl)) (mvT hZ76 (wd hw 59 rfl)) (by decide) (backOf (W := 0) (rmC32 l Z a0 hw [] x ch0 ch1 ch2 G fv h76 n0 z77 SE76 kch0 kch1 kch2 W0 f79) hZ76 (wd hw 61 rfl) (wd hw 4 rfl) (by decide) (by decide)) q122a q122c (g := (mkF m 12 #[(sr x), (si 2), (si ch1), (si 0)] [(.int 2), (.ref x)])) rfl (by rw [hml]; rfl) (Steps.refl _) (argsL := [(.int (2 : Int32))]) (rest := []) (lenOf pd_24 rfl) rfl (by show 2 * 0 + _ ≤ _; exact Nat.le_of_eq rfl) (D d29_12) (fun _ _ => ⟨rfl, e120, (by decide : 2 + 0 ≤ _), (by decide : 64 + 0 ≤ _)⟩)
          dsimp only [Pt.U, Pt.locs, Pt.cells, Pt.slots] at X122 l122 y122 z122 st122 hQ122
          subst l122 y122 z122
          obtain ⟨rfl, rfl, e122⟩ := hQ122
          have N122 := Fr.app N120 (Fr.nil n0)
          have go122 : Go p e below E0 T122 m 15 #[(sr x), (si 2), (si ch1), (si 0)] [(.int ch2)] := fun tgt kont => go121 tgt (st122.trans kont)
          have go123 : Go p e below E0 T122 m 16 #[(sr x), (si 2), (si ch2), (si 0)] [] := fun tgt kont => go122 tgt (by
            refine XS.istoreN X122.here hx rfl (D d29_15) rfl (l' := #[(sr x), (si 2), (si ch2), (si 0)]) rfl ?_; exact kont)
          obtain ⟨b2, hb2, go124⟩ : ∃ b2 : Int32, ((b2 = 1 ∧ own_an ch2) ∨ (b2 = 0 ∧ ¬ own_an ch2)) ∧ Go p e below E0 T122 m 58 #[(sr x), (si 2), (si ch2), (si b2)] [] := by
            by_cases y0 : ch2 < (97 : Int32)
            · by_cases y1 : ch2 < (65 : Int32)
              · by_cases y2 : ch2 < (48 : Int32)
                · exact ⟨(0 : Int32), Or.inr ⟨rfl, (by simp only [own_tc, own_an, own_sp, Int32.lt_iff_toInt_lt, ← Int32.toInt_inj, Int32.reduceToInt] at y0 y1 y2 ⊢; omega)⟩, fun tgt kont => go123 tgt (by refine XS.iloadN X122.here hx rfl (D d29_16) rfl ?_; refine XS.bipush X122.here hx rfl (D d29_17) ?_; refine XS.icmpYes X122.here hx rfl (pc0 := 19) (pc' := 28) rfl (D d29_19) rfl (tlt y0).1 (by decide) (by decide) ?_; refine XS.iloadN X122.here hx rfl (D d29_28) rfl ?_; refine XS.bipush X122.here hx rfl (D d29_29) ?_; refine XS.icmpYes X122.here hx rfl (pc0 := 31) (pc' := 40) rfl (D d29_31) rfl (tlt y1).1 (by decide) (by decide) ?_; refine XS.iloadN X122.here hx rfl (D d29_40) rfl ?_; refine XS.bipush X122.here hx rfl (D d29_41) ?_; refine XS.icmpYes X122.here hx rfl (pc0 := 43) (pc' := 56) rfl (D d29_43) rfl (tlt y2).1 (by decide) (by decide) ?_; refine XS.iconst X122.here hx rfl (D d29_56) ?_; refine XS.istoreN X122.here hx rfl (D d29_57) rfl (l' := #[(sr x), (si 2), (si ch2), (si 0)]) rfl ?_; exact kont)⟩
                · by_cases y3 : (57 : Int32) < ch2
                  · exact ⟨(0 : Int32), Or.inr ⟨rfl, (by simp only [own_tc, own_an, own_sp, Int32.lt_iff_toInt_lt, ← Int32.toInt_inj, Int32.reduceToInt] at y0 y1 y2 y3 ⊢; omega)⟩, fun tgt kont => go123 tgt (by refine XS.iloadN X122.here hx rfl (D d29_16) rfl ?_; refine XS.bipush X122.here hx rfl (D d29_17) ?_; refine XS.icmpYes X122.here hx rfl (pc0 := 19) (pc' := 28) rfl (D d29_19) rfl (tlt y0).1 (by decide) (by decide) ?_; refine XS.iloadN X122.here hx rfl (D d29_28) rfl ?_; refine XS.bipush X122.here hx rfl (D d29_29) ?_; refine XS.icmpYes X122.here hx rfl (pc0 := 31) (pc' := 40) rfl (D d29_31) rfl (tlt y1).1 (by decide) (by decide) ?_; refine XS.iloadN X122.here hx rfl (D d29_40) rfl ?_; refine XS.bipush X122.here hx rfl (D d29_41) ?_; refine XS.icmpNo X122.here hx rfl (D d29_43) rfl (flt y2).1 ?_; refine XS.iloadN X122.here hx rfl (D d29_46) rfl ?_; refine XS.bipush X122.here hx rfl (D d29_47) ?_; refine XS.icmpYes X122.here hx rfl (pc0 := 49) (pc' := 56) rfl (D d29_49) rfl (tlt y3).2.2.1 (by decide) (by decide) ?_; refine XS.iconst X122.here hx rfl (D d29_56) ?_; refine XS.istoreN X122.here hx rfl (D d29_57) rfl (l' := #[(sr x), (si 2), (si ch2), (si 0)]) rfl ?_; exact kont)⟩
                  · exact ⟨(1 : Int32), Or.inl ⟨rfl, (by simp only [own_tc, own_an, own_sp, Int32.lt_iff_toInt_lt, ← Int32.toInt_inj, Int32.reduceToInt] at y0 y1 y2 y3 ⊢; omega)⟩, fun tgt kont => go123 tgt (by refine XS.iloadN X122.here hx rfl (D d29_16) rfl ?_; refine XS.bipush X122.here hx rfl (D d29_17) ?_; refine XS.icmpYes X122.here hx rfl (pc0 := 19) (pc' := 28) rfl (D d29_19) rfl (tlt y0).1 (by decide) (by decide) ?_; refine XS.iloadN X122.here hx rfl (D d29_28) rfl ?_; refine XS.bipush X122.here hx rfl (D d29_29) ?_; refine XS.icmpYes X122.here hx rfl (pc0 := 31) (pc' := 40) rfl (D d29_31) rfl (tlt y1).1 (by decide) (by decide) ?_; refine XS.iloadN X122.here hx rfl (D d29_40) rfl ?_; refine XS.bipush X122.here hx rfl (D d29_41) ?_; refine XS.icmpNo X122.here hx rfl (D d29_43) rfl (flt y2).1 ?_; refine XS.iloadN X122.here hx rfl (D d29_46) rfl ?_; refine XS.bipush X122.here hx rfl (D d29_47) ?_; refine XS.icmpNo X122.here hx rfl (D d29_49) rfl (flt y3).2.2.1 ?_; refine XS.iconst X122.here hx rfl (D d29_52) ?_; refine XS.goto X122.here hx rfl (pc0 := 53) (pc' := 57) rfl (D d29_53) (by decide) (by decide) ?_; refine XS.istoreN X122.here hx rfl (D d29_57) rfl (l' := #[(sr x), (si 2), (si ch2), (si 1)]) rfl ?_; exact kont)⟩
              · by_cases y2 : (90 : Int32) < ch2
                · exact ⟨(0 : Int32), Or.inr ⟨rfl, (by simp only [own_tc, own_an, own_sp, Int32.lt_iff_toInt_lt, ← Int32.toInt_inj, Int32.reduceToInt] at y0 y1 y2 ⊢; omega)⟩, fun tgt kont => go123 tgt (by refine XS.iloadN X122.here hx rfl (D d29_16) rfl ?_; refine XS.bipush X122.here hx rfl (D d29_17) ?_; refine XS.icmpYes X122.here hx rfl (pc0 := 19) (pc' := 28) rfl (D d29_19) rfl (tlt y0).1 (by decide) (by decide) ?_; refine XS.iloadN X122.here hx rfl (D d29_28) rfl ?_; refine XS.bipush X122.here hx rfl (D d29_29) ?_; refine XS.icmpNo X122.here hx rfl (D d29_31) rfl (flt y1).1 ?_; refine XS.iloadN X122.here hx rfl (D d29_34) rfl ?_; refine XS.bipush X122.here hx rfl (D d29_35) ?_; refine XS.icmpNo X122.here hx rfl (D d29_37) rfl (tlt y2).2.2.2 ?_; refine XS.iloadN X122.here hx rfl (D d29_40) rfl ?_; refine XS.bipush X122.here hx rfl (D d29_41) ?_; refine XS.icmpNo X122.here hx rfl (D d29_43) rfl (flt (by simp only [Int32.lt_iff_toInt_lt, ← Int32.toInt_inj, Int32.reduceToInt] at y0 y1 y2 ⊢; omega : ¬ ch2 < (48 : Int32))).1 ?_; refine XS.iloadN X122.here hx rfl (D d29_46) rfl ?_; refine XS.bipush X122.here hx rfl (D d29_47) ?_; refine XS.icmpYes X122.here hx rfl (pc0 := 49) (pc' := 56) rfl (D d29_49) rfl (tlt (by simp only [Int32.lt_iff_toInt_lt, ← Int32.toInt_inj, Int32.reduceToInt] at y0 y1 y2 ⊢; omega : (57 : Int32) < ch2)).2.2.1 (by decide) (by decide) ?_; refine XS.iconst X122.here hx rfl (D d29_56) ?_; refine XS.istoreN X122.here hx rfl (D d29_57) rfl (l' := #[(sr x), (si 2), (si ch2), (si 0)]) rfl ?_; exact kont)⟩
                · exact ⟨(1 : Int32), Or.inl ⟨rfl, (by simp only [own_tc, own_an, own_sp, Int32.lt_iff_toInt_lt, ← Int32.toInt_inj, Int32.reduceToInt] at y0 y1 y2 ⊢; omega)⟩, fun tgt kont => go123 tgt (by refine XS.iloadN X122.here hx rfl (D d29_16) rfl ?_; refine XS.bipush X122.here hx rfl (D d29_17) ?_; refine XS.icmpYes X122.here hx rfl (pc0 := 19) (pc' := 28) rfl (D d29_19) rfl (tlt y0).1 (by decide) (by decide) ?_; refine XS.iloadN X122.here hx rfl (D d29_28) rfl ?_; refine XS.bipush X122.here hx rfl (D d29_29) ?_; refine XS.icmpNo X122.here hx rfl (D d29_31) rfl (flt y1).1 ?_; refine XS.iloadN X122.here hx rfl (D d29_34) rfl ?_; refine XS.bipush X122.here hx rfl (D d29_35) ?_; refine XS.icmpYes X122.here hx rfl (pc0 := 37) (pc' := 52) rfl (D d29_37) rfl (flt y2).2.2.2 (by decide) (by decide) ?_; refine XS.iconst X122.here hx rfl (D d29_52) ?_; refine XS.goto X122.here hx rfl (pc0 := 53) (pc' := 57) rfl (D d29_53) (by decide) (by decide) ?_; refine XS.istoreN X122.here hx rfl (D d29_57) rfl (l' := #[(sr x), (si 2), (si ch2), (si 1)]) rfl ?_; exact kont)⟩
            · by_cases y1 : (122 : Int32) < ch2
              · exact ⟨(0 : Int32), Or.inr ⟨rfl, (by simp only [own_tc, own_an, own_sp, Int32.lt_iff_toInt_lt, ← Int32.toInt_inj, Int32.reduceToInt] at y0 y1 ⊢; omega)⟩, fun tgt kont => go123 tgt (by refine XS.iloadN X122.here hx rfl (D d29_16) rfl ?_; refine XS.bipush X122.here hx rfl (D d29_17) ?_; refine XS.icmpNo X122.here hx rfl (D d29_19) rfl (flt y0).1 ?_; refine XS.iloadN X122.here hx rfl (D d29_22) rfl ?_; refine XS.bipush X122.here hx rfl (D d29_23) ?_; refine XS.icmpNo X122.here hx rfl (D d29_25) rfl (tlt y1).2.2.2 ?_; refine XS.iloadN X122.here hx rfl (D d29_28) rfl ?_; refine XS.bipush X122.here hx rfl (D d29_29) ?_; refine XS.icmpNo X122.here hx rfl (D d29_31) rfl (flt (by simp only [Int32.lt_iff_toInt_lt, ← Int32.toInt_inj, Int32.reduceToInt] at y0 y1 ⊢; omega : ¬ ch2 < (65 : Int32))).1 ?_; refine XS.iloadN X122.here hx rfl (D d29_34) rfl ?_; refine XS.bipush X122.here hx rfl (D d29_35) ?_; refine XS.icmpNo X122.here hx rfl (D d29_37) rfl (tlt (by simp only [Int32.lt_iff_toInt_lt, ← Int32.toInt_inj, Int32.reduceToInt] at y0 y1 ⊢; omega : (90 : Int32) < ch2)).2.2.2 ?_; refine XS.iloadN X122.here hx rfl (D d29_40) rfl ?_; refine XS.bipush X122.here hx rfl (D d29_41) ?_; refine XS.icmpNo X122.here hx rfl (D d29_43) rfl (flt (by simp only [Int32.lt_iff_toInt_lt, ← Int32.toInt_inj, Int32.reduceToInt] at y0 y1 ⊢; omega : ¬ ch2 < (48 : Int32))).1 ?_; refine XS.iloadN X122.here hx rfl (D d29_46) rfl ?_; refine XS.bipush X122.here hx rfl (D d29_47) ?_; refine XS.icmpYes X122.here hx rfl (pc0 := 49) (pc' := 56) rfl (D d29_49) rfl (tlt (by simp only [Int32.lt_iff_toInt_lt, ← Int32.toInt_inj, Int32.reduceToInt] at y0 y1 ⊢; omega : (57 : Int32) < ch2)).2.2.1 (by decide) (by decide) ?_; refine XS.iconst X122.here hx rfl (D d29_56) ?_; refine XS.istoreN X122.here hx rfl (D d29_57) rfl (l' := #[(sr x), (si 2), (si ch2), (si 0)]) rfl ?_; exact kont)⟩
              · exact ⟨(1 : Int32), Or.inl ⟨rfl, (by simp only [own_tc, own_an, own_sp, Int32.lt_iff_toInt_lt, ← Int32.toInt_inj, Int32.reduceToInt] at y0 y1 ⊢; omega)⟩, fun tgt kont => go123 tgt (by refine XS.iloadN X122.here hx rfl (D d29_16) rfl ?_; refine XS.bipush X122.here hx rfl (D d29_17) ?_; refine XS.icmpNo X122.here hx rfl (D d29_19) rfl (flt y0).1 ?_; refine XS.iloadN X122.here hx rfl (D d29_22) rfl ?_; refine XS.bipush X122.here hx rfl (D d29_23) ?_; refine XS.icmpYes X122.here hx rfl (pc0 := 25) (pc' := 52) rfl (D d29_25) rfl (flt y1).2.2.2 (by decide) (by decide) ?_; refine XS.iconst X122.here hx rfl (D d29_52) ?_; refine XS.goto X122.here hx rfl (pc0 := 53) (pc' := 57) rfl (D d29_53) (by decide) (by decide) ?_; refine XS.istoreN X122.here hx rfl (D d29_57) rfl (l' := #[(sr x), (si 2), (si ch2), (si 1)]) rfl ?_; exact kont)⟩
          rcases hb2 with ⟨rfl, ha2⟩ | ⟨rfl, ha2⟩
          · have go125 : Go p e below E0 T122 m 73 #[(sr x), (si 2), (si ch2), (si 1)] [] := fun tgt kont => go124 tgt (by
              refine XS.iloadN X122.here hx rfl (D d29_58) rfl ?_; refine XS.ifYes X122.here hx rfl (pc0 := 59) (pc' := 73) rfl (D d29_59) rfl ((if0 _ _).trans (feq (by decide)).2) (by decide) (by decide) ?_; exact kont)
            have tk2 : own_tc ch2 := Or.inl ha2
            have go126 : Go p e below E0 T122 m 4 #[(sr x), (si 3), (si ch2), (si 1)] [(.ref x), (.int 3)] := fun tgt kont => go125 tgt (by
              refine XS.iinc X122.here hx rfl (D d29_73) rfl (l' := #[(sr x), (si 3), (si ch2), (si 1)]) rfl ?_; refine XS.goto X122.here hx rfl (pc0 := 76) (pc' := 2) rfl (D d29_76) (by decide) (by decide) ?_; refine XS.iloadN X122.here hx rfl (D d29_2) rfl ?_; refine XS.aloadN X122.here hx rfl (D d29_3) rfl rfl ?_; exact kont)
            obtain ⟨cq127, kq127, q127a, q127b, q127c⟩ := isOf hZ76 e122 f85
            obtain ⟨_, _, ⟨T127, L127, k127, n127⟩, -, X127, ⟨Lc127, hQ127, l127, y127, z127⟩, st127⟩ := X122.virtualBack hx (y := (⟨"java/lang/String", "length", "()I"⟩ : MethodName)) (z := (⟨"java/lang/String", "length", "()I"⟩ : MethodName)) hown76 (mvT hZ76 (wd hw 27 rfl)) (mvT hZ76 (wd hw 28 rfl)) (notFace_of_selects (args := #[]) (mvT hZ76 (wd hw 30 rfl))) (mvT hZ76 (wd hw 30 rfl)) (mvT hZ76 (wd hw 29 rfl)) (by decide) (backOf (W := 1) (rmE3 l Z a0 hw [] x ch0 ch1 ch2 G fv h76 n0 z77 SE76 kch0 kch1 kch2 W0 f79) hZ76 (wd hw 31 rfl) (wd hw 4 rfl) (by decide) (by decide)) q127a q127c (g := (mkF m 4 #[(sr x), (si 3), (si ch2), (si 1)] [(.ref x), (.int 3)])) rfl (by rw [hml]; rfl) (Steps.refl _) (argsL := []) (rest := [(.int (3 : Int32))]) (lenOf pd_15 rfl) rfl (by show 2 * 0 + _ ≤ _; exact Nat.le_of_eq rfl) (D d29_4) (fun _ _ => ⟨rfl, e122, (by decide : 2 + 0 ≤ _), (by decide : 64 + 0 ≤ _)⟩)
            dsimp only [Pt.U, Pt.locs, Pt.cells, Pt.slots] at X127 l127 y127 z127 st127 hQ127
            subst l127 y127 z127
            obtain ⟨rfl, rfl, e127⟩ := hQ127
            have N127 := Fr.app N122 (Fr.nil n0)
            have go127 : Go p e below E0 T127 m 7 #[(sr x), (si 3), (si ch2), (si 1)] [(.int 3), (.int 3)] := fun tgt kont => go126 tgt (st127.trans kont)
            have go128 : Go p e below E0 T127 m 80 #[(sr x), (si 3), (si ch2), (si 1)] [(.ref x)] := fun tgt kont => go127 tgt (by
              refine XS.icmpYes X127.here hx rfl (pc0 := 7) (pc' := 79) rfl (D d29_7) rfl (flt (by decide)).2.1 (by decide) (by decide) ?_; refine XS.aloadN X127.here hx rfl (D d29_79) rfl rfl ?_; exact kont)
            obtain ⟨cq129, kq129, q129a, q129b, q129c⟩ := isOf hZ76 e127 f85
            obtain ⟨_, _, ⟨T129, L129, k129, n129⟩, -, X129, ⟨Lc129, hQ129, l129, y129, z129⟩, st129⟩ := X127.virtualBack hx (y := (⟨"java/lang/String", "isEmpty", "()Z"⟩ : MethodName)) (z := (⟨"java/lang/String", "isEmpty", "()Z"⟩ : MethodName)) hown76 (mvT hZ76 (wd hw 38 rfl)) (mvT hZ76 (wd hw 39 rfl)) (notFace_of_selects (args := #[]) (mvT hZ76 (wd hw 41 rfl))) (mvT hZ76 (wd hw 41 rfl)) (mvT hZ76 (wd hw 40 rfl)) (by decide) (backOf (W := 0) (rmM3 l Z a0 hw [] x ch0 ch1 ch2 G fv h76 n0 z77 SE76 kch0 kch1 kch2 W0 f79) hZ76 (wd hw 42 rfl) (wd hw 4 rfl) (by decide) (by decide)) q129a q129c (g := (mkF m 80 #[(sr x), (si 3), (si ch2), (si 1)] [(.ref x)])) rfl (by rw [hml]; rfl) (Steps.refl _) (argsL := []) (rest := []) (lenOf pd_10 rfl) rfl (by show 2 * 0 + _ ≤ _; exact Nat.le_of_eq rfl) (D d29_80) (fun _ _ => ⟨rfl, e127, (by decide : 2 + 0 ≤ _), (by decide : 64 + 0 ≤ _)⟩)
            dsimp only [Pt.U, Pt.locs, Pt.cells, Pt.slots] at X129 l129 y129 z129 st129 hQ129
            subst l129 y129 z129
            obtain ⟨rfl, rfl, e129⟩ := hQ129
            have N129 := Fr.app N127 (Fr.nil n0)
            have go129 : Go p e below E0 T129 m 83 #[(sr x), (si 3), (si ch2), (si 1)] [(.int 0)] := fun tgt kont => go128 tgt (st129.trans kont)
            have go130 : Go p e below E0 T129 m 91 #[(sr x), (si 3), (si ch2), (si 1)] [(.int 1)] := fun tgt kont => go129 tgt (by
              refine XS.ifNo X129.here hx rfl (D d29_83) rfl ((if0 _ _).trans (teq rfl).2) ?_; refine XS.iconst X129.here hx rfl (D d29_86) ?_; refine XS.goto X129.here hx rfl (pc0 := 87) (pc' := 91) rfl (D d29_87) (by decide) (by decide) ?_; exact kont)
            obtain ⟨fs, hr, hrun, hended, hW⟩ := X129.leaveW hS76 (by rw [e129]; exact hk76) (v := some (.int (1 : Int32))) (fun h => by rw [Bd.returns] at h; cases h)
            refine ⟨_, _, go130 _ ?_, hrun, hended, _, _, rfl, ?_, hW.1, hW.2.1, hW.2.2.1, hW.2.2.2.mono (by decide) (by decide)⟩
            · show Steps p.tables e below (T129.setTop (mkF m 91 #[(sr x), (si 3), (si ch2), (si 1)] [(.int 1)])) _
              exact retN X129 hx (t := .boolean) Bd.returns (by simp) (D d29_91) hr
            · show QT3 Z x ch0 ch1 ch2 G fv h0 n0 _ T129.heap _ T129.vm
              rw [e129]
              exact ⟨_, rfl, N129, K78, Or.inl ⟨rfl, ⟨tk0, tk1, tk2⟩⟩⟩
          · have go131 : Go p e below E0 T122 m 62 #[(sr x), (si 2), (si ch2), (si 0)] [] := fun tgt kont => go124 tgt (by
              refine XS.iloadN X122.here hx rfl (D d29_58) rfl ?_; refine XS.ifNo X122.here hx rfl (D d29_59) rfl ((if0 _ _).trans (teq rfl).2) ?_; exact kont)
            have go132 : Go p e below E0 T122 m 64 #[(sr x), (si 2), (si ch2), (si 0)] [(.ref la)] := fun tgt kont => go131 tgt (ldcAgain X122 hx hZ76 hown76 (wd hw 79 rfl) Lt_la (g := (mkF m 62 #[(sr x), (si 2), (si ch2), (si 0)] [])) rfl (D d29_62) tgt kont)
            have go133 : Go p e below E0 T122 m 65 #[(sr x), (si 2), (si ch2), (si 0)] [(.int ch2), (.ref la)] := fun tgt kont => go132 tgt (by
              refine XS.iloadN X122.here hx rfl (D d29_64) rfl ?_; exact kont)
            obtain ⟨cq134, kq134, q134a, q134b, q134c⟩ := isOf hZ76 e122 E_la
            obtain ⟨_, _, ⟨T134, L134, k134, n134⟩, -, X134, ⟨Lc134, hQ134, l134, y134, z134⟩, st134⟩ := X122.virtualBack hx (y := (⟨"java/lang/String", "indexOf", "(I)I"⟩ : MethodName)) (z := (⟨"java/lang/String", "indexOf", "(I)I"⟩ : MethodName)) hown76 (mvT hZ76 (wd hw 80 rfl)) (mvT hZ76 (wd hw 81 rfl)) (notFace_of_selects (args := #[]) (mvT hZ76 (wd hw 83 rfl))) (mvT hZ76 (wd hw 83 rfl)) (mvT hZ76 (wd hw 82 rfl)) (by decide) (backOf (W := 0) (rmI1 l Z a0 hw [] la lb lk ch2 G fv h76 n0 z77 E_la C_la V_la A_la kch2.1 W0 f79) hZ76 (wd hw 84 rfl) (wd hw 4 rfl) (by decide) (by decide)) q134a q134c (g := (mkF m 65 #[(sr x), (si 2), (si ch2), (si 0)] [(.int ch2), (.ref la)])) rfl (by rw [hml]; rfl) (Steps.refl _) (argsL := [(.int ch2)]) (rest := []) (lenOf pd_16 rfl) rfl (by show 2 * 0 + _ ≤ _; exact Nat.le_of_eq rfl) (D d29_65) (fun _ _ => ⟨rfl, e122, (by decide : 2 + 0 ≤ _), (by decide : 64 + 0 ≤ _)⟩)
            dsimp only [Pt.U, Pt.locs, Pt.cells, Pt.slots] at X134 l134 y134 z134 st134 hQ134
            subst l134 y134 z134
            obtain ⟨r2, rfl, rfl, e134, hr2⟩ := hQ134
            have N134 := Fr.app N122 (Fr.nil n0)
            have go134 : Go p e below E0 T134 m 68 #[(sr x), (si 2), (si ch2), (si 0)] [(.int r2)] := fun tgt kont => go133 tgt (st134.trans kont)
            rcases hr2 with ⟨hz2, hs2⟩ | ⟨hz2, hs2⟩
            · have go135 : Go p e below E0 T134 m 73 #[(sr x), (si 2), (si ch2), (si 0)] [] := fun tgt kont => go134 tgt (by
                refine XS.ifYes X134.here hx rfl (pc0 := 68) (pc' := 73) rfl (D d29_68) rfl ((if0 _ _).trans (flt hz2).2.1) (by decide) (by decide) ?_; exact kont)
              have tk2 : own_tc ch2 := Or.inr hs2
              have go136 : Go p e below E0 T134 m 4 #[(sr x), (si 3), (si ch2), (si 0)] [(.ref x), (.int 3)] := fun tgt kont => go135 tgt (by
                refine XS.iinc X134.here hx rfl (D d29_73) rfl (l' := #[(sr x), (si 3), (si ch2), (si 0)]) rfl ?_; refine XS.goto X134.here hx rfl (pc0 := 76) (pc' := 2) rfl (D d29_76) (by decide) (by decide) ?_; refine XS.iloadN X134.here hx rfl (D d29_2) rfl ?_; refine XS.aloadN X134.here hx rfl (D d29_3) rfl rfl ?_; exact kont)
              obtain ⟨cq137, kq137, q137a, q137b, q137c⟩ := isOf hZ76 e134 f85
              obtain ⟨_, _, ⟨T137, L137, k137, n137⟩, -, X137, ⟨Lc137, hQ137, l137, y137, z137⟩, st137⟩ := X134.virtualBack hx (y := (⟨"java/lang/String", "length", "()I"⟩ : MethodName)) (z := (⟨"java/lang/String", "length", "()I"⟩ : MethodName)) hown76 (mvT hZ76 (wd hw 27 rfl)) (mvT hZ76 (wd hw 28 rfl)) (notFace_of_selects (args := #[]) (mvT hZ76 (wd hw 30 rfl))) (mvT hZ76 (wd hw 30 rfl)) (mvT hZ76 (wd hw 29 rfl)) (by decide) (backOf (W := 1) (rmE3 l Z a0 hw [] x ch0 ch1 ch2 G fv h76 n0 z77 SE76 kch0 kch1 kch2 W0 f79) hZ76 (wd hw 31 rfl) (wd hw 4 rfl) (by decide) (by decide)) q137a q137c (g := (mkF m 4 #[(sr x), (si 3), (si ch2), (si 0)] [(.ref x), (.int 3)])) rfl (by rw [hml]; rfl) (Steps.refl _) (argsL := []) (rest := [(.int (3 : Int32))]) (lenOf pd_15 rfl) rfl (by show 2 * 0 + _ ≤ _; exact Nat.le_of_eq rfl) (D d29_4) (fun _ _ => ⟨rfl, e134, (by decide : 2 + 0 ≤ _), (by decide : 64 + 0 ≤ _)⟩)
              dsimp only [Pt.U, Pt.locs, Pt.cells, Pt.slots] at X137 l137 y137 z137 st137 hQ137
              subst l137 y137 z137
              obtain ⟨rfl, rfl, e137⟩ := hQ137
              have N137 := Fr.app N134 (Fr.nil n0)
              have go137 : Go p e below E0 T137 m 7 #[(sr x), (si 3), (si ch2), (si 0)] [(.int 3), (.int 3)] := fun tgt kont => go136 tgt (st137.trans kont)
              have go138 : Go p e below E0 T137 m 80 #[(sr x), (si 3), (si ch2), (si 0)] [(.ref x)] := fun tgt kont => go137 tgt (by
                refine XS.icmpYes X137.here hx rfl (pc0 := 7) (pc' := 79) rfl (D d29_7) rfl (flt (by decide)).2.1 (by decide) (by decide) ?_; refine XS.aloadN X137.here hx rfl (D d29_79) rfl rfl ?_; exact kont)
              obtain ⟨cq139, kq139, q139a, q139b, q139c⟩ := isOf hZ76 e137 f85
              obtain ⟨_, _, ⟨T139, L139, k139, n139⟩, -, X139, ⟨Lc139, hQ139, l139, y139, z139⟩, st139⟩ := X137.virtualBack hx (y := (⟨"java/lang/String", "isEmpty", "()Z"⟩ : MethodName)) (z := (⟨"java/lang/String", "isEmpty", "()Z"⟩ : MethodName)) hown76 (mvT hZ76 (wd hw 38 rfl)) (mvT hZ76 (wd hw 39 rfl)) (notFace_of_selects (args := #[]) (mvT hZ76 (wd hw 41 rfl))) (mvT hZ76 (wd hw 41 rfl)) (mvT hZ76 (wd hw 40 rfl)) (by decide) (backOf (W := 0) (rmM3 l Z a0 hw [] x ch0 ch1 ch2 G fv h76 n0 z77 SE76 kch0 kch1 kch2 W0 f79) hZ76 (wd hw 42 rfl) (wd hw 4 rfl) (by decide) (by decide)) q139a q139c (g := (mkF m 80 #[(sr x), (si 3), (si ch2), (si 0)] [(.ref x)])) rfl (by rw [hml]; rfl) (Steps.refl _) (argsL := []) (rest := []) (lenOf pd_10 rfl) rfl (by show 2 * 0 + _ ≤ _; exact Nat.le_of_eq rfl) (D d29_80) (fun _ _ => ⟨rfl, e137, (by decide : 2 + 0 ≤ _), (by decide : 64 + 0 ≤ _)⟩)
              dsimp only [Pt.U, Pt.locs, Pt.cells, Pt.slots] at X139 l139 y139 z139 st139 hQ139
              subst l139 y139 z139
              obtain ⟨rfl, rfl, e139⟩ := hQ139
              have N139 := Fr.app N137 (Fr.nil n0)
              have go139 : Go p e below E0 T139 m 83 #[(sr x), (si 3), (si ch2), (si 0)] [(.int 0)] := fun tgt kont => go138 tgt (st139.trans kont)
              have go140 : Go p e below E0 T139 m 91 #[(sr x), (si 3), (si ch2), (si 0)] [(.int 1)] := fun tgt kont => go139 tgt (by
                refine XS.ifNo X139.here hx rfl (D d29_83) rfl ((if0 _ _).trans (teq rfl).2) ?_; refine XS.iconst X139.here hx rfl (D d29_86) ?_; refine XS.goto X139.here hx rfl (pc0 := 87) (pc' := 91) rfl (D d29_87) (by decide) (by decide) ?_; exact kont)
              obtain ⟨fs, hr, hrun, hended, hW⟩ := X139.leaveW hS76 (by rw [e139]; exact hk76) (v := some (.int (1 : Int32))) (fun h => by rw [Bd.returns] at h; cases h)
              refine ⟨_, _, go140 _ ?_, hrun, hended, _, _, rfl, ?_, hW.1, hW.2.1, hW.2.2.1, hW.2.2.2.mono (by decide) (by decide)⟩
              · show Steps p.tables e below (T139.setTop (mkF m 91 #[(sr x), (si 3), (si ch2), (si 0)] [(.int 1)])) _
                exact retN X139 hx (t := .boolean) Bd.returns (by simp) (D d29_91) hr
              · show QT3 Z x ch0 ch1 ch2 G fv h0 n0 _ T139.heap _ T139.vm
                rw [e139]
                exact ⟨_, rfl, N139, K78, Or.inl ⟨rfl, ⟨tk0, tk1, tk2⟩⟩⟩
            · have go141 : Go p e below E0 T134 m 72 #[(sr x), (si 2), (si ch2), (si 0)] [(.int 0)] := fun tgt kont => go134 tgt (by
                refine XS.ifNo X134.here hx rfl (D d29_68) rfl ((if0 _ _).trans (tlt hz2).2.1) ?_; refine XS.iconst X134.here hx rfl (D d29_71) ?_; exact kont)
              obtain ⟨fs, hr, hrun, hended, hW⟩ := X134.leaveW hS76 (by rw [e134]; exact hk76) (v := some (.int (0 : Int32))) (fun h => by rw [Bd.returns] at h; cases h)
              refine ⟨_, _, go141 _ ?_, hrun, hended, _, _, rfl, ?_, hW.1, hW.2.1, hW.2.2.1, hW.2.2.2.mono (by decide) (by decide)⟩
              · show Steps p.tables e below (T134.setTop (mkF m 72 #[(sr x), (si 2), (si ch2), (si 0)] [(.int 0)])) _
                exact retN X134 hx (t := .boolean) Bd.returns (by simp) (D d29_72) hr
              · show QT3 Z x ch0 ch1 ch2 G fv h0 n0 _ T134.heap _ T134.vm
                rw [e134]
                exact ⟨_, rfl, N134, K78, Or.inr ⟨rfl, fun q => (q.2.2).elim ha2 hs2⟩⟩
        · have go142 : Go p e below E0 T117 m 72 #[(sr x), (si 1), (si ch1), (si 0)] [(.int 0)] := fun tgt kont => go117 tgt (by
            refine XS.ifNo X117.here hx rfl (D d29_68) rfl ((if0 _ _).trans (tlt hz1).2.1) ?_; refine XS.iconst X117.here hx rfl (D d29_71) ?_; exact kont)
          obtain ⟨fs, hr, hrun, hended, hW⟩ := X117.leaveW hS76 (by rw [e117]; exact hk76) (v := some (.int (0 : Int32))) (fun h => by rw [Bd.returns] at h; cases h)
          refine ⟨_, _, go142 _ ?_, hrun, hended, _, _, rfl, ?_, hW.1, hW.2.1, hW.2.2.1, hW.2.2.2.mono (by decide) (by decide)⟩
          · show Steps p.tables e below (T117.setTop (mkF m 72 #[(sr x), (si 1), (si ch1), (si 0)] [(.int 0)])) _
            exact retN X117 hx (t := .boolean) Bd.returns (by simp) (D d29_72) hr
          · show QT3 Z x ch0 ch1 ch2 G fv h0 n0 _ T117.heap _ T117.vm
            rw [e117]
            exact ⟨_, rfl, N117, K78, Or.inr ⟨rfl, fun q => (q.2.1).elim ha1 hs1⟩⟩
    · have go143 : Go p e below E0 T81 m 72 #[(sr x), (si 0), (si ch0), (si 0)] [(.int 0)] := fun tgt kont => go81 tgt (by
        refine XS.ifNo X81.here hx rfl (D d29_68) rfl ((if0 _ _).trans (tlt hz0).2.1) ?_; refine XS.iconst X81.here hx rfl (D d29_71) ?_; exact kont)
      obtain ⟨fs, hr, hrun, hended, hW⟩ := X81.leaveW hS76 (by rw [e81]; exact hk76) (v := some (.int (0 : Int32))) (fun h => by rw [Bd.returns] at h; cases h)
      refine ⟨_, _, go143 _ ?_, hrun, hended, _, _, rfl, ?_, hW.1, hW.2.1, hW.2.2.1, hW.2.2.2.mono (by decide) (by decide)⟩
      · show Steps p.tables e below (T81.setTop (mkF m 72 #[(sr x), (si 0), (si ch0), (si 0)] [(.int 0)])) _
        exact retN X81 hx (t := .boolean) Bd.returns (by simp) (D d29_72) hr
      · show QT3 Z x ch0 ch1 ch2 G fv h0 n0 _ T81.heap _ T81.vm
        rw [e81]
        exact ⟨_, rfl, N81, K78, Or.inr ⟨rfl, fun q => (q.1).elim ha0 hs0⟩⟩
/-- the empty constant: not loaded since the start, or booked, with what it holds -/
def own_J (Z : State) (h : Heap) (vm : Vm) : Prop := IB Z vm [] ∨ ∃ (a b : Addr) (k : ClassId), Jvm.RoadKit.Lit (Z.setVm vm) "java/lang/String" 7 a ∧ Exa Z h a "java/lang/String" ∧ Fld Z h a "java/lang/String" "coder" "B" (.int (0 : Int32)) ∧ Fld Z h a "java/lang/String" "value" "[B" (.ref b) ∧ Arv Z h b k .byte (0 : Int32) [] (.int (0 : Int32))
theorem own_Jkeep {Z : State} {h h' : Heap} {vm : Vm} (J : own_J Z h vm) (K : Keep h h' []) : own_J Z h' vm := J.imp id fun ⟨a, b, k, L, E, C, F, A⟩ => ⟨a, b, k, L, E.keep K, C.keep K nin0, F.keep K nin0, A.keep K nin0⟩
theorem own_Jwarm {Z s : State} {h : Heap} {vm' : Vm} (J : own_J Z h s.vm) (hW : s.WarmedH vm') : own_J Z h vm' := by
  rcases J with ⟨more, e, q⟩ | ⟨a, b, k, L, r⟩
  · exact Or.inl ⟨more, hW.interned_eq.trans e, q⟩
  · exact Or.inr ⟨a, b, k, Jvm.RoadKit.Lit.stays (s := s) (vm0 := s.vm) L hW.wide, r⟩
theorem own_backJ {p : Program} {l : Launch} {e : Env} {R : Room} {s : State} {args : Array Value} {below : List Frame} {Z : State} {a0 : Array Value} {h : Heap} {y : MethodName} {bytes : ByteArray} {maxL : Nat} {ret : Option FieldType} {rm : Room} {len W : Nat} {as' : Array Value} {J : Vm → Prop} {Q : Option Value → Heap → List Loc → Vm → Prop}
    (hM : MetFree l y (head1 [Jvm.Cond.code y bytes maxL ret] rm) (fun a U => a = as' ∧ Z.Warmed39 U.vm ∧ U.heap = h ∧ J U.vm) (fun _ _ _ _ _ => True) (fun _ U o U' => ∃ v L, o = .returned v ∧ Q v U'.heap L U'.vm ∧ ReturnedEndW U o U' L rm.cells rm.slots))
    (hZ : Z.Warmed39 s.vm) (wc : (Jvm.Cond.code y bytes maxL ret).before a0 Z = true) (wz : (Jvm.Cond.initialized y.cls).before a0 Z = true) (hf : rm.frames + 1 ≤ R.frames) (hl : W + (maxL + 11) + rm.locals ≤ R.locals) :
    BackS l R p e below s args y len W (fun A a => a = as' ∧ A.U.heap = h ∧ J A.U.vm ∧ A.cells + rm.cells ≤ R.cells ∧ A.slots + rm.slots ≤ R.slots)
      (fun A _ v B => ∃ L, Q v B.U.heap L B.U.vm ∧ B.locs = A.locs ++ L ∧ B.cells = A.cells + rm.cells ∧ B.slots = A.slots + rm.slots) := by
  refine BackS.of_freeW (bytes := bytes) (maxL := maxL) (ret := ret) (E := fun _ _ o t L k n => k = rm.cells ∧ n = rm.slots ∧ ∃ v, o = .returned v ∧ Q v t.heap L t.vm) hM hf hl ?_ ?_ ?_ ?_ ?_
  · intro m meth c A a Y hp
    have hU : Z.Warmed39 A.U.vm := wtrans hZ Y.warmed
    refine ⟨?_, mv hU wc, mv hU wz, hp.2.2.2.1, hp.2.2.2.2⟩
    show (Jvm.Cond.and _ .tt).before a A.U = true
    rw [Cond.before_and, mv hU wc]; rfl
  · exact fun m meth c A a g mk Y hp => ⟨hp.1, wtrans hZ Y.warmed, hp.2.1, hp.2.2.1⟩
  · exact fun _ _ _ _ _ _ _ _ _ => trivial
  · rintro _ _ _ _ ⟨v, L, h1, h2, h3⟩
    exact ⟨L, _, _, h3, rfl, rfl, v, h1, h2⟩
  · rintro m meth c A a g mk v t L k n Y hp _ _ ⟨e1, e2, v', e3, e4⟩
    cases e3; subst e1 e2
    exact ⟨L, e4, rfl, rfl, rfl⟩

theorem d27_8 : decode jdk_42_method_149_code 8 = .ok (.aload_n 0, 1) := by decide +kernel
theorem d27_9 : decode jdk_42_method_149_code 9 = .ok (.ldc 7, 2) := by decide +kernel
theorem d27_11 : decode jdk_42_method_149_code 11 = .ok (.getfield 9, 3) := by decide +kernel
theorem d27_14 : decode jdk_42_method_149_code 14 = .ok (.putfield 9, 3) := by decide +kernel
theorem d27_17 : decode jdk_42_method_149_code 17 = .ok (.aload_n 0, 1) := by decide +kernel
theorem d27_18 : decode jdk_42_method_149_code 18 = .ok (.ldc 7, 2) := by decide +kernel
theorem d27_20 : decode jdk_42_method_149_code 20 = .ok (.getfield 15, 3) := by decide +kernel
theorem d27_23 : decode jdk_42_method_149_code 23 = .ok (.putfield 15, 3) := by decide +kernel
theorem d27_26 : decode jdk_42_method_149_code 26 = .ok (.return_, 1) := by decide +kernel
theorem ef_V0 (m : MethodId) (x0 : Addr) (x1 : Addr) (x2 : Int32) (x3 : Int32) : entryFrame m #[(.ref x0), (.ref x1), (.int x2), (.int x3), .null] 6 = mkF m 0 #[.val (.ref x0), .val (.ref x1), .val (.int x2), .val (.int x3), .val .null, .unset] [] := by first | (simp [entryFrame, mkF, argsToLocals, Value.category, maxLocals]; done) | rfl
def QV0 (Z : State) (x : Addr) (ca : Addr) (h0 : Heap) (n0 : Nat) (v : Option Value) (h : Heap) (L : List Loc) (vm : Vm) : Prop := v = none ∧ Fr n0 L ∧ Keep h0 h [x] ∧ Exa Z h x "java/lang/String" ∧ Fld Z h x "java/lang/String" "coder" "B" (.int (0 : Int32)) ∧ ∃ (t : Addr) (kb : ClassId), Fld Z h x "java/lang/String" "value" "[B" (.ref t) ∧ Arv Z h t kb .byte (0 : Int32) [] (.int (0 : Int32)) ∧ own_J Z h vm
abbrev RmV0 : Room := ({ frames := 1, cells := 2, slots := 4, locals := 12 } : Room)
set_option maxRecDepth 65536 in
set_option maxHeartbeats 40000000 in
theorem rmV0 (l : Launch) (Z : State) (a0 : Array Value) (hw : ∀ d ∈ tables_1, d.before a0 Z = true) (ws : List Jvm.Cond) (x : Addr) (ca : Addr) (h0 : Heap) (n0 : Nat) (Z0 : n0 ≤ h0.size) (Ex : Exa Z h0 x "java/lang/String") (gx : n0 ≤ x) (Fv : Fld Z h0 x "java/lang/String" "value" "[B" .null) (Fc : Fld Z h0 x "java/lang/String" "coder" "B" (.int (0 : Int32))) (O0 : Old Z n0 h0) (hH : Jvm.Lit.constHeld Z "java/lang/String" 7) (hCW : Jvm.Lit.compactW.before a0 Z = true) :
    MetFree l (⟨"java/lang/String", "<init>", "([CIILjava/lang/Void;)V"⟩ : MethodName) (head1 (Jvm.Cond.code (⟨"java/lang/String", "<init>", "([CIILjava/lang/Void;)V"⟩ : MethodName) jdk_42_method_149_code 6 none :: ws) RmV0) (fun as_ U => as_ = #[(.ref x), (.ref ca), (.int (0 : Int32)), (.int (0 : Int32)), .null] ∧ Z.Warmed39 U.vm ∧ U.heap = h0 ∧ (own_J Z h0) U.vm) (fun _ _ _ _ _ => True) (fun _ U o U' => ∃ v L, o = .returned v ∧ QV0 Z x ca h0 n0 v U'.heap L U'.vm ∧ ReturnedEndW U o U' L RmV0.cells RmV0.slots) := by
  refine MetFree.of_bodySF (plainFor_of_name pn_2) hisR ?_
  intro p e s m args below meth c s₁ Bd hml0 hP hK
  obtain ⟨rfl, hZ, hh, hJ0⟩ := hP
  have hx := Bd.exec
  have hby := Bd.bytes
  have D : ∀ {pc : Nat} {r : Except DecodeError (Instr × Nat)}, decode jdk_42_method_149_code pc = r → decode c.code pc = r := fun q => hb hby q
  have hml : c.maxLocals = 6 := hml0
  have hown : s.vm.findClass "java/lang/String" = some m.cls := findClass_of_methodNamed Bd.named
  have hnm := (name_of_methodNamed Bd.named Bd.method).1
  have X0 : Stand p l e RmV0 (s.setVm s.vm) m #[(.ref x), (.ref ca), (.int (0 : Int32)), (.int (0 : Int32)), .null] below meth c s₁ [] 0 0 := Stand.of_body Bd
  have e0 : s₁.heap = h0 := by rw [← hh, Bd.state]; rfl
  have N0 := Fr.nil n0
  obtain ⟨E0, hE0⟩ : ∃ z, z = s₁.setTop (entryFrame m #[(.ref x), (.ref ca), (.int (0 : Int32)), (.int (0 : Int32)), .null] 6) := ⟨_, rfl⟩
  rw [← hE0]
  have go0 : ∀ tgt, Steps p.tables e below (s₁.setTop (mkF m 0 #[(sr x), (sr ca), (si 0), (si 0), .val .null, .unset] [])) tgt → Steps p.tables e below E0 tgt := fun tgt kont => by rw [hE0]; exact castTop (ef_V0 m x ca (0 : Int32) (0 : Int32)) kont
  have hS0 : s.Since s.vm h0.size := (State.WarmedH.refl s).since _
  have hk0 : h0.size ≤ h0.size := Nat.le_refl _
  have hwS : ∀ a ∈ Bundle.stringAtoms, a.before a0 Z = true := fun d hd => hw d ((by decide +kernel : ∀ d ∈ Bundle.stringAtoms, d ∈ tables_1) d hd)
  have go1 : Go p e below E0 s₁ m 1 #[(sr x), (sr ca), (si 0), (si 0), .val .null, .unset] [(.ref x)] := fun tgt kont => go0 tgt (by
    refine XS.aloadN X0.here hx rfl (D d27_0) rfl rfl ?_; exact kont)
  obtain ⟨T2, X2, e2, st2⟩ := initO X0 hx hZ hown (wd hw 12 rfl) (wd hw 13 rfl) (wd hw 14 rfl) e0 (g := (mkF m 1 #[(sr x), (sr ca), (si 0), (si 0), .val .null, .unset] [(.ref x)])) rfl (by rw [hml]; rfl) rfl (D d27_1) (by decide) (W := 0) (by show 2 * 0 + _ ≤ _; exact Nat.le_of_eq rfl) (by decide)
  have go2 : Go p e below E0 T2 m 4 #[(sr x), (sr ca), (si 0), (si 0), .val .null, .unset] [] := fun tgt kont => go1 tgt (st2 tgt kont)
  have go3 : Go p e below E0 T2 m 9 #[(sr x), (sr ca), (si 0), (si 0), .val .null, .unset] [(.ref x)] := fun tgt kont => go2 tgt (by
    refine XS.iloadN X2.here hx rfl (D d27_4) rfl ?_; refine XS.ifNo X2.here hx rfl (D d27_5) rfl ((if0 _ _).trans (teq rfl).2) ?_; refine XS.aloadN X2.here hx rfl (D d27_8) rfl rfl ?_; exact kont)
  have hkeep0 : ∀ (b : Addr) (cl : Cell), Z.heap[b]? = some cl → s.heap[b]? = some cl := fun b cl q => by rw [hh]; exact O0.2.2 b cl q
  obtain ⟨la, lb, lk, vm4, T4, h4, k4, X4, e4, E4, hS4, hk4, hZ4, hown4, Ela, Cla, Vla, Ala, Lt, go4⟩ : ∃ (la lb : Addr) (lk : ClassId) (vm4 : Vm) (T4 : State) (h4 : Heap) (k4 : Nat), Stand p l e RmV0 (s.setVm vm4) m #[(.ref x), (.ref ca), (.int (0 : Int32)), (.int (0 : Int32)), .null] below meth c T4 [] 2 4 ∧ T4.heap = h4 ∧ Ext h0 h4 ∧ s.Since vm4 k4 ∧ k4 ≤ h4.size ∧ Z.Warmed39 (s.setVm vm4).vm ∧ (s.setVm vm4).vm.findClass "java/lang/String" = some m.cls ∧ Exa Z h4 la "java/lang/String" ∧ Fld Z h4 la "java/lang/String" "coder" "B" (.int (0 : Int32)) ∧ Fld Z h4 la "java/lang/String" "value" "[B" (.ref lb) ∧ Arv Z h4 lb lk .byte (0 : Int32) [] (.int (0 : Int32)) ∧ Jvm.RoadKit.Lit (s.setVm vm4) "java/lang/String" 7 la ∧ Go p e below E0 T4 m 11 #[(sr x), (sr ca), (si 0), (si 0), .val .null, .unset] [(.ref la), (.ref x)] := by
    rcases hJ0 with I | ⟨a, b, k, Lt, Ea, Ca, Va, Aa⟩
    · obtain ⟨a, T', h', k1, b, k, r1, r2, r3, r4, r5, r6, r7, r8, r9, r10, r11, -, -, -, r15, r16⟩ := ldcSVL X2 hx hZ hown (wd hw 15 rfl) hwS e2 hS0 hk0 (Fr.nil _) hkeep0 I (by simp) hH hCW (vs := []) (z := 0) ⟨by decide, by decide⟩ (by decide) (by decide) (g := (mkF m 9 #[(sr x), (sr ca), (si 0), (si 0), .val .null, .unset] [(.ref x)])) rfl (D d27_9) (n := 0) (by decide) (by decide) (by decide) (by decide)
      exact ⟨a, b, k, _, T', h', k1, r1, r2, r3, r4, r5, r6, r7, r8, r9, r10, r11, r15, fun tgt kont => go3 tgt (r16 tgt kont)⟩
    · exact ⟨a, b, k, s.vm, T2, h0, h0.size, X2.more (by decide) (by decide), e2, ⟨Nat.le_refl _, fun _ _ q => q⟩, hS0, hk0, hZ, hown, Ea, Ca, Va, Aa, Lt, fun tgt kont => go3 tgt (ldcAgain X2 hx hZ hown (wd hw 15 rfl) Lt (g := (mkF m 9 #[(sr x), (sr ca), (si 0), (si 0), .val .null, .unset] [(.ref x)])) rfl (D d27_9) tgt kont)⟩
  have z5 : n0 ≤ h4.size := Nat.le_trans Z0 E4.1
  have K6 : Keep h0 h4 [x] := (Keep.refl h0 [x]).ext E4
  have f7 : Fld Z h4 x "java/lang/String" "value" "[B" .null := (Fv.ext E4)
  have ne_la_x : la ≠ x := Vla.ne f7 (by simp)
  have f8 : Exa Z h4 x "java/lang/String" := (Ex.ext E4)
  have ne_x_lb : x ≠ lb := Exa.neArv f8 Ala (wd hw 3 rfl)
  obtain ⟨T9, X9, e9, st9⟩ := getF X4 hx hZ4 hown4 (host := "") (Or.inl (wd hw 21 rfl)) Via.refl e4 Vla (g := (mkF m 11 #[(sr x), (sr ca), (si 0), (si 0), .val .null, .unset] [(.ref la), (.ref x)])) rfl rfl (D d27_11)
  have go9 : Go p e below E0 T9 m 14 #[(sr x), (sr ca), (si 0), (si 0), .val .null, .unset] [(.ref lb), (.ref x)] := fun tgt kont => go4 tgt (st9 tgt kont)
  obtain ⟨T10, h10, X10, e10, W10, st10⟩ := putF X9 hx hZ4 hown4 (host := "") (Or.inl (wd hw 21 rfl)) Via.refl e9 f7 f8 (Or.inr ⟨(wd hw 17 rfl), rfl, hnm⟩) (wd hw 3 rfl) (ty := (.array .byte)) (by decide) rfl rfl (g := (mkF m 14 #[(sr x), (sr ca), (si 0), (si 0), .val .null, .unset] [(.ref lb), (.ref x)])) rfl rfl (D d27_14)
  have z11 : n0 ≤ h10.size := Nat.le_trans z5 (Keep.of_wr W10).1
  have K12 : Keep h0 h10 [x] := K6.wr W10 (Or.inl (List.mem_of_getElem? (i := 0) rfl))
  have N10 := Fr.snoc X10 N0 gx
  have f13 : Fld Z h10 x "java/lang/String" "value" "[B" (.ref lb) := (f7.same W10)
  have go10 : Go p e below E0 T10 m 17 #[(sr x), (sr ca), (si 0), (si 0), .val .null, .unset] [] := fun tgt kont => go9 tgt (st10 tgt kont)
  have go14 : Go p e below E0 T10 m 18 #[(sr x), (sr ca), (si 0), (si 0), .val .null, .unset] [(.ref x)] := fun tgt kont => go10 tgt (by
    refine XS.aloadN X10.here hx rfl (D d27_17) rfl rfl ?_; exact kont)
  have go15 : Go p e below E0 T10 m 20 #[(sr x), (sr ca), (si 0), (si 0), .val .null, .unset] [(.ref la), (.ref x)] := fun tgt kont => go14 tgt (ldcAgain X10 hx hZ4 hown4 (wd hw 15 rfl) Lt (g := (mkF m 18 #[(sr x), (sr ca), (si 0), (si 0), .val .null, .unset] [(.ref x)])) rfl (D d27_18) tgt kont)
  have f16 : Fld Z h10 la "java/lang/String" "coder" "B" (.int (0 : Int32)) := (Cla.other W10 (Or.inl ne_la_x))
  obtain ⟨T17, X17, e17, st17⟩ := getF X10 hx hZ4 hown4 (host := "") (Or.inl (wd hw 22 rfl)) Via.refl e10 f16 (g := (mkF m 20 #[(sr x), (sr ca), (si 0), (si 0), .val .null, .unset] [(.ref la), (.ref x)])) rfl rfl (D d27_20)
  have go17 : Go p e below E0 T17 m 23 #[(sr x), (sr ca), (si 0), (si 0), .val .null, .unset] [(.int 0), (.ref x)] := fun tgt kont => go15 tgt (st17 tgt kont)
  have f18 : Fld Z h10 x "java/lang/String" "coder" "B" (.int (0 : Int32)) := ((Fc.ext E4).other W10 (Or.inr (slot_ne (Or.inr (wd hw 18 rfl)) (Or.inr (wd hw 17 rfl)) (by decide) (t := .byte) (t' := (.array .byte)) (by decide) (by decide))))
  have f19 : Exa Z h10 x "java/lang/String" := (f8.wr W10)
  obtain ⟨T20, h20, X20, e20, W20, st20⟩ := putF X17 hx hZ4 hown4 (host := "") (Or.inl (wd hw 22 rfl)) Via.refl e17 f18 f19 (Or.inr ⟨(wd hw 18 rfl), rfl, hnm⟩) (wd hw 3 rfl) (ty := .byte) (by decide) rfl rfl (g := (mkF m 23 #[(sr x), (sr ca), (si 0), (si 0), .val .null, .unset] [(.int 0), (.ref x)])) rfl rfl (D d27_23)
  have z21 : n0 ≤ h20.size := Nat.le_trans z11 (Keep.of_wr W20).1
  have K22 : Keep h0 h20 [x] := K12.wr W20 (Or.inl (List.mem_of_getElem? (i := 0) rfl))
  have N20 := Fr.snoc X20 N10 gx
  have f23 : Fld Z h20 x "java/lang/String" "coder" "B" (.int (0 : Int32)) := (f18.same W20)
  have go20 : Go p e below E0 T20 m 26 #[(sr x), (sr ca), (si 0), (si 0), .val .null, .unset] [] := fun tgt kont => go17 tgt (st20 tgt kont)
  have f24 : Exa Z h20 la "java/lang/String" := ((Ela.wr W10).wr W20)
  have f25 : Fld Z h20 la "java/lang/String" "coder" "B" (.int (0 : Int32)) := (f16.other W20 (Or.inl ne_la_x))
  have f26 : Fld Z h20 la "java/lang/String" "value" "[B" (.ref lb) := ((Vla.other W10 (Or.inl ne_la_x)).other W20 (Or.inl ne_la_x))
  have f27 : Arv Z h20 lb lk .byte (0 : Int32) [] (.int (0 : Int32)) := ((Ala.other W10 (Ne.symm ne_x_lb)).other W20 (Ne.symm ne_x_lb))
  have f28 : Exa Z h20 x "java/lang/String" := (f19.wr W20)
  have f29 : Fld Z h20 x "java/lang/String" "value" "[B" (.ref lb) := (f13.other W20 (Or.inr (slot_ne (Or.inr (wd hw 17 rfl)) (Or.inr (wd hw 18 rfl)) (by decide) (t := (.array .byte)) (t' := .byte) (by decide) (by decide))))
  obtain ⟨fs, hr, hrun, hended, hW⟩ := X20.leaveW hS4 (by rw [e20]; exact (Nat.le_trans hk4 (Nat.le_trans (Keep.of_wr W10).1 (Keep.of_wr W20).1))) (v := none) (fun _ => rfl)
  refine ⟨_, _, go20 _ ?_, hrun, hended, _, _, rfl, ?_, hW.1, hW.2.1, hW.2.2.1, hW.2.2.2.mono (by decide) (by decide)⟩
  · show Steps p.tables e below (T20.setTop (mkF m 26 #[(sr x), (sr ca), (si 0), (si 0), .val .null, .unset] [])) _
    exact X20.returnOut hx Bd.returns (D d27_26) hr
  · show QV0 Z x ca h0 n0 _ T20.heap _ T20.vm
    rw [e20]
    exact ⟨rfl, N20, K22, f28, f23, lb, lk, f29, f27, (own_Jwarm (s := s.setVm vm4) (Or.inr ⟨la, lb, lk, Lt, f24, f25, f26, f27⟩) X20.warmed)⟩
theorem ef_I0 (m : MethodId) (x0 : Addr) (x1 : Addr) : entryFrame m #[(.ref x0), (.ref x1)] 2 = mkF m 0 #[.val (.ref x0), .val (.ref x1)] [] := by first | (simp [entryFrame, mkF, argsToLocals, Value.category, maxLocals]; done) | rfl
def QI0 (Z : State) (x : Addr) (ca : Addr) (kc : ClassId) (h0 : Heap) (n0 : Nat) (v : Option Value) (h : Heap) (L : List Loc) (vm : Vm) : Prop := v = none ∧ Fr n0 L ∧ Keep h0 h [x] ∧ Exa Z h x "java/lang/String" ∧ Fld Z h x "java/lang/String" "coder" "B" (.int (0 : Int32)) ∧ ∃ (t : Addr) (kb : ClassId), Fld Z h x "java/lang/String" "value" "[B" (.ref t) ∧ Arv Z h t kb .byte (0 : Int32) [] (.int (0 : Int32)) ∧ own_J Z h vm
abbrev RmI0 : Room := ({ frames := 2, cells := 2, slots := 4, locals := 29 } : Room)
set_option maxRecDepth 65536 in
set_option maxHeartbeats 40000000 in
theorem rmI0 (l : Launch) (Z : State) (a0 : Array Value) (hw : ∀ d ∈ tables_1, d.before a0 Z = true) (ws : List Jvm.Cond) (x : Addr) (ca : Addr) (kc : ClassId) (h0 : Heap) (n0 : Nat) (Z0 : n0 ≤ h0.size) (Ex : Exa Z h0 x "java/lang/String") (gx : n0 ≤ x) (Fv : Fld Z h0 x "java/lang/String" "value" "[B" .null) (Fc : Fld Z h0 x "java/lang/String" "coder" "B" (.int (0 : Int32))) (O0 : Old Z n0 h0) (hH : Jvm.Lit.constHeld Z "java/lang/String" 7) (hCW : Jvm.Lit.compactW.before a0 Z = true) (Ac : Arv Z h0 ca kc .char (0 : Int32) [] (.int (0 : Int32))) :
    MetFree l (⟨"java/lang/String", "<init>", "([C)V"⟩ : MethodName) (head1 (Jvm.Cond.code (⟨"java/lang/String", "<init>", "([C)V"⟩ : MethodName) jdk_42_method_3_code 2 none :: ws) RmI0) (fun as_ U => as_ = #[(.ref x), (.ref ca)] ∧ Z.Warmed39 U.vm ∧ U.heap = h0 ∧ (own_J Z h0) U.vm) (fun _ _ _ _ _ => True) (fun _ U o U' => ∃ v L, o = .returned v ∧ QI0 Z x ca kc h0 n0 v U'.heap L U'.vm ∧ ReturnedEndW U o U' L RmI0.cells RmI0.slots) := by
  refine MetFree.of_bodySF (plainFor_of_name pn_2) hisR ?_
  intro p e s m args below meth c s₁ Bd hml0 hP hK
  obtain ⟨rfl, hZ, hh, hJ0⟩ := hP
  have hx := Bd.exec
  have hby := Bd.bytes
  have D : ∀ {pc : Nat} {r : Except DecodeError (Instr × Nat)}, decode jdk_42_method_3_code pc = r → decode c.code pc = r := fun q => hb hby q
  have hml : c.maxLocals = 2 := hml0
  have hown : s.vm.findClass "java/lang/String" = some m.cls := findClass_of_methodNamed Bd.named
  have hnm := (name_of_methodNamed Bd.named Bd.method).1
  have X0 : Stand p l e RmI0 (s.setVm s.vm) m #[(.ref x), (.ref ca)] below meth c s₁ [] 0 0 := Stand.of_body Bd
  have e0 : s₁.heap = h0 := by rw [← hh, Bd.state]; rfl
  have N0 := Fr.nil n0
  obtain ⟨E0, hE0⟩ : ∃ z, z = s₁.setTop (entryFrame m #[(.ref x), (.ref ca)] 2) := ⟨_, rfl⟩
  rw [← hE0]
  have go0 : ∀ tgt, Steps p.tables e below (s₁.setTop (mkF m 0 #[(sr x), (sr ca)] [])) tgt → Steps p.tables e below E0 tgt := fun tgt kont => by rw [hE0]; exact castTop (ef_I0 m x ca) kont
  have hS0 : s.Since s.vm h0.size := (State.WarmedH.refl s).since _
  have hk0 : h0.size ≤ h0.size := Nat.le_refl _
  have hwS : ∀ a ∈ Bundle.stringAtoms, a.before a0 Z = true := fun d hd => hw d ((by decide +kernel : ∀ d ∈ Bundle.stringAtoms, d ∈ tables_1) d hd)
  have go1 : Go p e below E0 s₁ m 4 #[(sr x), (sr ca)] [(.ref ca), (.int 0), (.ref ca), (.ref x)] := fun tgt kont => go0 tgt (by
    refine XS.aloadN X0.here hx rfl (D d28_0) rfl rfl ?_; refine XS.aloadN X0.here hx rfl (D d28_1) rfl rfl ?_; refine XS.iconst X0.here hx rfl (D d28_2) ?_; refine XS.aloadN X0.here hx rfl (D d28_3) rfl rfl ?_; exact kont)
  obtain ⟨c2, Ar2, q2, S2, M2, -, -⟩ := id Ac
  have go3 : Go p e below E0 s₁ m 6 #[(sr x), (sr ca)] [.null, (.int 0), (.int 0), (.ref ca), (.ref x)] := fun tgt kont => go1 tgt (by
    refine X0.arraylength hx (by rw [e0]; exact Ar2.1) (State.isArrayOf_alike hZ.alike Ar2.2.1) (g := (mkF m 4 #[(sr x), (sr ca)] [(.ref ca), (.int 0), (.ref ca), (.ref x)])) rfl rfl (D d28_4) _ ?_; rw [len_of S2 M2]; refine XS.aconstNull X0.here hx rfl (D d28_5) ?_; exact kont)
  obtain ⟨_, _, ⟨T4, L4, k4, n4⟩, -, Xp4, hSp4, hgp4, ⟨Lc4, hQ4, l4, y4, z4⟩, st4⟩ := X0.specialBackS hx (y := (⟨"java/lang/String", "<init>", "([CIILjava/lang/Void;)V"⟩ : MethodName)) rfl hown (mvT hZ (wd hw 8 rfl)) (mvT hZ (wd hw 9 rfl)) (mvT hZ (wd hw 11 rfl)) (by decide) (own_backJ (W := 0) (rmV0 l Z a0 hw [] x ca h0 n0 Z0 Ex gx Fv Fc O0 hH hCW) hZ (wd hw 11 rfl) (wd hw 4 rfl) (by decide) (by decide)) (g := (mkF m 6 #[(sr x), (sr ca)] [.null, (.int 0), (.int 0), (.ref ca), (.ref x)])) rfl (by rw [hml]; rfl) (Steps.refl _) (a := x) (argsL := [(.ref ca), (.int (0 : Int32)), (.int (0 : Int32)), .null]) (rest := []) (lenOf pd_22 rfl) rfl (by show 2 * 0 + _ ≤ _; exact Nat.le_of_eq rfl) (D d28_6) (fun _ hwm => ⟨rfl, e0, (own_Jwarm hJ0 hwm), (by decide : 0 + 2 ≤ _), (by decide : 0 + 4 ≤ _)⟩)
  dsimp only [Pt.U, Pt.locs, Pt.cells, Pt.slots] at Xp4 hSp4 hgp4 l4 y4 z4 st4 hQ4
  subst l4 y4 z4
  obtain ⟨X4, hS4, hZ4, hown4⟩ := rebS hS0 (by rw [e0]; exact hk0) Xp4 hSp4 hgp4 hZ hown
  obtain ⟨rfl, N4q, K1, E1, C1, t1, kb1, V1, A1, J1⟩ := hQ4
  have N4 := Fr.app N0 N4q
  have z5 : n0 ≤ T4.heap.size := Nat.le_trans Z0 K1.1
  have K6 : Keep h0 T4.heap [x] := (Keep.refl h0 [x]).trans K1 (allS (Or.inl (List.mem_of_getElem? (i := 0) rfl)) all0)
  have go4 : Go p e below E0 T4 m 9 #[(sr x), (sr ca)] [] := fun tgt kont => go3 tgt (st4.trans kont)
  obtain ⟨fs, hr, hrun, hended, hW⟩ := X4.leaveW hS4 (Nat.le_refl _) (v := none) (fun _ => rfl)
  refine ⟨_, _, go4 _ ?_, hrun, hended, _, _, rfl, ?_, hW.1, hW.2.1, hW.2.2.1, hW.2.2.2.mono (by decide) (by decide)⟩
  · show Steps p.tables e below (T4.setTop (mkF m 9 #[(sr x), (sr ca)] [])) _
    exact X4.returnOut hx Bd.returns (D d28_9) hr
  · show QI0 Z x ca kc h0 n0 _ T4.heap _ T4.vm
    exact ⟨rfl, N4, K6, E1, C1, t1, kb1, V1, A1, own_Jwarm (s := s.setVm T4.vm) J1 X4.warmed⟩
theorem own_m4 (x : Int32) : (x &&& (3 : Int32)) = 0 ∨ (x &&& (3 : Int32)) = 1 ∨ (x &&& (3 : Int32)) = 2 ∨ (x &&& (3 : Int32)) = 3 := by
  have h := c_mask x (3 : Int32) 2 (by decide) (by decide)
  have e3 : ((2 ^ 2 : Nat) : Int) = 4 := by decide
  rw [e3] at h
  rcases (by omega : (x &&& (3 : Int32)).toInt = 0 ∨ (x &&& (3 : Int32)).toInt = 1 ∨ (x &&& (3 : Int32)).toInt = 2 ∨ (x &&& (3 : Int32)).toInt = 3) with q | q | q | q
  · exact Or.inl (Int32.toInt_inj.mp q)
  · exact Or.inr (Or.inl (Int32.toInt_inj.mp q))
  · exact Or.inr (Or.inr (Or.inl (Int32.toInt_inj.mp q)))
  · exact Or.inr (Or.inr (Or.inr (Int32.toInt_inj.mp q)))
theorem own_eqI {t : Term} {k : Int32} {args : Array Value} {first s : State} {o : Option Outcome} {idx : List Nat} (h : (Jvm.Cond.eq t (.int k)).value args first o s idx = some true) : t.eval args first o idx s = some (.int k) := by
  simp only [Jvm.Cond.value, Term.eval] at h
  cases ht : t.eval args first o idx s with
  | none => simp [ht] at h
  | some x => cases x <;> simp [ht] at h ⊢; exact h
theorem pd_25 : parseMethodDescriptor "([C)V" = some ⟨[(.array .char)], none⟩ := by decide +kernel
theorem pd_26 : parseMethodDescriptor "(Ljava/lang/String;)Z" = some ⟨[(.object "java/lang/String")], some .boolean⟩ := by decide +kernel
theorem ef_L (m : MethodId) (x0 : Int32) (x1 : Int32) (x2 : Int32) (x3 : Int32) : entryFrame m #[(.int x0), (.int x1), (.int x2), (.int x3)] maxLocals = mkF m 0 #[.val (.int x0), .val (.int x1), .val (.int x2), .val (.int x3), .unset, .unset, .unset, .unset, .unset, .unset, .unset] [] := by first | (simp [entryFrame, mkF, argsToLocals, Value.category, maxLocals]; done) | rfl
def QL (Z : State) (p0 : Int32) (p1 : Int32) (p2 : Int32) (p3 : Int32) (G : Int32) (fv : Value) (h0 : Heap) (n0 : Nat) (v : Option Value) (h : Heap) (L : List Loc) (vm : Vm) : Prop := v = some (.int 1) ∧ Fr n0 L
set_option maxRecDepth 65536 in
set_option maxHeartbeats 40000000 in
theorem rmL (l : Launch) (Z : State) (a0 : Array Value) (hw : ∀ d ∈ tables_1, d.before a0 Z = true) (ws : List Jvm.Cond) (p0 : Int32) (p1 : Int32) (p2 : Int32) (p3 : Int32) (G : Int32) (fv : Value) (h0 : Heap) (n0 : Nat) (Z0 : n0 ≤ h0.size) (W0 : own_W Z G fv) (O0 : Old Z n0 h0) (hH : Jvm.Lit.constHeld Z "java/lang/String" 7) (hH3 : Jvm.Lit.constHeld Z "com/example/ample_dispatch/ampledispatch/FieldValues" 30) (hCW : Jvm.Lit.compactW.before a0 Z = true) :
    MetFree l x (head1 (Jvm.Cond.code x code maxLocals ret :: ws) room_1) (fun as_ U => as_ = #[(.int p0), (.int p1), (.int p2), (.int p3)] ∧ Z.Warmed39 U.vm ∧ U.heap = h0 ∧ (own_I Z) U.vm) (fun _ _ _ _ _ => True) (fun _ U o U' => ∃ v L, o = .returned v ∧ QL Z p0 p1 p2 p3 G fv h0 n0 v U'.heap L U'.vm ∧ ReturnedEndW U o U' L 6 80) := by
  refine MetFree.of_bodySF (plainFor_of_name pn_11) hisR ?_
  intro p e s m args below meth c s₁ Bd hml0 hP hK
  obtain ⟨rfl, hZ, hh, hJ0⟩ := hP
  have hx := Bd.exec
  have hby := Bd.bytes
  have D : ∀ {pc : Nat} {r : Except DecodeError (Instr × Nat)}, decode code pc = r → decode c.code pc = r := fun q => hb hby q
  have hml : c.maxLocals = 11 := hml0
  have hown : s.vm.findClass "com/example/ample_dispatch/ampledispatch/FieldValuesIsTokenPinLaw" = some m.cls := findClass_of_methodNamed Bd.named
  have hnm := (name_of_methodNamed Bd.named Bd.method).1
  have X0 : Stand p l e room_1 (s.setVm s.vm) m #[(.int p0), (.int p1), (.int p2), (.int p3)] below meth c s₁ [] 0 0 := Stand.of_body Bd
  have e0 : s₁.heap = h0 := by rw [← hh, Bd.state]; rfl
  have N0 := Fr.nil n0
  obtain ⟨E0, hE0⟩ : ∃ z, z = s₁.setTop (entryFrame m #[(.int p0), (.int p1), (.int p2), (.int p3)] maxLocals) := ⟨_, rfl⟩
  rw [← hE0]
  have go0 : ∀ tgt, Steps p.tables e below (s₁.setTop (mkF m 0 #[(si p0), (si p1), (si p2), (si p3), .unset, .unset, .unset, .unset, .unset, .unset, .unset] [])) tgt → Steps p.tables e below E0 tgt := fun tgt kont => by rw [hE0]; exact castTop (ef_L m p0 p1 p2 p3) kont
  have hS0 : s.Since s.vm h0.size := (State.WarmedH.refl s).since _
  have hk0 : h0.size ≤ h0.size := Nat.le_refl _
  have hwS : ∀ a ∈ Bundle.stringAtoms, a.before a0 Z = true := fun d hd => hw d ((by decide +kernel : ∀ d ∈ Bundle.stringAtoms, d ∈ tables_1) d hd)
  obtain ⟨v4, hv4⟩ : ∃ z : Int32, z = (p0 &&& (3 : Int32)) := ⟨_, rfl⟩
  have go1 : Go p e below E0 s₁ m 26 #[(si p0), (si p1), (si p2), (si p3), (si v4), (si ((p1 &&& (65535 : Int32)).toUInt32.toUInt16.toUInt32.toInt32)), (si ((p2 &&& (65535 : Int32)).toUInt32.toUInt16.toUInt32.toInt32)), (si ((p3 &&& (65535 : Int32)).toUInt32.toUInt16.toUInt32.toInt32)), .unset, .unset, .unset] [] := fun tgt kont => go0 tgt (by
    rw [hv4] at kont
    refine XS.iloadN X0.here hx rfl (D at_0) rfl ?_; refine XS.iconst X0.here hx rfl (D at_1) ?_; refine XS.iand X0.here hx rfl (D at_2) rfl ?_; refine XS.istore X0.here hx rfl (D at_3) rfl (l' := #[(si p0), (si p1), (si p2), (si p3), (si (p0 &&& (3 : Int32))), .unset, .unset, .unset, .unset, .unset, .unset]) rfl ?_; refine XS.iloadN X0.here hx rfl (D at_5) rfl ?_; refine X0.ldcInt hx hown (mvT hZ (wd hw 0 rfl)) (g := (mkF m 6 #[(si p0), (si p1), (si p2), (si p3), (si (p0 &&& (3 : Int32))), .unset, .unset, .unset, .unset, .unset, .unset] [(.int p1)])) rfl (D at_6) _ ?_; refine XS.iand X0.here hx rfl (D at_8) rfl ?_; refine XS.i2c X0.here hx rfl (D at_9) rfl ?_; refine XS.istore X0.here hx rfl (D at_10) rfl (l' := #[(si p0), (si p1), (si p2), (si p3), (si (p0 &&& (3 : Int32))), (si ((p1 &&& (65535 : Int32)).toUInt32.toUInt16.toUInt32.toInt32)), .unset, .unset, .unset, .unset, .unset]) rfl ?_; refine XS.iloadN X0.here hx rfl (D at_12) rfl ?_; refine X0.ldcInt hx hown (mvT hZ (wd hw 0 rfl)) (g := (mkF m 13 #[(si p0), (si p1), (si p2), (si p3), (si (p0 &&& (3 : Int32))), (si ((p1 &&& (65535 : Int32)).toUInt32.toUInt16.toUInt32.toInt32)), .unset, .unset, .unset, .unset, .unset] [(.int p2)])) rfl (D at_13) _ ?_; refine XS.iand X0.here hx rfl (D at_15) rfl ?_; refine XS.i2c X0.here hx rfl (D at_16) rfl ?_; refine XS.istore X0.here hx rfl (D at_17) rfl (l' := #[(si p0), (si p1), (si p2), (si p3), (si (p0 &&& (3 : Int32))), (si ((p1 &&& (65535 : Int32)).toUInt32.toUInt16.toUInt32.toInt32)), (si ((p2 &&& (65535 : Int32)).toUInt32.toUInt16.toUInt32.toInt32)), .unset, .unset, .unset, .unset]) rfl ?_; refine XS.iloadN X0.here hx rfl (D at_19) rfl ?_; refine X0.ldcInt hx hown (mvT hZ (wd hw 0 rfl)) (g := (mkF m 20 #[(si p0), (si p1), (si p2), (si p3), (si (p0 &&& (3 : Int32))), (si ((p1 &&& (65535 : Int32)).toUInt32.toUInt16.toUInt32.toInt32)), (si ((p2 &&& (65535 : Int32)).toUInt32.toUInt16.toUInt32.toInt32)), .unset, .unset, .unset, .unset] [(.int p3)])) rfl (D at_20) _ ?_; refine XS.iand X0.here hx rfl (D at_22) rfl ?_; refine XS.i2c X0.here hx rfl (D at_23) rfl ?_; refine XS.istore X0.here hx rfl (D at_24) rfl (l' := #[(si p0), (si p1), (si p2), (si p3), (si (p0 &&& (3 : Int32))), (si ((p1 &&& (65535 : Int32)).toUInt32.toUInt16.toUInt32.toInt32)), (si ((p2 &&& (65535 : Int32)).toUInt32.toUInt16.toUInt32.toInt32)), (si ((p3 &&& (65535 : Int32)).toUInt32.toUInt16.toUInt32.toInt32)), .unset, .unset, .unset]) rfl ?_; exact kont)
  obtain ⟨v5, hv5⟩ : ∃ z : Int32, z = ((p1 &&& (65535 : Int32)).toUInt32.toUInt16.toUInt32.toInt32) := ⟨_, rfl⟩
  have go2 : Go p e below E0 s₁ m 26 #[(si p0), (si p1), (si p2), (si p3), (si v4), (si v5), (si ((p2 &&& (65535 : Int32)).toUInt32.toUInt16.toUInt32.toInt32)), (si ((p3 &&& (65535 : Int32)).toUInt32.toUInt16.toUInt32.toInt32)), .unset, .unset, .unset] [] := fun tgt kont => go1 tgt (by
    rw [hv5] at kont
    exact kont)
  obtain ⟨v6, hv6⟩ : ∃ z : Int32, z = ((p2 &&& (65535 : Int32)).toUInt32.toUInt16.toUInt32.toInt32) := ⟨_, rfl⟩
  have go3 : Go p e below E0 s₁ m 26 #[(si p0), (si p1), (si p2), (si p3), (si v4), (si v5), (si v6), (si ((p3 &&& (65535 : Int32)).toUInt32.toUInt16.toUInt32.toInt32)), .unset, .unset, .unset] [] := fun tgt kont => go2 tgt (by
    rw [hv6] at kont
    exact kont)
  obtain ⟨v7, hv7⟩ : ∃ z : Int32, z = ((p3 &&& (65535 : Int32)).toUInt32.toUInt16.toUInt32.toInt32) := ⟨_, rfl⟩
  have go4 : Go p e below E0 s₁ m 26 #[(si p0), (si p1), (si p2), (si p3), (si v4), (si v5), (si v6), (si v7), .unset, .unset, .unset] [] := fun tgt kont => go3 tgt (by
    rw [hv7] at kont
    exact kont)
  have n5 : nar .char v5 = v5 := by rw [hv5]; exact own_c16n _
  have k5 : own_ch (nar .char v5) := by rw [hv5]; exact own_c16 _
  have n6 : nar .char v6 = v6 := by rw [hv6]; exact own_c16n _
  have k6 : own_ch (nar .char v6) := by rw [hv6]; exact own_c16 _
  have n7 : nar .char v7 = v7 := by rw [hv7]; exact own_c16n _
  have k7 : own_ch (nar .char v7) := by rw [hv7]; exact own_c16 _
  have hm := own_m4 p0
  rw [← hv4] at hm
  rcases hm with rfl | rfl | rfl | rfl
  · have go5 : Go p e below E0 s₁ m 28 #[(si p0), (si p1), (si p2), (si p3), (si 0), (si v5), (si v6), (si v7), .unset, .unset, .unset] [(.int 0)] := fun tgt kont => go4 tgt (by
      refine XS.iload X0.here hx rfl (D at_26) rfl ?_; exact kont)
    obtain ⟨T6, h6, k6, X6, e6, E6, A6, st6⟩ := newP X0 hx hZ (wd hw 1 rfl) e0 (g := (mkF m 28 #[(si p0), (si p1), (si p2), (si p3), (si 0), (si v5), (si v6), (si v7), .unset, .unset, .unset] [(.int 0)])) rfl (D at_28) rfl (by decide) (cap := 0) (by decide) (by decide) (by decide) (by decide)
    obtain ⟨ca, g6⟩ : ∃ z, z = h0.size := ⟨_, rfl⟩
    rw [← g6] at A6 st6
    have ge_ca : n0 ≤ ca := Nat.le_trans Z0 (Nat.le_of_eq g6.symm)
    have hz_ca : h0.size ≤ ca := Nat.le_trans (Keep.refl h0 []).1 (Nat.le_of_eq g6.symm)
    have z7 : n0 ≤ h6.size := Nat.le_trans Z0 E6.1
    have K8 : Keep h0 h6 [] := (Keep.refl h0 []).ext E6
    have V6 : Arv Z h6 ca k6 .char (0 : Int32) [] (.int (0 : Int32)) := Arv.new A6 (by decide)
    have go6 : Go p e below E0 T6 m 30 #[(si p0), (si p1), (si p2), (si p3), (si 0), (si v5), (si v6), (si v7), .unset, .unset, .unset] [(.ref ca)] := fun tgt kont => go5 tgt (st6 tgt kont)
    have go9 : Go p e below E0 T6 m 68 #[(si p0), (si p1), (si p2), (si p3), (si 0), (si v5), (si v6), (si v7), (sr ca), .unset, .unset] [] := fun tgt kont => go6 tgt (by
      refine XS.astore X6.here hx rfl (D at_30) rfl rfl (l' := #[(si p0), (si p1), (si p2), (si p3), (si 0), (si v5), (si v6), (si v7), (sr ca), .unset, .unset]) rfl ?_; refine XS.iload X6.here hx rfl (D at_32) rfl ?_; refine XS.iconst X6.here hx rfl (D at_34) ?_; refine XS.icmpYes X6.here hx rfl (pc0 := 35) (pc' := 44) rfl (D at_35) rfl (tlt (by decide)).1 (by decide) (by decide) ?_; refine XS.iload X6.here hx rfl (D at_44) rfl ?_; refine XS.iconst X6.here hx rfl (D at_46) ?_; refine XS.icmpYes X6.here hx rfl (pc0 := 47) (pc' := 56) rfl (D at_47) rfl (tlt (by decide)).1 (by decide) (by decide) ?_; refine XS.iload X6.here hx rfl (D at_56) rfl ?_; refine XS.iconst X6.here hx rfl (D at_58) ?_; refine XS.icmpYes X6.here hx rfl (pc0 := 59) (pc' := 68) rfl (D at_59) rfl (tlt (by decide)).1 (by decide) (by decide) ?_; exact kont)
    obtain ⟨T10, h10, X10, e10, E10, A10, D10, -, st10⟩ := newO X6 hx hZ hown (wd hw 2 rfl) (wd hw 3 rfl) (wd hw 4 rfl) e6 (g := (mkF m 68 #[(si p0), (si p1), (si p2), (si p3), (si 0), (si v5), (si v6), (si v7), (sr ca), .unset, .unset] [])) rfl (D at_68) (by decide) (by decide)
    obtain ⟨st, g10⟩ : ∃ z, z = h6.size := ⟨_, rfl⟩
    rw [← g10] at A10 D10 st10
    have ne_ca_st : ca ≠ st := Nat.ne_of_lt (Nat.lt_of_lt_of_le V6.lt (Nat.le_of_eq g10.symm))
    have ge_st : n0 ≤ st := Nat.le_trans z7 (Nat.le_of_eq g10.symm)
    have hz_st : h0.size ≤ st := Nat.le_trans K8.1 (Nat.le_of_eq g10.symm)
    have z11 : n0 ≤ h10.size := Nat.le_trans z7 E10.1
    have K12 : Keep h0 h10 [] := K8.ext E10
    have Fvalue_st : Fld Z h10 st "java/lang/String" "value" "[B" .null := D10 (Or.inr (wd hw 17 rfl)) (ty := (.array .byte)) (by decide)
    have Fcoder_st : Fld Z h10 st "java/lang/String" "coder" "B" (.int (0 : Int32)) := D10 (Or.inr (wd hw 18 rfl)) (ty := .byte) (by decide)
    have go10 : Go p e below E0 T10 m 71 #[(si p0), (si p1), (si p2), (si p3), (si 0), (si v5), (si v6), (si v7), (sr ca), .unset, .unset] [(.ref st)] := fun tgt kont => go9 tgt (st10 tgt kont)
    have f13 : Old Z n0 h10 := ((O0.ext E6).ext E10)
    have f14 : Arv Z h10 ca k6 .char (0 : Int32) [] (.int (0 : Int32)) := (V6.ext E10)
    have go15 : Go p e below E0 T10 m 74 #[(si p0), (si p1), (si p2), (si p3), (si 0), (si v5), (si v6), (si v7), (sr ca), .unset, .unset] [(.ref ca), (.ref st), (.ref st)] := fun tgt kont => go10 tgt (by
      refine XS.dup X10.here hx rfl (D at_71) rfl rfl ?_; refine XS.aload X10.here hx rfl (D at_72) rfl rfl ?_; exact kont)
    obtain ⟨_, _, ⟨T16, L16, k16, n16⟩, -, Xp16, hSp16, hgp16, ⟨Lc16, hQ16, l16, y16, z16⟩, st16⟩ := X10.specialBackS hx (y := (⟨"java/lang/String", "<init>", "([C)V"⟩ : MethodName)) rfl hown (mvT hZ (wd hw 5 rfl)) (mvT hZ (wd hw 6 rfl)) (mvT hZ (wd hw 7 rfl)) (by decide) (own_backJ (W := 1) (rmI0 l Z a0 hw [] st ca k6 h10 n0 z11 A10 ge_st Fvalue_st Fcoder_st f13 hH hCW f14) hZ (wd hw 7 rfl) (wd hw 4 rfl) (by decide) (by decide)) (g := (mkF m 74 #[(si p0), (si p1), (si p2), (si p3), (si 0), (si v5), (si v6), (si v7), (sr ca), .unset, .unset] [(.ref ca), (.ref st), (.ref st)])) rfl (by rw [hml]; rfl) (Steps.refl _) (a := st) (argsL := [(.ref ca)]) (rest := [(.ref st)]) (lenOf pd_25 rfl) rfl (by show 2 * 0 + _ ≤ _; exact Nat.le_of_eq rfl) (D at_74) (fun _ hwm => ⟨rfl, e10, (Or.inl (own_Iwarm hJ0 hwm)), (by decide : 2 + 2 ≤ _), (by decide : 4 + 4 ≤ _)⟩)
    dsimp only [Pt.U, Pt.locs, Pt.cells, Pt.slots] at Xp16 hSp16 hgp16 l16 y16 z16 st16 hQ16
    subst l16 y16 z16
    obtain ⟨X16, hS16, hZ16, hown16⟩ := rebS hS0 (by rw [e10]; exact (Nat.le_trans hk0 (Nat.le_trans E6.1 E10.1))) Xp16 hSp16 hgp16 hZ hown
    obtain ⟨rfl, N16q, K1, E1, C1, t1, kb1, V1, A1, J1⟩ := hQ16
    have N16 := Fr.app N0 N16q
    have z17 : n0 ≤ T16.heap.size := Nat.le_trans z11 K1.1
    have K18 : Keep h0 T16.heap [] := K12.trans K1 (allS (Or.inr hz_st) all0)
    have go16 : Go p e below E0 T16 m 77 #[(si p0), (si p1), (si p2), (si p3), (si 0), (si v5), (si v6), (si v7), (sr ca), .unset, .unset] [(.ref st)] := fun tgt kont => go15 tgt (st16.trans kont)
    have S1 : own_S0 Z T16.heap st := ⟨t1, kb1, E1, V1, Or.inl ⟨C1, A1, trivial⟩⟩
    have f19 : Old Z n0 T16.heap := (f13.keep K1 (allS ge_st all0))
    have go20 : Go p e below E0 T16 m 135 #[(si p0), (si p1), (si p2), (si p3), (si 0), (si v5), (si v6), (si v7), (sr ca), (sr st), (si 0)] [(.ref st)] := fun tgt kont => go16 tgt (by
      refine XS.astore X16.here hx rfl (D at_77) rfl rfl (l' := #[(si p0), (si p1), (si p2), (si p3), (si 0), (si v5), (si v6), (si v7), (sr ca), (sr st), .unset]) rfl ?_; refine XS.iload X16.here hx rfl (D at_79) rfl ?_; refine XS.ifYes X16.here hx rfl (pc0 := 81) (pc' := 130) rfl (D at_81) rfl ((if0 _ _).trans (flt (by decide)).2.2.2) (by decide) (by decide) ?_; refine XS.iconst X16.here hx rfl (D at_130) ?_; refine XS.istore X16.here hx rfl (D at_131) rfl (l' := #[(si p0), (si p1), (si p2), (si p3), (si 0), (si v5), (si v6), (si v7), (sr ca), (sr st), (si 0)]) rfl ?_; refine XS.aload X16.here hx rfl (D at_133) rfl rfl ?_; exact kont)
    obtain ⟨_, _, ⟨T21, L21, k21, n21⟩, -, X21, ⟨Lc21, hQ21, l21, y21, z21⟩, st21⟩ := Jvm.LawKit.callS X16 hx (y := (⟨"com/example/ample_dispatch/ampledispatch/FieldValues", "isToken", "(Ljava/lang/String;)Z"⟩ : MethodName)) hown16 (mvT hZ16 (wd hw 23 rfl)) (mvT hZ16 (wd hw 24 rfl)) (mvT hZ16 (wd hw 25 rfl)) (mvT hZ16 (wd hw 26 rfl)) (by decide) (backOf (W := 0) (rmT0 l Z a0 hw [] st G fv T16.heap n0 z17 S1 W0 f19) hZ16 (wd hw 26 rfl) (wd hw 25 rfl) (by decide) (by decide)) (g := (mkF m 135 #[(si p0), (si p1), (si p2), (si p3), (si 0), (si v5), (si v6), (si v7), (sr ca), (sr st), (si 0)] [(.ref st)])) rfl (by rw [hml]; rfl) (argsL := [(.ref st)]) (rest := []) (lenOf pd_26 rfl) rfl (by show 2 * 0 + _ ≤ _; exact Nat.le_of_eq rfl) (D at_135) (fun _ _ => ⟨rfl, rfl, (by decide : 4 + 0 ≤ _), (by decide : 8 + 0 ≤ _)⟩)
    dsimp only [Pt.U, Pt.locs, Pt.cells, Pt.slots] at X21 l21 y21 z21 st21 hQ21
    subst l21 y21 z21
    obtain ⟨rfl, rfl, e21⟩ := hQ21
    have N21 := Fr.app N16 (Fr.nil n0)
    have go21 : Go p e below E0 T21 m 138 #[(si p0), (si p1), (si p2), (si p3), (si 0), (si v5), (si v6), (si v7), (sr ca), (sr st), (si 0)] [(.int 0)] := fun tgt kont => go20 tgt (st21 tgt kont)
    have go22 : Go p e below E0 T21 m 148 #[(si p0), (si p1), (si p2), (si p3), (si 0), (si v5), (si v6), (si v7), (sr ca), (sr st), (si 0)] [(.int 1)] := fun tgt kont => go21 tgt (by
      refine XS.iload X21.here hx rfl (D at_138) rfl ?_; refine XS.icmpNo X21.here hx rfl (D at_140) rfl (teq rfl).2 ?_; refine XS.iconst X21.here hx rfl (D at_143) ?_; refine XS.goto X21.here hx rfl (pc0 := 144) (pc' := 148) rfl (D at_144) (by decide) (by decide) ?_; exact kont)
    obtain ⟨fs, hr, hrun, hended, hW⟩ := X21.leaveW hS16 (by rw [e21]; exact (Nat.le_refl _)) (v := some (.int (1 : Int32))) (fun h => by rw [Bd.returns] at h; cases h)
    refine ⟨_, _, go22 _ ?_, hrun, hended, _, _, rfl, ?_, hW.1, hW.2.1, hW.2.2.1, hW.2.2.2.mono (by decide) (by decide)⟩
    · show Steps p.tables e below (T21.setTop (mkF m 148 #[(si p0), (si p1), (si p2), (si p3), (si 0), (si v5), (si v6), (si v7), (sr ca), (sr st), (si 0)] [(.int 1)])) _
      exact retN X21 hx (t := .boolean) Bd.returns (by simp) (D at_148) hr
    · show QL Z p0 p1 p2 p3 G fv h0 n0 _ T21.heap _ T21.vm
      rw [e21]
      exact ⟨rfl, N21⟩
  · have go23 : Go p e below E0 s₁ m 28 #[(si p0), (si p1), (si p2), (si p3), (si 1), (si v5), (si v6), (si v7), .unset, .unset, .unset] [(.int 1)] := fun tgt kont => go4 tgt (by
      refine XS.iload X0.here hx rfl (D at_26) rfl ?_; exact kont)
    obtain ⟨T24, h24, k24, X24, e24, E24, A24, st24⟩ := newP X0 hx hZ (wd hw 1 rfl) e0 (g := (mkF m 28 #[(si p0), (si p1), (si p2), (si p3), (si 1), (si v5), (si v6), (si v7), .unset, .unset, .unset] [(.int 1)])) rfl (D at_28) rfl (by decide) (cap := 1) (by decide) (by decide) (by decide) (by decide)
    obtain ⟨ca, g24⟩ : ∃ z, z = h0.size := ⟨_, rfl⟩
    rw [← g24] at A24 st24
    have ge_ca : n0 ≤ ca := Nat.le_trans Z0 (Nat.le_of_eq g24.symm)
    have hz_ca : h0.size ≤ ca := Nat.le_trans (Keep.refl h0 []).1 (Nat.le_of_eq g24.symm)
    have z25 : n0 ≤ h24.size := Nat.le_trans Z0 E24.1
    have K26 : Keep h0 h24 [] := (Keep.refl h0 []).ext E24
    have V24 : Arv Z h24 ca k24 .char (1 : Int32) [] (.int (0 : Int32)) := Arv.new A24 (by decide)
    have go24 : Go p e below E0 T24 m 30 #[(si p0), (si p1), (si p2), (si p3), (si 1), (si v5), (si v6), (si v7), .unset, .unset, .unset] [(.ref ca)] := fun tgt kont => go23 tgt (st24 tgt kont)
    have go27 : Go p e below E0 T24 m 43 #[(si p0), (si p1), (si p2), (si p3), (si 1), (si v5), (si v6), (si v7), (sr ca), .unset, .unset] [(.int v5), (.int 0), (.ref ca)] := fun tgt kont => go24 tgt (by
      refine XS.astore X24.here hx rfl (D at_30) rfl rfl (l' := #[(si p0), (si p1), (si p2), (si p3), (si 1), (si v5), (si v6), (si v7), (sr ca), .unset, .unset]) rfl ?_; refine XS.iload X24.here hx rfl (D at_32) rfl ?_; refine XS.iconst X24.here hx rfl (D at_34) ?_; refine XS.icmpNo X24.here hx rfl (D at_35) rfl (flt (by decide)).1 ?_; refine XS.aload X24.here hx rfl (D at_38) rfl rfl ?_; refine XS.iconst X24.here hx rfl (D at_40) ?_; refine XS.iload X24.here hx rfl (D at_41) rfl ?_; exact kont)
    have p28 : Arv Z h24 ca k24 .char (1 : Int32) [(.int (0 : Int32))] (.int (0 : Int32)) := V24.pad (pad_rep [] (.int (0 : Int32)) 1)
    obtain ⟨c29, Ar29, q29, S29, M29, Hh29, G29⟩ := id p28
    obtain ⟨T29, h29, X29, e29, W29, st29⟩ := stC X24 hx hZ e24 Ar29 (j := (0 : Int32)) (inb_of S29 ⟨by decide, by decide⟩) (g := (mkF m 43 #[(si p0), (si p1), (si p2), (si p3), (si 1), (si v5), (si v6), (si v7), (sr ca), .unset, .unset] [(.int v5), (.int 0), (.ref ca)])) rfl rfl (D at_43)
    have z30 : n0 ≤ h29.size := Nat.le_trans z25 (Keep.of_wr W29).1
    have K31 : Keep h0 h29 [] := K26.wr W29 (Or.inr hz_ca)
    have N29 := Fr.snoc X29 N0 ge_ca
    have f32 : Arv Z h29 ca k24 .char (1 : Int32) [(.int (nar .char v5))] (.int (0 : Int32)) := Arv.set Ar29 q29 S29 M29 Hh29 G29 (fits_nar_char _) W29 0 rfl (Nat.le_of_ble_eq_true rfl)
    have go29 : Go p e below E0 T29 m 44 #[(si p0), (si p1), (si p2), (si p3), (si 1), (si v5), (si v6), (si v7), (sr ca), .unset, .unset] [] := fun tgt kont => go27 tgt (st29 tgt kont)
    have go33 : Go p e below E0 T29 m 68 #[(si p0), (si p1), (si p2), (si p3), (si 1), (si v5), (si v6), (si v7), (sr ca), .unset, .unset] [] := fun tgt kont => go29 tgt (by
      refine XS.iload X29.here hx rfl (D at_44) rfl ?_; refine XS.iconst X29.here hx rfl (D at_46) ?_; refine XS.icmpYes X29.here hx rfl (pc0 := 47) (pc' := 56) rfl (D at_47) rfl (tlt (by decide)).1 (by decide) (by decide) ?_; refine XS.iload X29.here hx rfl (D at_56) rfl ?_; refine XS.iconst X29.here hx rfl (D at_58) ?_; refine XS.icmpYes X29.here hx rfl (pc0 := 59) (pc' := 68) rfl (D at_59) rfl (tlt (by decide)).1 (by decide) (by decide) ?_; exact kont)
    obtain ⟨T34, h34, X34, e34, E34, A34, D34, -, st34⟩ := newO X29 hx hZ hown (wd hw 2 rfl) (wd hw 3 rfl) (wd hw 4 rfl) e29 (g := (mkF m 68 #[(si p0), (si p1), (si p2), (si p3), (si 1), (si v5), (si v6), (si v7), (sr ca), .unset, .unset] [])) rfl (D at_68) (by decide) (by decide)
    obtain ⟨st, g34⟩ : ∃ z, z = h29.size := ⟨_, rfl⟩
    rw [← g34] at A34 D34 st34
    have ne_ca_st : ca ≠ st := Nat.ne_of_lt (Nat.lt_of_lt_of_le (Nat.lt_of_lt_of_le V24.lt (Keep.of_wr W29).1) (Nat.le_of_eq g34.symm))
    have ge_st : n0 ≤ st := Nat.le_trans z30 (Nat.le_of_eq g34.symm)
    have hz_st : h0.size ≤ st := Nat.le_trans K31.1 (Nat.le_of_eq g34.symm)
    have z35 : n0 ≤ h34.size := Nat.le_trans z30 E34.1
    have K36 : Keep h0 h34 [] := K31.ext E34
    have Fvalue_st : Fld Z h34 st "java/lang/String" "value" "[B" .null := D34 (Or.inr (wd hw 17 rfl)) (ty := (.array .byte)) (by decide)
    have Fcoder_st : Fld Z h34 st "java/lang/String" "coder" "B" (.int (0 : Int32)) := D34 (Or.inr (wd hw 18 rfl)) (ty := .byte) (by decide)
    have go34 : Go p e below E0 T34 m 71 #[(si p0), (si p1), (si p2), (si p3), (si 1), (si v5), (si v6), (si v7), (sr ca), .unset, .unset] [(.ref st)] := fun tgt kont => go33 tgt (st34 tgt kont)
    have f37 : Arv Z h34 ca k24 .char (1 : Int32) [(.int (nar .char v5))] (.int (0 : Int32)) := (f32.ext E34)
    have f38 : Old Z n0 h34 := (((O0.ext E24).wr W29 ge_ca).ext E34)
    have go39 : Go p e below E0 T34 m 74 #[(si p0), (si p1), (si p2), (si p3), (si 1), (si v5), (si v6), (si v7), (sr ca), .unset, .unset] [(.ref ca), (.ref st), (.ref st)] := fun tgt kont => go34 tgt (by
      refine XS.dup X34.here hx rfl (D at_71) rfl rfl ?_; refine XS.aload X34.here hx rfl (D at_72) rfl rfl ?_; exact kont)
    obtain ⟨_, _, ⟨T40, L40, k40, n40⟩, -, X40, ⟨Lc40, hQ40, l40, y40, z40⟩, st40⟩ := X34.specialBack hx (y := (⟨"java/lang/String", "<init>", "([C)V"⟩ : MethodName)) rfl hown (mvT hZ (wd hw 5 rfl)) (mvT hZ (wd hw 6 rfl)) (mvT hZ (wd hw 7 rfl)) (by decide) (backOf (W := 1) (rmN1 l Z a0 hw [] st ca k24 (nar .char v5) G fv h34 n0 z35 A34 ge_st Fvalue_st Fcoder_st f37 k5 W0 f38) hZ (wd hw 7 rfl) (wd hw 4 rfl) (by decide) (by decide)) (g := (mkF m 74 #[(si p0), (si p1), (si p2), (si p3), (si 1), (si v5), (si v6), (si v7), (sr ca), .unset, .unset] [(.ref ca), (.ref st), (.ref st)])) rfl (by rw [hml]; rfl) (Steps.refl _) (a := st) (argsL := [(.ref ca)]) (rest := [(.ref st)]) (lenOf pd_25 rfl) rfl (by show 2 * 0 + _ ≤ _; exact Nat.le_of_eq rfl) (D at_74) (fun _ _ => ⟨rfl, e34, (by decide : 2 + 2 ≤ _), (by decide : 5 + 3 ≤ _)⟩)
    dsimp only [Pt.U, Pt.locs, Pt.cells, Pt.slots] at X40 l40 y40 z40 st40 hQ40
    subst l40 y40 z40
    obtain ⟨rfl, N40q, K1, S1⟩ := hQ40
    have N40 := Fr.app N29 N40q
    have z41 : n0 ≤ T40.heap.size := Nat.le_trans z35 K1.1
    have K42 : Keep h0 T40.heap [] := K36.trans K1 (allS (Or.inr hz_st) all0)
    have go40 : Go p e below E0 T40 m 77 #[(si p0), (si p1), (si p2), (si p3), (si 1), (si v5), (si v6), (si v7), (sr ca), .unset, .unset] [(.ref st)] := fun tgt kont => go39 tgt (st40.trans kont)
    have go43 : Go p e below E0 T40 m 92 #[(si p0), (si p1), (si p2), (si p3), (si 1), (si v5), (si v6), (si v7), (sr ca), (sr st), .unset] [(.int v5)] := fun tgt kont => go40 tgt (by
      refine XS.astore X40.here hx rfl (D at_77) rfl rfl (l' := #[(si p0), (si p1), (si p2), (si p3), (si 1), (si v5), (si v6), (si v7), (sr ca), (sr st), .unset]) rfl ?_; refine XS.iload X40.here hx rfl (D at_79) rfl ?_; refine XS.ifNo X40.here hx rfl (D at_81) rfl ((if0 _ _).trans (tlt (by decide)).2.2.2) ?_; refine XS.iload X40.here hx rfl (D at_84) rfl ?_; refine XS.iconst X40.here hx rfl (D at_86) ?_; refine XS.icmpNo X40.here hx rfl (D at_87) rfl (flt (by decide)).1 ?_; refine XS.iload X40.here hx rfl (D at_90) rfl ?_; exact kont)
    obtain ⟨vv44, _, ⟨T44, L44, k44, n44⟩, -, X44, ⟨Lc44, hQ44, l44, y44, z44⟩, st44⟩ := Jvm.LawKit.callS X40 hx (y := (⟨"com/example/ample_dispatch/ampledispatch/FieldValuesIsTokenPinLaw", "tchar", "(I)Z"⟩ : MethodName)) hown (mvT hZ (wd hw 53 rfl)) (mvT hZ (wd hw 54 rfl)) (mvT hZ (wd hw 55 rfl)) (mvT hZ (wd hw 56 rfl)) (by decide) (backOf (W := 0) (rmTC l Z a0 hw [] v5 T40.heap n0 z41 ) hZ (wd hw 56 rfl) (wd hw 55 rfl) (by decide) (by decide)) (g := (mkF m 92 #[(si p0), (si p1), (si p2), (si p3), (si 1), (si v5), (si v6), (si v7), (sr ca), (sr st), .unset] [(.int v5)])) rfl (by rw [hml]; rfl) (argsL := [(.int v5)]) (rest := []) (lenOf pd_12 rfl) rfl (by show 2 * 0 + _ ≤ _; exact Nat.le_of_eq rfl) (D at_92) (fun _ _ => ⟨rfl, rfl, (by decide : 4 + 0 ≤ _), (by decide : 8 + 0 ≤ _)⟩)
    dsimp only [Pt.U, Pt.locs, Pt.cells, Pt.slots] at X44 l44 y44 z44 st44 hQ44
    subst l44 y44 z44
    obtain ⟨hv44, rfl, e44⟩ := hQ44
    have N44q : Fr n0 ([] : List Loc) := Fr.nil n0
    obtain ⟨rr0, rfl, hrr0⟩ : ∃ r : Int32, vv44 = some (.int r) ∧ ((r = 1 ∧ own_tc v5) ∨ (r = 0 ∧ ¬ (own_tc v5))) := by
      rcases hv44 with ⟨q, u⟩ | ⟨q, u⟩
      · exact ⟨1, q, Or.inl ⟨rfl, u⟩⟩
      · exact ⟨0, q, Or.inr ⟨rfl, u⟩⟩
    have N44 := Fr.app N40 N44q
    have go44 : Go p e below E0 T44 m 95 #[(si p0), (si p1), (si p2), (si p3), (si 1), (si v5), (si v6), (si v7), (sr ca), (sr st), .unset] [(.int rr0)] := fun tgt kont => go43 tgt (st44 tgt kont)
    rcases hrr0 with ⟨rfl, hx0⟩ | ⟨rfl, hx0⟩
    · have f45 : Old Z n0 T40.heap := (f38.keep K1 (allS ge_st all0))
      have go46 : Go p e below E0 T44 m 135 #[(si p0), (si p1), (si p2), (si p3), (si 1), (si v5), (si v6), (si v7), (sr ca), (sr st), (si 1)] [(.ref st)] := fun tgt kont => go44 tgt (by
        refine XS.ifNo X44.here hx rfl (D at_95) rfl ((if0 _ _).trans (feq (by decide)).1) ?_; refine XS.iload X44.here hx rfl (D at_98) rfl ?_; refine XS.iconst X44.here hx rfl (D at_100) ?_; refine XS.icmpYes X44.here hx rfl (pc0 := 101) (pc' := 112) rfl (D at_101) rfl (tlt (by decide)).1 (by decide) (by decide) ?_; refine XS.iload X44.here hx rfl (D at_112) rfl ?_; refine XS.iconst X44.here hx rfl (D at_114) ?_; refine XS.icmpYes X44.here hx rfl (pc0 := 115) (pc' := 126) rfl (D at_115) rfl (tlt (by decide)).1 (by decide) (by decide) ?_; refine XS.iconst X44.here hx rfl (D at_126) ?_; refine XS.goto X44.here hx rfl (pc0 := 127) (pc' := 131) rfl (D at_127) (by decide) (by decide) ?_; refine XS.istore X44.here hx rfl (D at_131) rfl (l' := #[(si p0), (si p1), (si p2), (si p3), (si 1), (si v5), (si v6), (si v7), (sr ca), (sr st), (si 1)]) rfl ?_; refine XS.aload X44.here hx rfl (D at_133) rfl rfl ?_; exact kont)
      obtain ⟨_, _, ⟨T47, L47, k47, n47⟩, -, Xp47, hSp47, hgp47, ⟨Lc47, hQ47, l47, y47, z47⟩, st47⟩ := callSS X44 hx (y := (⟨"com/example/ample_dispatch/ampledispatch/FieldValues", "isToken", "(Ljava/lang/String;)Z"⟩ : MethodName)) hown (mvT hZ (wd hw 23 rfl)) (mvT hZ (wd hw 24 rfl)) (mvT hZ (wd hw 25 rfl)) (mvT hZ (wd hw 26 rfl)) (by decide) (own_backJ (W := 0) (rmT1 l Z a0 hw [] st (nar .char v5) G fv T40.heap n0 z41 S1 k5 hH3 hCW W0 f45) hZ (wd hw 26 rfl) (wd hw 25 rfl) (by decide) (by decide)) (g := (mkF m 135 #[(si p0), (si p1), (si p2), (si p3), (si 1), (si v5), (si v6), (si v7), (sr ca), (sr st), (si 1)] [(.ref st)])) rfl (by rw [hml]; rfl) (argsL := [(.ref st)]) (rest := []) (lenOf pd_26 rfl) rfl (by show 2 * 0 + _ ≤ _; exact Nat.le_of_eq rfl) (D at_135) (fun _ hwm => ⟨rfl, e44, (own_Iwarm hJ0 hwm), (by decide : 4 + 2 ≤ _), (by decide : 8 + 64 ≤ _)⟩)
      dsimp only [Pt.U, Pt.locs, Pt.cells, Pt.slots] at Xp47 hSp47 hgp47 l47 y47 z47 st47 hQ47
      subst l47 y47 z47
      obtain ⟨X47, hS47, hZ47, hown47⟩ := rebS hS0 (by rw [e44]; exact (Nat.le_trans hk0 (Nat.le_trans (Nat.le_trans (Nat.le_trans E24.1 (Keep.of_wr W29).1) E34.1) K1.1))) Xp47 hSp47 hgp47 hZ hown
      obtain ⟨r, rfl, N47q, K2, hr⟩ := hQ47
      have N47 := Fr.app N44 N47q
      have z48 : n0 ≤ T47.heap.size := Nat.le_trans z41 K2.1
      have K49 : Keep h0 T47.heap [] := K42.trans K2 all0
      have go47 : Go p e below E0 T47 m 138 #[(si p0), (si p1), (si p2), (si p3), (si 1), (si v5), (si v6), (si v7), (sr ca), (sr st), (si 1)] [(.int r)] := fun tgt kont => go46 tgt (st47.trans kont)
      rw [n5] at hr
      have hre : r = (1 : Int32) := by
        rcases hr with ⟨q, u⟩ | ⟨q, u⟩
        · exact q
        · exact absurd hx0 u
      have go50 : Go p e below E0 T47 m 148 #[(si p0), (si p1), (si p2), (si p3), (si 1), (si v5), (si v6), (si v7), (sr ca), (sr st), (si 1)] [(.int 1)] := fun tgt kont => go47 tgt (by
        refine XS.iload X47.here hx rfl (D at_138) rfl ?_; refine XS.icmpNo X47.here hx rfl (D at_140) rfl (teq hre).2 ?_; refine XS.iconst X47.here hx rfl (D at_143) ?_; refine XS.goto X47.here hx rfl (pc0 := 144) (pc' := 148) rfl (D at_144) (by decide) (by decide) ?_; exact kont)
      obtain ⟨fs, hr, hrun, hended, hW⟩ := X47.leaveW hS47 (Nat.le_refl _) (v := some (.int (1 : Int32))) (fun h => by rw [Bd.returns] at h; cases h)
      refine ⟨_, _, go50 _ ?_, hrun, hended, _, _, rfl, ?_, hW.1, hW.2.1, hW.2.2.1, hW.2.2.2.mono (by decide) (by decide)⟩
      · show Steps p.tables e below (T47.setTop (mkF m 148 #[(si p0), (si p1), (si p2), (si p3), (si 1), (si v5), (si v6), (si v7), (sr ca), (sr st), (si 1)] [(.int 1)])) _
        exact retN X47 hx (t := .boolean) Bd.returns (by simp) (D at_148) hr
      · show QL Z p0 p1 p2 p3 G fv h0 n0 _ T47.heap _ T47.vm
        exact ⟨rfl, N47⟩
    · have f51 : Old Z n0 T40.heap := (f38.keep K1 (allS ge_st all0))
      have go52 : Go p e below E0 T44 m 135 #[(si p0), (si p1), (si p2), (si p3), (si 1), (si v5), (si v6), (si v7), (sr ca), (sr st), (si 0)] [(.ref st)] := fun tgt kont => go44 tgt (by
        refine XS.ifYes X44.here hx rfl (pc0 := 95) (pc' := 130) rfl (D at_95) rfl ((if0 _ _).trans (teq rfl).1) (by decide) (by decide) ?_; refine XS.iconst X44.here hx rfl (D at_130) ?_; refine XS.istore X44.here hx rfl (D at_131) rfl (l' := #[(si p0), (si p1), (si p2), (si p3), (si 1), (si v5), (si v6), (si v7), (sr ca), (sr st), (si 0)]) rfl ?_; refine XS.aload X44.here hx rfl (D at_133) rfl rfl ?_; exact kont)
      obtain ⟨_, _, ⟨T53, L53, k53, n53⟩, -, Xp53, hSp53, hgp53, ⟨Lc53, hQ53, l53, y53, z53⟩, st53⟩ := callSS X44 hx (y := (⟨"com/example/ample_dispatch/ampledispatch/FieldValues", "isToken", "(Ljava/lang/String;)Z"⟩ : MethodName)) hown (mvT hZ (wd hw 23 rfl)) (mvT hZ (wd hw 24 rfl)) (mvT hZ (wd hw 25 rfl)) (mvT hZ (wd hw 26 rfl)) (by decide) (own_backJ (W := 0) (rmT1 l Z a0 hw [] st (nar .char v5) G fv T40.heap n0 z41 S1 k5 hH3 hCW W0 f51) hZ (wd hw 26 rfl) (wd hw 25 rfl) (by decide) (by decide)) (g := (mkF m 135 #[(si p0), (si p1), (si p2), (si p3), (si 1), (si v5), (si v6), (si v7), (sr ca), (sr st), (si 0)] [(.ref st)])) rfl (by rw [hml]; rfl) (argsL := [(.ref st)]) (rest := []) (lenOf pd_26 rfl) rfl (by show 2 * 0 + _ ≤ _; exact Nat.le_of_eq rfl) (D at_135) (fun _ hwm => ⟨rfl, e44, (own_Iwarm hJ0 hwm), (by decide : 4 + 2 ≤ _), (by decide : 8 + 64 ≤ _)⟩)
      dsimp only [Pt.U, Pt.locs, Pt.cells, Pt.slots] at Xp53 hSp53 hgp53 l53 y53 z53 st53 hQ53
      subst l53 y53 z53
      obtain ⟨X53, hS53, hZ53, hown53⟩ := rebS hS0 (by rw [e44]; exact (Nat.le_trans hk0 (Nat.le_trans (Nat.le_trans (Nat.le_trans E24.1 (Keep.of_wr W29).1) E34.1) K1.1))) Xp53 hSp53 hgp53 hZ hown
      obtain ⟨r, rfl, N53q, K2, hr⟩ := hQ53
      have N53 := Fr.app N44 N53q
      have z54 : n0 ≤ T53.heap.size := Nat.le_trans z41 K2.1
      have K55 : Keep h0 T53.heap [] := K42.trans K2 all0
      have go53 : Go p e below E0 T53 m 138 #[(si p0), (si p1), (si p2), (si p3), (si 1), (si v5), (si v6), (si v7), (sr ca), (sr st), (si 0)] [(.int r)] := fun tgt kont => go52 tgt (st53.trans kont)
      rw [n5] at hr
      have hre : r = (0 : Int32) := by
        rcases hr with ⟨q, u⟩ | ⟨q, u⟩
        · exact absurd u hx0
        · exact q
      have go56 : Go p e below E0 T53 m 148 #[(si p0), (si p1), (si p2), (si p3), (si 1), (si v5), (si v6), (si v7), (sr ca), (sr st), (si 0)] [(.int 1)] := fun tgt kont => go53 tgt (by
        refine XS.iload X53.here hx rfl (D at_138) rfl ?_; refine XS.icmpNo X53.here hx rfl (D at_140) rfl (teq hre).2 ?_; refine XS.iconst X53.here hx rfl (D at_143) ?_; refine XS.goto X53.here hx rfl (pc0 := 144) (pc' := 148) rfl (D at_144) (by decide) (by decide) ?_; exact kont)
      obtain ⟨fs, hr, hrun, hended, hW⟩ := X53.leaveW hS53 (Nat.le_refl _) (v := some (.int (1 : Int32))) (fun h => by rw [Bd.returns] at h; cases h)
      refine ⟨_, _, go56 _ ?_, hrun, hended, _, _, rfl, ?_, hW.1, hW.2.1, hW.2.2.1, hW.2.2.2.mono (by decide) (by decide)⟩
      · show Steps p.tables e below (T53.setTop (mkF m 148 #[(si p0), (si p1), (si p2), (si p3), (si 1), (si v5), (si v6), (si v7), (sr ca), (sr st), (si 0)] [(.int 1)])) _
        exact retN X53 hx (t := .boolean) Bd.returns (by simp) (D at_148) hr
      · show QL Z p0 p1 p2 p3 G fv h0 n0 _ T53.heap _ T53.vm
        exact ⟨rfl, N53⟩
  · have go57 : Go p e below E0 s₁ m 28 #[(si p0), (si p1), (si p2), (si p3), (si 2), (si v5), (si v6), (si v7), .unset, .unset, .unset] [(.int 2)] := fun tgt kont => go4 tgt (by
      refine XS.iload X0.here hx rfl (D at_26) rfl ?_; exact kont)
    obtain ⟨T58, h58, k58, X58, e58, E58, A58, st58⟩ := newP X0 hx hZ (wd hw 1 rfl) e0 (g := (mkF m 28 #[(si p0), (si p1), (si p2), (si p3), (si 2), (si v5), (si v6), (si v7), .unset, .unset, .unset] [(.int 2)])) rfl (D at_28) rfl (by decide) (cap := 2) (by decide) (by decide) (by decide) (by decide)
    obtain ⟨ca, g58⟩ : ∃ z, z = h0.size := ⟨_, rfl⟩
    rw [← g58] at A58 st58
    have ge_ca : n0 ≤ ca := Nat.le_trans Z0 (Nat.le_of_eq g58.symm)
    have hz_ca : h0.size ≤ ca := Nat.le_trans (Keep.refl h0 []).1 (Nat.le_of_eq g58.symm)
    have z59 : n0 ≤ h58.size := Nat.le_trans Z0 E58.1
    have K60 : Keep h0 h58 [] := (Keep.refl h0 []).ext E58
    have V58 : Arv Z h58 ca k58 .char (2 : Int32) [] (.int (0 : Int32)) := Arv.new A58 (by decide)
    have go58 : Go p e below E0 T58 m 30 #[(si p0), (si p1), (si p2), (si p3), (si 2), (si v5), (si v6), (si v7), .unset, .unset, .unset] [(.ref ca)] := fun tgt kont => go57 tgt (st58 tgt kont)
    have go61 : Go p e below E0 T58 m 43 #[(si p0), (si p1), (si p2), (si p3), (si 2), (si v5), (si v6), (si v7), (sr ca), .unset, .unset] [(.int v5), (.int 0), (.ref ca)] := fun tgt kont => go58 tgt (by
      refine XS.astore X58.here hx rfl (D at_30) rfl rfl (l' := #[(si p0), (si p1), (si p2), (si p3), (si 2), (si v5), (si v6), (si v7), (sr ca), .unset, .unset]) rfl ?_; refine XS.iload X58.here hx rfl (D at_32) rfl ?_; refine XS.iconst X58.here hx rfl (D at_34) ?_; refine XS.icmpNo X58.here hx rfl (D at_35) rfl (flt (by decide)).1 ?_; refine XS.aload X58.here hx rfl (D at_38) rfl rfl ?_; refine XS.iconst X58.here hx rfl (D at_40) ?_; refine XS.iload X58.here hx rfl (D at_41) rfl ?_; exact kont)
    have p62 : Arv Z h58 ca k58 .char (2 : Int32) [(.int (0 : Int32))] (.int (0 : Int32)) := V58.pad (pad_rep [] (.int (0 : Int32)) 1)
    obtain ⟨c63, Ar63, q63, S63, M63, Hh63, G63⟩ := id p62
    obtain ⟨T63, h63, X63, e63, W63, st63⟩ := stC X58 hx hZ e58 Ar63 (j := (0 : Int32)) (inb_of S63 ⟨by decide, by decide⟩) (g := (mkF m 43 #[(si p0), (si p1), (si p2), (si p3), (si 2), (si v5), (si v6), (si v7), (sr ca), .unset, .unset] [(.int v5), (.int 0), (.ref ca)])) rfl rfl (D at_43)
    have z64 : n0 ≤ h63.size := Nat.le_trans z59 (Keep.of_wr W63).1
    have K65 : Keep h0 h63 [] := K60.wr W63 (Or.inr hz_ca)
    have N63 := Fr.snoc X63 N0 ge_ca
    have f66 : Arv Z h63 ca k58 .char (2 : Int32) [(.int (nar .char v5))] (.int (0 : Int32)) := Arv.set Ar63 q63 S63 M63 Hh63 G63 (fits_nar_char _) W63 0 rfl (Nat.le_of_ble_eq_true rfl)
    have go63 : Go p e below E0 T63 m 44 #[(si p0), (si p1), (si p2), (si p3), (si 2), (si v5), (si v6), (si v7), (sr ca), .unset, .unset] [] := fun tgt kont => go61 tgt (st63 tgt kont)
    have go67 : Go p e below E0 T63 m 55 #[(si p0), (si p1), (si p2), (si p3), (si 2), (si v5), (si v6), (si v7), (sr ca), .unset, .unset] [(.int v6), (.int 1), (.ref ca)] := fun tgt kont => go63 tgt (by
      refine XS.iload X63.here hx rfl (D at_44) rfl ?_; refine XS.iconst X63.here hx rfl (D at_46) ?_; refine XS.icmpNo X63.here hx rfl (D at_47) rfl (flt (by decide)).1 ?_; refine XS.aload X63.here hx rfl (D at_50) rfl rfl ?_; refine XS.iconst X63.here hx rfl (D at_52) ?_; refine XS.iload X63.here hx rfl (D at_53) rfl ?_; exact kont)
    have p68 : Arv Z h63 ca k58 .char (2 : Int32) [(.int (nar .char v5)), (.int (0 : Int32))] (.int (0 : Int32)) := f66.pad (pad_rep [(.int (nar .char v5))] (.int (0 : Int32)) 1)
    obtain ⟨c69, Ar69, q69, S69, M69, Hh69, G69⟩ := id p68
    obtain ⟨T69, h69, X69, e69, W69, st69⟩ := stC X63 hx hZ e63 Ar69 (j := (1 : Int32)) (inb_of S69 ⟨by decide, by decide⟩) (g := (mkF m 55 #[(si p0), (si p1), (si p2), (si p3), (si 2), (si v5), (si v6), (si v7), (sr ca), .unset, .unset] [(.int v6), (.int 1), (.ref ca)])) rfl rfl (D at_55)
    have z70 : n0 ≤ h69.size := Nat.le_trans z64 (Keep.of_wr W69).1
    have K71 : Keep h0 h69 [] := K65.wr W69 (Or.inr hz_ca)
    have N69 := Fr.snoc X69 N63 ge_ca
    have f72 : Arv Z h69 ca k58 .char (2 : Int32) [(.int (nar .char v5)), (.int (nar .char v6))] (.int (0 : Int32)) := Arv.set Ar69 q69 S69 M69 Hh69 G69 (fits_nar_char _) W69 1 rfl (Nat.le_of_ble_eq_true rfl)
    have go69 : Go p e below E0 T69 m 56 #[(si p0), (si p1), (si p2), (si p3), (si 2), (si v5), (si v6), (si v7), (sr ca), .unset, .unset] [] := fun tgt kont => go67 tgt (st69 tgt kont)
    have go73 : Go p e below E0 T69 m 68 #[(si p0), (si p1), (si p2), (si p3), (si 2), (si v5), (si v6), (si v7), (sr ca), .unset, .unset] [] := fun tgt kont => go69 tgt (by
      refine XS.iload X69.here hx rfl (D at_56) rfl ?_; refine XS.iconst X69.here hx rfl (D at_58) ?_; refine XS.icmpYes X69.here hx rfl (pc0 := 59) (pc' := 68) rfl (D at_59) rfl (tlt (by decide)).1 (by decide) (by decide) ?_; exact kont)
    obtain ⟨T74, h74, X74, e74, E74, A74, D74, -, st74⟩ := newO X69 hx hZ hown (wd hw 2 rfl) (wd hw 3 rfl) (wd hw 4 rfl) e69 (g := (mkF m 68 #[(si p0), (si p1), (si p2), (si p3), (si 2), (si v5), (si v6), (si v7), (sr ca), .unset, .unset] [])) rfl (D at_68) (by decide) (by decide)
    obtain ⟨st, g74⟩ : ∃ z, z = h69.size := ⟨_, rfl⟩
    rw [← g74] at A74 D74 st74
    have ne_ca_st : ca ≠ st := Nat.ne_of_lt (Nat.lt_of_lt_of_le (Nat.lt_of_lt_of_le V58.lt (Nat.le_trans (Keep.of_wr W63).1 (Keep.of_wr W69).1)) (Nat.le_of_eq g74.symm))
    have ge_st : n0 ≤ st := Nat.le_trans z70 (Nat.le_of_eq g74.symm)
    have hz_st : h0.size ≤ st := Nat.le_trans K71.1 (Nat.le_of_eq g74.symm)
    have z75 : n0 ≤ h74.size := Nat.le_trans z70 E74.1
    have K76 : Keep h0 h74 [] := K71.ext E74
    have Fvalue_st : Fld Z h74 st "java/lang/String" "value" "[B" .null := D74 (Or.inr (wd hw 17 rfl)) (ty := (.array .byte)) (by decide)
    have Fcoder_st : Fld Z h74 st "java/lang/String" "coder" "B" (.int (0 : Int32)) := D74 (Or.inr (wd hw 18 rfl)) (ty := .byte) (by decide)
    have go74 : Go p e below E0 T74 m 71 #[(si p0), (si p1), (si p2), (si p3), (si 2), (si v5), (si v6), (si v7), (sr ca), .unset, .unset] [(.ref st)] := fun tgt kont => go73 tgt (st74 tgt kont)
    have f77 : Arv Z h74 ca k58 .char (2 : Int32) [(.int (nar .char v5)), (.int (nar .char v6))] (.int (0 : Int32)) := (f72.ext E74)
    have f78 : Old Z n0 h74 := ((((O0.ext E58).wr W63 ge_ca).wr W69 ge_ca).ext E74)
    have go79 : Go p e below E0 T74 m 74 #[(si p0), (si p1), (si p2), (si p3), (si 2), (si v5), (si v6), (si v7), (sr ca), .unset, .unset] [(.ref ca), (.ref st), (.ref st)] := fun tgt kont => go74 tgt (by
      refine XS.dup X74.here hx rfl (D at_71) rfl rfl ?_; refine XS.aload X74.here hx rfl (D at_72) rfl rfl ?_; exact kont)
    obtain ⟨_, _, ⟨T80, L80, k80, n80⟩, -, X80, ⟨Lc80, hQ80, l80, y80, z80⟩, st80⟩ := X74.specialBack hx (y := (⟨"java/lang/String", "<init>", "([C)V"⟩ : MethodName)) rfl hown (mvT hZ (wd hw 5 rfl)) (mvT hZ (wd hw 6 rfl)) (mvT hZ (wd hw 7 rfl)) (by decide) (backOf (W := 1) (rmN2 l Z a0 hw [] st ca k58 (nar .char v5) (nar .char v6) G fv h74 n0 z75 A74 ge_st Fvalue_st Fcoder_st f77 k5 k6 W0 f78) hZ (wd hw 7 rfl) (wd hw 4 rfl) (by decide) (by decide)) (g := (mkF m 74 #[(si p0), (si p1), (si p2), (si p3), (si 2), (si v5), (si v6), (si v7), (sr ca), .unset, .unset] [(.ref ca), (.ref st), (.ref st)])) rfl (by rw [hml]; rfl) (Steps.refl _) (a := st) (argsL := [(.ref ca)]) (rest := [(.ref st)]) (lenOf pd_25 rfl) rfl (by show 2 * 0 + _ ≤ _; exact Nat.le_of_eq rfl) (D at_74) (fun _ _ => ⟨rfl, e74, (by decide : 2 + 2 ≤ _), (by decide : 6 + 6 ≤ _)⟩)
    dsimp only [Pt.U, Pt.locs, Pt.cells, Pt.slots] at X80 l80 y80 z80 st80 hQ80
    subst l80 y80 z80
    obtain ⟨rfl, N80q, K1, S1⟩ := hQ80
    have N80 := Fr.app N69 N80q
    have z81 : n0 ≤ T80.heap.size := Nat.le_trans z75 K1.1
    have K82 : Keep h0 T80.heap [] := K76.trans K1 (allS (Or.inr hz_st) all0)
    have go80 : Go p e below E0 T80 m 77 #[(si p0), (si p1), (si p2), (si p3), (si 2), (si v5), (si v6), (si v7), (sr ca), .unset, .unset] [(.ref st)] := fun tgt kont => go79 tgt (st80.trans kont)
    have go83 : Go p e below E0 T80 m 92 #[(si p0), (si p1), (si p2), (si p3), (si 2), (si v5), (si v6), (si v7), (sr ca), (sr st), .unset] [(.int v5)] := fun tgt kont => go80 tgt (by
      refine XS.astore X80.here hx rfl (D at_77) rfl rfl (l' := #[(si p0), (si p1), (si p2), (si p3), (si 2), (si v5), (si v6), (si v7), (sr ca), (sr st), .unset]) rfl ?_; refine XS.iload X80.here hx rfl (D at_79) rfl ?_; refine XS.ifNo X80.here hx rfl (D at_81) rfl ((if0 _ _).trans (tlt (by decide)).2.2.2) ?_; refine XS.iload X80.here hx rfl (D at_84) rfl ?_; refine XS.iconst X80.here hx rfl (D at_86) ?_; refine XS.icmpNo X80.here hx rfl (D at_87) rfl (flt (by decide)).1 ?_; refine XS.iload X80.here hx rfl (D at_90) rfl ?_; exact kont)
    obtain ⟨vv84, _, ⟨T84, L84, k84, n84⟩, -, X84, ⟨Lc84, hQ84, l84, y84, z84⟩, st84⟩ := Jvm.LawKit.callS X80 hx (y := (⟨"com/example/ample_dispatch/ampledispatch/FieldValuesIsTokenPinLaw", "tchar", "(I)Z"⟩ : MethodName)) hown (mvT hZ (wd hw 53 rfl)) (mvT hZ (wd hw 54 rfl)) (mvT hZ (wd hw 55 rfl)) (mvT hZ (wd hw 56 rfl)) (by decide) (backOf (W := 0) (rmTC l Z a0 hw [] v5 T80.heap n0 z81 ) hZ (wd hw 56 rfl) (wd hw 55 rfl) (by decide) (by decide)) (g := (mkF m 92 #[(si p0), (si p1), (si p2), (si p3), (si 2), (si v5), (si v6), (si v7), (sr ca), (sr st), .unset] [(.int v5)])) rfl (by rw [hml]; rfl) (argsL := [(.int v5)]) (rest := []) (lenOf pd_12 rfl) rfl (by show 2 * 0 + _ ≤ _; exact Nat.le_of_eq rfl) (D at_92) (fun _ _ => ⟨rfl, rfl, (by decide : 4 + 0 ≤ _), (by decide : 12 + 0 ≤ _)⟩)
    dsimp only [Pt.U, Pt.locs, Pt.cells, Pt.slots] at X84 l84 y84 z84 st84 hQ84
    subst l84 y84 z84
    obtain ⟨hv84, rfl, e84⟩ := hQ84
    have N84q : Fr n0 ([] : List Loc) := Fr.nil n0
    obtain ⟨rr0, rfl, hrr0⟩ : ∃ r : Int32, vv84 = some (.int r) ∧ ((r = 1 ∧ own_tc v5) ∨ (r = 0 ∧ ¬ (own_tc v5))) := by
      rcases hv84 with ⟨q, u⟩ | ⟨q, u⟩
      · exact ⟨1, q, Or.inl ⟨rfl, u⟩⟩
      · exact ⟨0, q, Or.inr ⟨rfl, u⟩⟩
    have N84 := Fr.app N80 N84q
    have go84 : Go p e below E0 T84 m 95 #[(si p0), (si p1), (si p2), (si p3), (si 2), (si v5), (si v6), (si v7), (sr ca), (sr st), .unset] [(.int rr0)] := fun tgt kont => go83 tgt (st84 tgt kont)
    rcases hrr0 with ⟨rfl, hx0⟩ | ⟨rfl, hx0⟩
    · have go85 : Go p e below E0 T84 m 106 #[(si p0), (si p1), (si p2), (si p3), (si 2), (si v5), (si v6), (si v7), (sr ca), (sr st), .unset] [(.int v6)] := fun tgt kont => go84 tgt (by
        refine XS.ifNo X84.here hx rfl (D at_95) rfl ((if0 _ _).trans (feq (by decide)).1) ?_; refine XS.iload X84.here hx rfl (D at_98) rfl ?_; refine XS.iconst X84.here hx rfl (D at_100) ?_; refine XS.icmpNo X84.here hx rfl (D at_101) rfl (flt (by decide)).1 ?_; refine XS.iload X84.here hx rfl (D at_104) rfl ?_; exact kont)
      obtain ⟨vv86, _, ⟨T86, L86, k86, n86⟩, -, X86, ⟨Lc86, hQ86, l86, y86, z86⟩, st86⟩ := Jvm.LawKit.callS X84 hx (y := (⟨"com/example/ample_dispatch/ampledispatch/FieldValuesIsTokenPinLaw", "tchar", "(I)Z"⟩ : MethodName)) hown (mvT hZ (wd hw 53 rfl)) (mvT hZ (wd hw 54 rfl)) (mvT hZ (wd hw 55 rfl)) (mvT hZ (wd hw 56 rfl)) (by decide) (backOf (W := 0) (rmTC l Z a0 hw [] v6 T80.heap n0 z81 ) hZ (wd hw 56 rfl) (wd hw 55 rfl) (by decide) (by decide)) (g := (mkF m 106 #[(si p0), (si p1), (si p2), (si p3), (si 2), (si v5), (si v6), (si v7), (sr ca), (sr st), .unset] [(.int v6)])) rfl (by rw [hml]; rfl) (argsL := [(.int v6)]) (rest := []) (lenOf pd_12 rfl) rfl (by show 2 * 0 + _ ≤ _; exact Nat.le_of_eq rfl) (D at_106) (fun _ _ => ⟨rfl, e84, (by decide : 4 + 0 ≤ _), (by decide : 12 + 0 ≤ _)⟩)
      dsimp only [Pt.U, Pt.locs, Pt.cells, Pt.slots] at X86 l86 y86 z86 st86 hQ86
      subst l86 y86 z86
      obtain ⟨hv86, rfl, e86⟩ := hQ86
      have N86q : Fr n0 ([] : List Loc) := Fr.nil n0
      obtain ⟨rr1, rfl, hrr1⟩ : ∃ r : Int32, vv86 = some (.int r) ∧ ((r = 1 ∧ own_tc v6) ∨ (r = 0 ∧ ¬ (own_tc v6))) := by
        rcases hv86 with ⟨q, u⟩ | ⟨q, u⟩
        · exact ⟨1, q, Or.inl ⟨rfl, u⟩⟩
        · exact ⟨0, q, Or.inr ⟨rfl, u⟩⟩
      have N86 := Fr.app N84 N86q
      have go86 : Go p e below E0 T86 m 109 #[(si p0), (si p1), (si p2), (si p3), (si 2), (si v5), (si v6), (si v7), (sr ca), (sr st), .unset] [(.int rr1)] := fun tgt kont => go85 tgt (st86 tgt kont)
      rcases hrr1 with ⟨rfl, hx1⟩ | ⟨rfl, hx1⟩
      · have f87 : Old Z n0 T80.heap := (f78.keep K1 (allS ge_st all0))
        have go88 : Go p e below E0 T86 m 135 #[(si p0), (si p1), (si p2), (si p3), (si 2), (si v5), (si v6), (si v7), (sr ca), (sr st), (si 1)] [(.ref st)] := fun tgt kont => go86 tgt (by
          refine XS.ifNo X86.here hx rfl (D at_109) rfl ((if0 _ _).trans (feq (by decide)).1) ?_; refine XS.iload X86.here hx rfl (D at_112) rfl ?_; refine XS.iconst X86.here hx rfl (D at_114) ?_; refine XS.icmpYes X86.here hx rfl (pc0 := 115) (pc' := 126) rfl (D at_115) rfl (tlt (by decide)).1 (by decide) (by decide) ?_; refine XS.iconst X86.here hx rfl (D at_126) ?_; refine XS.goto X86.here hx rfl (pc0 := 127) (pc' := 131) rfl (D at_127) (by decide) (by decide) ?_; refine XS.istore X86.here hx rfl (D at_131) rfl (l' := #[(si p0), (si p1), (si p2), (si p3), (si 2), (si v5), (si v6), (si v7), (sr ca), (sr st), (si 1)]) rfl ?_; refine XS.aload X86.here hx rfl (D at_133) rfl rfl ?_; exact kont)
        obtain ⟨_, _, ⟨T89, L89, k89, n89⟩, -, Xp89, hSp89, hgp89, ⟨Lc89, hQ89, l89, y89, z89⟩, st89⟩ := callSS X86 hx (y := (⟨"com/example/ample_dispatch/ampledispatch/FieldValues", "isToken", "(Ljava/lang/String;)Z"⟩ : MethodName)) hown (mvT hZ (wd hw 23 rfl)) (mvT hZ (wd hw 24 rfl)) (mvT hZ (wd hw 25 rfl)) (mvT hZ (wd hw 26 rfl)) (by decide) (own_backJ (W := 0) (rmT2 l Z a0 hw [] st (nar .char v5) (nar .char v6) G fv T80.heap n0 z81 S1 k5 k6 hH3 hCW W0 f87) hZ (wd hw 26 rfl) (wd hw 25 rfl) (by decide) (by decide)) (g := (mkF m 135 #[(si p0), (si p1), (si p2), (si p3), (si 2), (si v5), (si v6), (si v7), (sr ca), (sr st), (si 1)] [(.ref st)])) rfl (by rw [hml]; rfl) (argsL := [(.ref st)]) (rest := []) (lenOf pd_26 rfl) rfl (by show 2 * 0 + _ ≤ _; exact Nat.le_of_eq rfl) (D at_135) (fun _ hwm => ⟨rfl, e86, (own_Iwarm hJ0 hwm), (by decide : 4 + 2 ≤ _), (by decide : 12 + 64 ≤ _)⟩)
        dsimp only [Pt.U, Pt.locs, Pt.cells, Pt.slots] at Xp89 hSp89 hgp89 l89 y89 z89 st89 hQ89
        subst l89 y89 z89
        obtain ⟨X89, hS89, hZ89, hown89⟩ := rebS hS0 (by rw [e86]; exact (Nat.le_trans hk0 (Nat.le_trans (Nat.le_trans (Nat.le_trans (Nat.le_trans E58.1 (Keep.of_wr W63).1) (Keep.of_wr W69).1) E74.1) K1.1))) Xp89 hSp89 hgp89 hZ hown
        obtain ⟨r, rfl, N89q, K2, hr⟩ := hQ89
        have N89 := Fr.app N86 N89q
        have z90 : n0 ≤ T89.heap.size := Nat.le_trans z81 K2.1
        have K91 : Keep h0 T89.heap [] := K82.trans K2 all0
        have go89 : Go p e below E0 T89 m 138 #[(si p0), (si p1), (si p2), (si p3), (si 2), (si v5), (si v6), (si v7), (sr ca), (sr st), (si 1)] [(.int r)] := fun tgt kont => go88 tgt (st89.trans kont)
        rw [n5, n6] at hr
        have hre : r = (1 : Int32) := by
          rcases hr with ⟨q, u⟩ | ⟨q, u⟩
          · exact q
          · exact absurd ⟨hx0, hx1⟩ u
        have go92 : Go p e below E0 T89 m 148 #[(si p0), (si p1), (si p2), (si p3), (si 2), (si v5), (si v6), (si v7), (sr ca), (sr st), (si 1)] [(.int 1)] := fun tgt kont => go89 tgt (by
          refine XS.iload X89.here hx rfl (D at_138) rfl ?_; refine XS.icmpNo X89.here hx rfl (D at_140) rfl (teq hre).2 ?_; refine XS.iconst X89.here hx rfl (D at_143) ?_; refine XS.goto X89.here hx rfl (pc0 := 144) (pc' := 148) rfl (D at_144) (by decide) (by decide) ?_; exact kont)
        obtain ⟨fs, hr, hrun, hended, hW⟩ := X89.leaveW hS89 (Nat.le_refl _) (v := some (.int (1 : Int32))) (fun h => by rw [Bd.returns] at h; cases h)
        refine ⟨_, _, go92 _ ?_, hrun, hended, _, _, rfl, ?_, hW.1, hW.2.1, hW.2.2.1, hW.2.2.2.mono (by decide) (by decide)⟩
        · show Steps p.tables e below (T89.setTop (mkF m 148 #[(si p0), (si p1), (si p2), (si p3), (si 2), (si v5), (si v6), (si v7), (sr ca), (sr st), (si 1)] [(.int 1)])) _
          exact retN X89 hx (t := .boolean) Bd.returns (by simp) (D at_148) hr
        · show QL Z p0 p1 p2 p3 G fv h0 n0 _ T89.heap _ T89.vm
          exact ⟨rfl, N89⟩
      · have f93 : Old Z n0 T80.heap := (f78.keep K1 (allS ge_st all0))
        have go94 : Go p e below E0 T86 m 135 #[(si p0), (si p1), (si p2), (si p3), (si 2), (si v5), (si v6), (si v7), (sr ca), (sr st), (si 0)] [(.ref st)] := fun tgt kont => go86 tgt (by
          refine XS.ifYes X86.here hx rfl (pc0 := 109) (pc' := 130) rfl (D at_109) rfl ((if0 _ _).trans (teq rfl).1) (by decide) (by decide) ?_; refine XS.iconst X86.here hx rfl (D at_130) ?_; refine XS.istore X86.here hx rfl (D at_131) rfl (l' := #[(si p0), (si p1), (si p2), (si p3), (si 2), (si v5), (si v6), (si v7), (sr ca), (sr st), (si 0)]) rfl ?_; refine XS.aload X86.here hx rfl (D at_133) rfl rfl ?_; exact kont)
        obtain ⟨_, _, ⟨T95, L95, k95, n95⟩, -, Xp95, hSp95, hgp95, ⟨Lc95, hQ95, l95, y95, z95⟩, st95⟩ := callSS X86 hx (y := (⟨"com/example/ample_dispatch/ampledispatch/FieldValues", "isToken", "(Ljava/lang/String;)Z"⟩ : MethodName)) hown (mvT hZ (wd hw 23 rfl)) (mvT hZ (wd hw 24 rfl)) (mvT hZ (wd hw 25 rfl)) (mvT hZ (wd hw 26 rfl)) (by decide) (own_backJ (W := 0) (rmT2 l Z a0 hw [] st (nar .char v5) (nar .char v6) G fv T80.heap n0 z81 S1 k5 k6 hH3 hCW W0 f93) hZ (wd hw 26 rfl) (wd hw 25 rfl) (by decide) (by decide)) (g := (mkF m 135 #[(si p0), (si p1), (si p2), (si p3), (si 2), (si v5), (si v6), (si v7), (sr ca), (sr st), (si 0)] [(.ref st)])) rfl (by rw [hml]; rfl) (argsL := [(.ref st)]) (rest := []) (lenOf pd_26 rfl) rfl (by show 2 * 0 + _ ≤ _; exact Nat.le_of_eq rfl) (D at_135) (fun _ hwm => ⟨rfl, e86, (own_Iwarm hJ0 hwm), (by decide : 4 + 2 ≤ _), (by decide : 12 + 64 ≤ _)⟩)
        dsimp only [Pt.U, Pt.locs, Pt.cells, Pt.slots] at Xp95 hSp95 hgp95 l95 y95 z95 st95 hQ95
        subst l95 y95 z95
        obtain ⟨X95, hS95, hZ95, hown95⟩ := rebS hS0 (by rw [e86]; exact (Nat.le_trans hk0 (Nat.le_trans (Nat.le_trans (Nat.le_trans (Nat.le_trans E58.1 (Keep.of_wr W63).1) (Keep.of_wr W69).1) E74.1) K1.1))) Xp95 hSp95 hgp95 hZ hown
        obtain ⟨r, rfl, N95q, K2, hr⟩ := hQ95
        have N95 := Fr.app N86 N95q
        have z96 : n0 ≤ T95.heap.size := Nat.le_trans z81 K2.1
        have K97 : Keep h0 T95.heap [] := K82.trans K2 all0
        have go95 : Go p e below E0 T95 m 138 #[(si p0), (si p1), (si p2), (si p3), (si 2), (si v5), (si v6), (si v7), (sr ca), (sr st), (si 0)] [(.int r)] := fun tgt kont => go94 tgt (st95.trans kont)
        rw [n5, n6] at hr
        have hre : r = (0 : Int32) := by
          rcases hr with ⟨q, u⟩ | ⟨q, u⟩
          · exact absurd u.2 hx1
          · exact q
        have go98 : Go p e below E0 T95 m 148 #[(si p0), (si p1), (si p2), (si p3), (si 2), (si v5), (si v6), (si v7), (sr ca), (sr st), (si 0)] [(.int 1)] := fun tgt kont => go95 tgt (by
          refine XS.iload X95.here hx rfl (D at_138) rfl ?_; refine XS.icmpNo X95.here hx rfl (D at_140) rfl (teq hre).2 ?_; refine XS.iconst X95.here hx rfl (D at_143) ?_; refine XS.goto X95.here hx rfl (pc0 := 144) (pc' := 148) rfl (D at_144) (by decide) (by decide) ?_; exact kont)
        obtain ⟨fs, hr, hrun, hended, hW⟩ := X95.leaveW hS95 (Nat.le_refl _) (v := some (.int (1 : Int32))) (fun h => by rw [Bd.returns] at h; cases h)
        refine ⟨_, _, go98 _ ?_, hrun, hended, _, _, rfl, ?_, hW.1, hW.2.1, hW.2.2.1, hW.2.2.2.mono (by decide) (by decide)⟩
        · show Steps p.tables e below (T95.setTop (mkF m 148 #[(si p0), (si p1), (si p2), (si p3), (si 2), (si v5), (si v6), (si v7), (sr ca), (sr st), (si 0)] [(.int 1)])) _
          exact retN X95 hx (t := .boolean) Bd.returns (by simp) (D at_148) hr
        · show QL Z p0 p1 p2 p3 G fv h0 n0 _ T95.heap _ T95.vm
          exact ⟨rfl, N95⟩
    · have f99 : Old Z n0 T80.heap := (f78.keep K1 (allS ge_st all0))
      have go100 : Go p e below E0 T84 m 135 #[(si p0), (si p1), (si p2), (si p3), (si 2), (si v5), (si v6), (si v7), (sr ca), (sr st), (si 0)] [(.ref st)] := fun tgt kont => go84 tgt (by
        refine XS.ifYes X84.here hx rfl (pc0 := 95) (pc' := 130) rfl (D at_95) rfl ((if0 _ _).trans (teq rfl).1) (by decide) (by decide) ?_; refine XS.iconst X84.here hx rfl (D at_130) ?_; refine XS.istore X84.here hx rfl (D at_131) rfl (l' := #[(si p0), (si p1), (si p2), (si p3), (si 2), (si v5), (si v6), (si v7), (sr ca), (sr st), (si 0)]) rfl ?_; refine XS.aload X84.here hx rfl (D at_133) rfl rfl ?_; exact kont)
      obtain ⟨_, _, ⟨T101, L101, k101, n101⟩, -, Xp101, hSp101, hgp101, ⟨Lc101, hQ101, l101, y101, z101⟩, st101⟩ := callSS X84 hx (y := (⟨"com/example/ample_dispatch/ampledispatch/FieldValues", "isToken", "(Ljava/lang/String;)Z"⟩ : MethodName)) hown (mvT hZ (wd hw 23 rfl)) (mvT hZ (wd hw 24 rfl)) (mvT hZ (wd hw 25 rfl)) (mvT hZ (wd hw 26 rfl)) (by decide) (own_backJ (W := 0) (rmT2 l Z a0 hw [] st (nar .char v5) (nar .char v6) G fv T80.heap n0 z81 S1 k5 k6 hH3 hCW W0 f99) hZ (wd hw 26 rfl) (wd hw 25 rfl) (by decide) (by decide)) (g := (mkF m 135 #[(si p0), (si p1), (si p2), (si p3), (si 2), (si v5), (si v6), (si v7), (sr ca), (sr st), (si 0)] [(.ref st)])) rfl (by rw [hml]; rfl) (argsL := [(.ref st)]) (rest := []) (lenOf pd_26 rfl) rfl (by show 2 * 0 + _ ≤ _; exact Nat.le_of_eq rfl) (D at_135) (fun _ hwm => ⟨rfl, e84, (own_Iwarm hJ0 hwm), (by decide : 4 + 2 ≤ _), (by decide : 12 + 64 ≤ _)⟩)
      dsimp only [Pt.U, Pt.locs, Pt.cells, Pt.slots] at Xp101 hSp101 hgp101 l101 y101 z101 st101 hQ101
      subst l101 y101 z101
      obtain ⟨X101, hS101, hZ101, hown101⟩ := rebS hS0 (by rw [e84]; exact (Nat.le_trans hk0 (Nat.le_trans (Nat.le_trans (Nat.le_trans (Nat.le_trans E58.1 (Keep.of_wr W63).1) (Keep.of_wr W69).1) E74.1) K1.1))) Xp101 hSp101 hgp101 hZ hown
      obtain ⟨r, rfl, N101q, K2, hr⟩ := hQ101
      have N101 := Fr.app N84 N101q
      have z102 : n0 ≤ T101.heap.size := Nat.le_trans z81 K2.1
      have K103 : Keep h0 T101.heap [] := K82.trans K2 all0
      have go101 : Go p e below E0 T101 m 138 #[(si p0), (si p1), (si p2), (si p3), (si 2), (si v5), (si v6), (si v7), (sr ca), (sr st), (si 0)] [(.int r)] := fun tgt kont => go100 tgt (st101.trans kont)
      rw [n5, n6] at hr
      have hre : r = (0 : Int32) := by
        rcases hr with ⟨q, u⟩ | ⟨q, u⟩
        · exact absurd u.1 hx0
        · exact q
      have go104 : Go p e below E0 T101 m 148 #[(si p0), (si p1), (si p2), (si p3), (si 2), (si v5), (si v6), (si v7), (sr ca), (sr st), (si 0)] [(.int 1)] := fun tgt kont => go101 tgt (by
        refine XS.iload X101.here hx rfl (D at_138) rfl ?_; refine XS.icmpNo X101.here hx rfl (D at_140) rfl (teq hre).2 ?_; refine XS.iconst X101.here hx rfl (D at_143) ?_; refine XS.goto X101.here hx rfl (pc0 := 144) (pc' := 148) rfl (D at_144) (by decide) (by decide) ?_; exact kont)
      obtain ⟨fs, hr, hrun, hended, hW⟩ := X101.leaveW hS101 (Nat.le_refl _) (v := some (.int (1 : Int32))) (fun h => by rw [Bd.returns] at h; cases h)
      refine ⟨_, _, go104 _ ?_, hrun, hended, _, _, rfl, ?_, hW.1, hW.2.1, hW.2.2.1, hW.2.2.2.mono (by decide) (by decide)⟩
      · show Steps p.tables e below (T101.setTop (mkF m 148 #[(si p0), (si p1), (si p2), (si p3), (si 2), (si v5), (si v6), (si v7), (sr ca), (sr st), (si 0)] [(.int 1)])) _
        exact retN X101 hx (t := .boolean) Bd.returns (by simp) (D at_148) hr
      · show QL Z p0 p1 p2 p3 G fv h0 n0 _ T101.heap _ T101.vm
        exact ⟨rfl, N101⟩
  · have go105 : Go p e below E0 s₁ m 28 #[(si p0), (si p1), (si p2), (si p3), (si 3), (si v5), (si v6), (si v7), .unset, .unset, .unset] [(.int 3)] := fun tgt kont => go4 tgt (by
      refine XS.iload X0.here hx rfl (D at_26) rfl ?_; exact kont)
    obtain ⟨T106, h106, k106, X106, e106, E106, A106, st106⟩ := newP X0 hx hZ (wd hw 1 rfl) e0 (g := (mkF m 28 #[(si p0), (si p1), (si p2), (si p3), (si 3), (si v5), (si v6), (si v7), .unset, .unset, .unset] [(.int 3)])) rfl (D at_28) rfl (by decide) (cap := 3) (by decide) (by decide) (by decide) (by decide)
    obtain ⟨ca, g106⟩ : ∃ z, z = h0.size := ⟨_, rfl⟩
    rw [← g106] at A106 st106
    have ge_ca : n0 ≤ ca := Nat.le_trans Z0 (Nat.le_of_eq g106.symm)
    have hz_ca : h0.size ≤ ca := Nat.le_trans (Keep.refl h0 []).1 (Nat.le_of_eq g106.symm)
    have z107 : n0 ≤ h106.size := Nat.le_trans Z0 E106.1
    have K108 : Keep h0 h106 [] := (Keep.refl h0 []).ext E106
    have V106 : Arv Z h106 ca k106 .char (3 : Int32) [] (.int (0 : Int32)) := Arv.new A106 (by decide)
    have go106 : Go p e below E0 T106 m 30 #[(si p0), (si p1), (si p2), (si p3), (si 3), (si v5), (si v6), (si v7), .unset, .unset, .unset] [(.ref ca)] := fun tgt kont => go105 tgt (st106 tgt kont)
    have go109 : Go p e below E0 T106 m 43 #[(si p0), (si p1), (si p2), (si p3), (si 3), (si v5), (si v6), (si v7), (sr ca), .unset, .unset] [(.int v5), (.int 0), (.ref ca)] := fun tgt kont => go106 tgt (by
      refine XS.astore X106.here hx rfl (D at_30) rfl rfl (l' := #[(si p0), (si p1), (si p2), (si p3), (si 3), (si v5), (si v6), (si v7), (sr ca), .unset, .unset]) rfl ?_; refine XS.iload X106.here hx rfl (D at_32) rfl ?_; refine XS.iconst X106.here hx rfl (D at_34) ?_; refine XS.icmpNo X106.here hx rfl (D at_35) rfl (flt (by decide)).1 ?_; refine XS.aload X106.here hx rfl (D at_38) rfl rfl ?_; refine XS.iconst X106.here hx rfl (D at_40) ?_; refine XS.iload X106.here hx rfl (D at_41) rfl ?_; exact kont)
    have p110 : Arv Z h106 ca k106 .char (3 : Int32) [(.int (0 : Int32))] (.int (0 : Int32)) := V106.pad (pad_rep [] (.int (0 : Int32)) 1)
    obtain ⟨c111, Ar111, q111, S111, M111, Hh111, G111⟩ := id p110
    obtain ⟨T111, h111, X111, e111, W111, st111⟩ := stC X106 hx hZ e106 Ar111 (j := (0 : Int32)) (inb_of S111 ⟨by decide, by decide⟩) (g := (mkF m 43 #[(si p0), (si p1), (si p2), (si p3), (si 3), (si v5), (si v6), (si v7), (sr ca), .unset, .unset] [(.int v5), (.int 0), (.ref ca)])) rfl rfl (D at_43)
    have z112 : n0 ≤ h111.size := Nat.le_trans z107 (Keep.of_wr W111).1
    have K113 : Keep h0 h111 [] := K108.wr W111 (Or.inr hz_ca)
    have N111 := Fr.snoc X111 N0 ge_ca
    have f114 : Arv Z h111 ca k106 .char (3 : Int32) [(.int (nar .char v5))] (.int (0 : Int32)) := Arv.set Ar111 q111 S111 M111 Hh111 G111 (fits_nar_char _) W111 0 rfl (Nat.le_of_ble_eq_true rfl)
    have go111 : Go p e below E0 T111 m 44 #[(si p0), (si p1), (si p2), (si p3), (si 3), (si v5), (si v6), (si v7), (sr ca), .unset, .unset] [] := fun tgt kont => go109 tgt (st111 tgt kont)
    have go115 : Go p e below E0 T111 m 55 #[(si p0), (si p1), (si p2), (si p3), (si 3), (si v5), (si v6), (si v7), (sr ca), .unset, .unset] [(.int v6), (.int 1), (.ref ca)] := fun tgt kont => go111 tgt (by
      refine XS.iload X111.here hx rfl (D at_44) rfl ?_; refine XS.iconst X111.here hx rfl (D at_46) ?_; refine XS.icmpNo X111.here hx rfl (D at_47) rfl (flt (by decide)).1 ?_; refine XS.aload X111.here hx rfl (D at_50) rfl rfl ?_; refine XS.iconst X111.here hx rfl (D at_52) ?_; refine XS.iload X111.here hx rfl (D at_53) rfl ?_; exact kont)
    have p116 : Arv Z h111 ca k106 .char (3 : Int32) [(.int (nar .char v5)), (.int (0 : Int32))] (.int (0 : Int32)) := f114.pad (pad_rep [(.int (nar .char v5))] (.int (0 : Int32)) 1)
    obtain ⟨c117, Ar117, q117, S117, M117, Hh117, G117⟩ := id p116
    obtain ⟨T117, h117, X117, e117, W117, st117⟩ := stC X111 hx hZ e111 Ar117 (j := (1 : Int32)) (inb_of S117 ⟨by decide, by decide⟩) (g := (mkF m 55 #[(si p0), (si p1), (si p2), (si p3), (si 3), (si v5), (si v6), (si v7), (sr ca), .unset, .unset] [(.int v6), (.int 1), (.ref ca)])) rfl rfl (D at_55)
    have z118 : n0 ≤ h117.size := Nat.le_trans z112 (Keep.of_wr W117).1
    have K119 : Keep h0 h117 [] := K113.wr W117 (Or.inr hz_ca)
    have N117 := Fr.snoc X117 N111 ge_ca
    have f120 : Arv Z h117 ca k106 .char (3 : Int32) [(.int (nar .char v5)), (.int (nar .char v6))] (.int (0 : Int32)) := Arv.set Ar117 q117 S117 M117 Hh117 G117 (fits_nar_char _) W117 1 rfl (Nat.le_of_ble_eq_true rfl)
    have go117 : Go p e below E0 T117 m 56 #[(si p0), (si p1), (si p2), (si p3), (si 3), (si v5), (si v6), (si v7), (sr ca), .unset, .unset] [] := fun tgt kont => go115 tgt (st117 tgt kont)
    have go121 : Go p e below E0 T117 m 67 #[(si p0), (si p1), (si p2), (si p3), (si 3), (si v5), (si v6), (si v7), (sr ca), .unset, .unset] [(.int v7), (.int 2), (.ref ca)] := fun tgt kont => go117 tgt (by
      refine XS.iload X117.here hx rfl (D at_56) rfl ?_; refine XS.iconst X117.here hx rfl (D at_58) ?_; refine XS.icmpNo X117.here hx rfl (D at_59) rfl (flt (by decide)).1 ?_; refine XS.aload X117.here hx rfl (D at_62) rfl rfl ?_; refine XS.iconst X117.here hx rfl (D at_64) ?_; refine XS.iload X117.here hx rfl (D at_65) rfl ?_; exact kont)
    have p122 : Arv Z h117 ca k106 .char (3 : Int32) [(.int (nar .char v5)), (.int (nar .char v6)), (.int (0 : Int32))] (.int (0 : Int32)) := f120.pad (pad_rep [(.int (nar .char v5)), (.int (nar .char v6))] (.int (0 : Int32)) 1)
    obtain ⟨c123, Ar123, q123, S123, M123, Hh123, G123⟩ := id p122
    obtain ⟨T123, h123, X123, e123, W123, st123⟩ := stC X117 hx hZ e117 Ar123 (j := (2 : Int32)) (inb_of S123 ⟨by decide, by decide⟩) (g := (mkF m 67 #[(si p0), (si p1), (si p2), (si p3), (si 3), (si v5), (si v6), (si v7), (sr ca), .unset, .unset] [(.int v7), (.int 2), (.ref ca)])) rfl rfl (D at_67)
    have z124 : n0 ≤ h123.size := Nat.le_trans z118 (Keep.of_wr W123).1
    have K125 : Keep h0 h123 [] := K119.wr W123 (Or.inr hz_ca)
    have N123 := Fr.snoc X123 N117 ge_ca
    have f126 : Arv Z h123 ca k106 .char (3 : Int32) [(.int (nar .char v5)), (.int (nar .char v6)), (.int (nar .char v7))] (.int (0 : Int32)) := Arv.set Ar123 q123 S123 M123 Hh123 G123 (fits_nar_char _) W123 2 rfl (Nat.le_of_ble_eq_true rfl)
    have go123 : Go p e below E0 T123 m 68 #[(si p0), (si p1), (si p2), (si p3), (si 3), (si v5), (si v6), (si v7), (sr ca), .unset, .unset] [] := fun tgt kont => go121 tgt (st123 tgt kont)
    obtain ⟨T127, h127, X127, e127, E127, A127, D127, -, st127⟩ := newO X123 hx hZ hown (wd hw 2 rfl) (wd hw 3 rfl) (wd hw 4 rfl) e123 (g := (mkF m 68 #[(si p0), (si p1), (si p2), (si p3), (si 3), (si v5), (si v6), (si v7), (sr ca), .unset, .unset] [])) rfl (D at_68) (by decide) (by decide)
    obtain ⟨st, g127⟩ : ∃ z, z = h123.size := ⟨_, rfl⟩
    rw [← g127] at A127 D127 st127
    have ne_ca_st : ca ≠ st := Nat.ne_of_lt (Nat.lt_of_lt_of_le (Nat.lt_of_lt_of_le V106.lt (Nat.le_trans (Nat.le_trans (Keep.of_wr W111).1 (Keep.of_wr W117).1) (Keep.of_wr W123).1)) (Nat.le_of_eq g127.symm))
    have ge_st : n0 ≤ st := Nat.le_trans z124 (Nat.le_of_eq g127.symm)
    have hz_st : h0.size ≤ st := Nat.le_trans K125.1 (Nat.le_of_eq g127.symm)
    have z128 : n0 ≤ h127.size := Nat.le_trans z124 E127.1
    have K129 : Keep h0 h127 [] := K125.ext E127
    have Fvalue_st : Fld Z h127 st "java/lang/String" "value" "[B" .null := D127 (Or.inr (wd hw 17 rfl)) (ty := (.array .byte)) (by decide)
    have Fcoder_st : Fld Z h127 st "java/lang/String" "coder" "B" (.int (0 : Int32)) := D127 (Or.inr (wd hw 18 rfl)) (ty := .byte) (by decide)
    have go127 : Go p e below E0 T127 m 71 #[(si p0), (si p1), (si p2), (si p3), (si 3), (si v5), (si v6), (si v7), (sr ca), .unset, .unset] [(.ref st)] := fun tgt kont => go123 tgt (st127 tgt kont)
    have f130 : Arv Z h127 ca k106 .char (3 : Int32) [(.int (nar .char v5)), (.int (nar .char v6)), (.int (nar .char v7))] (.int (0 : Int32)) := (f126.ext E127)
    have f131 : Old Z n0 h127 := (((((O0.ext E106).wr W111 ge_ca).wr W117 ge_ca).wr W123 ge_ca).ext E127)
    have go132 : Go p e below E0 T127 m 74 #[(si p0), (si p1), (si p2), (si p3), (si 3), (si v5), (si v6), (si v7), (sr ca), .unset, .unset] [(.ref ca), (.ref st), (.ref st)] := fun tgt kont => go127 tgt (by
      refine XS.dup X127.here hx rfl (D at_71) rfl rfl ?_; refine XS.aload X127.here hx rfl (D at_72) rfl rfl ?_; exact kont)
    obtain ⟨_, _, ⟨T133, L133, k133, n133⟩, -, X133, ⟨Lc133, hQ133, l133, y133, z133⟩, st133⟩ := X127.specialBack hx (y := (⟨"java/lang/String", "<init>", "([C)V"⟩ : MethodName)) rfl hown (mvT hZ (wd hw 5 rfl)) (mvT hZ (wd hw 6 rfl)) (mvT hZ (wd hw 7 rfl)) (by decide) (backOf (W := 1) (rmN3 l Z a0 hw [] st ca k106 (nar .char v5) (nar .char v6) (nar .char v7) G fv h127 n0 z128 A127 ge_st Fvalue_st Fcoder_st f130 k5 k6 k7 W0 f131) hZ (wd hw 7 rfl) (wd hw 4 rfl) (by decide) (by decide)) (g := (mkF m 74 #[(si p0), (si p1), (si p2), (si p3), (si 3), (si v5), (si v6), (si v7), (sr ca), .unset, .unset] [(.ref ca), (.ref st), (.ref st)])) rfl (by rw [hml]; rfl) (Steps.refl _) (a := st) (argsL := [(.ref ca)]) (rest := [(.ref st)]) (lenOf pd_25 rfl) rfl (by show 2 * 0 + _ ≤ _; exact Nat.le_of_eq rfl) (D at_74) (fun _ _ => ⟨rfl, e127, (by decide : 2 + 2 ≤ _), (by decide : 7 + 9 ≤ _)⟩)
    dsimp only [Pt.U, Pt.locs, Pt.cells, Pt.slots] at X133 l133 y133 z133 st133 hQ133
    subst l133 y133 z133
    obtain ⟨rfl, N133q, K1, S1⟩ := hQ133
    have N133 := Fr.app N123 N133q
    have z134 : n0 ≤ T133.heap.size := Nat.le_trans z128 K1.1
    have K135 : Keep h0 T133.heap [] := K129.trans K1 (allS (Or.inr hz_st) all0)
    have go133 : Go p e below E0 T133 m 77 #[(si p0), (si p1), (si p2), (si p3), (si 3), (si v5), (si v6), (si v7), (sr ca), .unset, .unset] [(.ref st)] := fun tgt kont => go132 tgt (st133.trans kont)
    have go136 : Go p e below E0 T133 m 92 #[(si p0), (si p1), (si p2), (si p3), (si 3), (si v5), (si v6), (si v7), (sr ca), (sr st), .unset] [(.int v5)] := fun tgt kont => go133 tgt (by
      refine XS.astore X133.here hx rfl (D at_77) rfl rfl (l' := #[(si p0), (si p1), (si p2), (si p3), (si 3), (si v5), (si v6), (si v7), (sr ca), (sr st), .unset]) rfl ?_; refine XS.iload X133.here hx rfl (D at_79) rfl ?_; refine XS.ifNo X133.here hx rfl (D at_81) rfl ((if0 _ _).trans (tlt (by decide)).2.2.2) ?_; refine XS.iload X133.here hx rfl (D at_84) rfl ?_; refine XS.iconst X133.here hx rfl (D at_86) ?_; refine XS.icmpNo X133.here hx rfl (D at_87) rfl (flt (by decide)).1 ?_; refine XS.iload X133.here hx rfl (D at_90) rfl ?_; exact kont)
    obtain ⟨vv137, _, ⟨T137, L137, k137, n137⟩, -, X137, ⟨Lc137, hQ137, l137, y137, z137⟩, st137⟩ := Jvm.LawKit.callS X133 hx (y := (⟨"com/example/ample_dispatch/ampledispatch/FieldValuesIsTokenPinLaw", "tchar", "(I)Z"⟩ : MethodName)) hown (mvT hZ (wd hw 53 rfl)) (mvT hZ (wd hw 54 rfl)) (mvT hZ (wd hw 55 rfl)) (mvT hZ (wd hw 56 rfl)) (by decide) (backOf (W := 0) (rmTC l Z a0 hw [] v5 T133.heap n0 z134 ) hZ (wd hw 56 rfl) (wd hw 55 rfl) (by decide) (by decide)) (g := (mkF m 92 #[(si p0), (si p1), (si p2), (si p3), (si 3), (si v5), (si v6), (si v7), (sr ca), (sr st), .unset] [(.int v5)])) rfl (by rw [hml]; rfl) (argsL := [(.int v5)]) (rest := []) (lenOf pd_12 rfl) rfl (by show 2 * 0 + _ ≤ _; exact Nat.le_of_eq rfl) (D at_92) (fun _ _ => ⟨rfl, rfl, (by decide : 4 + 0 ≤ _), (by decide : 16 + 0 ≤ _)⟩)
    dsimp only [Pt.U, Pt.locs, Pt.cells, Pt.slots] at X137 l137 y137 z137 st137 hQ137
    subst l137 y137 z137
    obtain ⟨hv137, rfl, e137⟩ := hQ137
    have N137q : Fr n0 ([] : List Loc) := Fr.nil n0
    obtain ⟨rr0, rfl, hrr0⟩ : ∃ r : Int32, vv137 = some (.int r) ∧ ((r = 1 ∧ own_tc v5) ∨ (r = 0 ∧ ¬ (own_tc v5))) := by
      rcases hv137 with ⟨q, u⟩ | ⟨q, u⟩
      · exact ⟨1, q, Or.inl ⟨rfl, u⟩⟩
      · exact ⟨0, q, Or.inr ⟨rfl, u⟩⟩
    have N137 := Fr.app N133 N137q
    have go137 : Go p e below E0 T137 m 95 #[(si p0), (si p1), (si p2), (si p3), (si 3), (si v5), (si v6), (si v7), (sr ca), (sr st), .unset] [(.int rr0)] := fun tgt kont => go136 tgt (st137 tgt kont)
    rcases hrr0 with ⟨rfl, hx0⟩ | ⟨rfl, hx0⟩
    · have go138 : Go p e below E0 T137 m 106 #[(si p0), (si p1), (si p2), (si p3), (si 3), (si v5), (si v6), (si v7), (sr ca), (sr st), .unset] [(.int v6)] := fun tgt kont => go137 tgt (by
        refine XS.ifNo X137.here hx rfl (D at_95) rfl ((if0 _ _).trans (feq (by decide)).1) ?_; refine XS.iload X137.here hx rfl (D at_98) rfl ?_; refine XS.iconst X137.here hx rfl (D at_100) ?_; refine XS.icmpNo X137.here hx rfl (D at_101) rfl (flt (by decide)).1 ?_; refine XS.iload X137.here hx rfl (D at_104) rfl ?_; exact kont)
      obtain ⟨vv139, _, ⟨T139, L139, k139, n139⟩, -, X139, ⟨Lc139, hQ139, l139, y139, z139⟩, st139⟩ := Jvm.LawKit.callS X137 hx (y := (⟨"com/example/ample_dispatch/ampledispatch/FieldValuesIsTokenPinLaw", "tchar", "(I)Z"⟩ : MethodName)) hown (mvT hZ (wd hw 53 rfl)) (mvT hZ (wd hw 54 rfl)) (mvT hZ (wd hw 55 rfl)) (mvT hZ (wd hw 56 rfl)) (by decide) (backOf (W := 0) (rmTC l Z a0 hw [] v6 T133.heap n0 z134 ) hZ (wd hw 56 rfl) (wd hw 55 rfl) (by decide) (by decide)) (g := (mkF m 106 #[(si p0), (si p1), (si p2), (si p3), (si 3), (si v5), (si v6), (si v7), (sr ca), (sr st), .unset] [(.int v6)])) rfl (by rw [hml]; rfl) (argsL := [(.int v6)]) (rest := []) (lenOf pd_12 rfl) rfl (by show 2 * 0 + _ ≤ _; exact Nat.le_of_eq rfl) (D at_106) (fun _ _ => ⟨rfl, e137, (by decide : 4 + 0 ≤ _), (by decide : 16 + 0 ≤ _)⟩)
      dsimp only [Pt.U, Pt.locs, Pt.cells, Pt.slots] at X139 l139 y139 z139 st139 hQ139
      subst l139 y139 z139
      obtain ⟨hv139, rfl, e139⟩ := hQ139
      have N139q : Fr n0 ([] : List Loc) := Fr.nil n0
      obtain ⟨rr1, rfl, hrr1⟩ : ∃ r : Int32, vv139 = some (.int r) ∧ ((r = 1 ∧ own_tc v6) ∨ (r = 0 ∧ ¬ (own_tc v6))) := by
        rcases hv139 with ⟨q, u⟩ | ⟨q, u⟩
        · exact ⟨1, q, Or.inl ⟨rfl, u⟩⟩
        · exact ⟨0, q, Or.inr ⟨rfl, u⟩⟩
      have N139 := Fr.app N137 N139q
      have go139 : Go p e below E0 T139 m 109 #[(si p0), (si p1), (si p2), (si p3), (si 3), (si v5), (si v6), (si v7), (sr ca), (sr st), .unset] [(.int rr1)] := fun tgt kont => go138 tgt (st139 tgt kont)
      rcases hrr1 with ⟨rfl, hx1⟩ | ⟨rfl, hx1⟩
      · have go140 : Go p e below E0 T139 m 120 #[(si p0), (si p1), (si p2), (si p3), (si 3), (si v5), (si v6), (si v7), (sr ca), (sr st), .unset] [(.int v7)] := fun tgt kont => go139 tgt (by
          refine XS.ifNo X139.here hx rfl (D at_109) rfl ((if0 _ _).trans (feq (by decide)).1) ?_; refine XS.iload X139.here hx rfl (D at_112) rfl ?_; refine XS.iconst X139.here hx rfl (D at_114) ?_; refine XS.icmpNo X139.here hx rfl (D at_115) rfl (flt (by decide)).1 ?_; refine XS.iload X139.here hx rfl (D at_118) rfl ?_; exact kont)
        obtain ⟨vv141, _, ⟨T141, L141, k141, n141⟩, -, X141, ⟨Lc141, hQ141, l141, y141, z141⟩, st141⟩ := Jvm.LawKit.callS X139 hx (y := (⟨"com/example/ample_dispatch/ampledispatch/FieldValuesIsTokenPinLaw", "tchar", "(I)Z"⟩ : MethodName)) hown (mvT hZ (wd hw 53 rfl)) (mvT hZ (wd hw 54 rfl)) (mvT hZ (wd hw 55 rfl)) (mvT hZ (wd hw 56 rfl)) (by decide) (backOf (W := 0) (rmTC l Z a0 hw [] v7 T133.heap n0 z134 ) hZ (wd hw 56 rfl) (wd hw 55 rfl) (by decide) (by decide)) (g := (mkF m 120 #[(si p0), (si p1), (si p2), (si p3), (si 3), (si v5), (si v6), (si v7), (sr ca), (sr st), .unset] [(.int v7)])) rfl (by rw [hml]; rfl) (argsL := [(.int v7)]) (rest := []) (lenOf pd_12 rfl) rfl (by show 2 * 0 + _ ≤ _; exact Nat.le_of_eq rfl) (D at_120) (fun _ _ => ⟨rfl, e139, (by decide : 4 + 0 ≤ _), (by decide : 16 + 0 ≤ _)⟩)
        dsimp only [Pt.U, Pt.locs, Pt.cells, Pt.slots] at X141 l141 y141 z141 st141 hQ141
        subst l141 y141 z141
        obtain ⟨hv141, rfl, e141⟩ := hQ141
        have N141q : Fr n0 ([] : List Loc) := Fr.nil n0
        obtain ⟨rr2, rfl, hrr2⟩ : ∃ r : Int32, vv141 = some (.int r) ∧ ((r = 1 ∧ own_tc v7) ∨ (r = 0 ∧ ¬ (own_tc v7))) := by
          rcases hv141 with ⟨q, u⟩ | ⟨q, u⟩
          · exact ⟨1, q, Or.inl ⟨rfl, u⟩⟩
          · exact ⟨0, q, Or.inr ⟨rfl, u⟩⟩
        have N141 := Fr.app N139 N141q
        have go141 : Go p e below E0 T141 m 123 #[(si p0), (si p1), (si p2), (si p3), (si 3), (si v5), (si v6), (si v7), (sr ca), (sr st), .unset] [(.int rr2)] := fun tgt kont => go140 tgt (st141 tgt kont)
        rcases hrr2 with ⟨rfl, hx2⟩ | ⟨rfl, hx2⟩
        · have f142 : Old Z n0 T133.heap := (f131.keep K1 (allS ge_st all0))
          have go143 : Go p e below E0 T141 m 135 #[(si p0), (si p1), (si p2), (si p3), (si 3), (si v5), (si v6), (si v7), (sr ca), (sr st), (si 1)] [(.ref st)] := fun tgt kont => go141 tgt (by
            refine XS.ifNo X141.here hx rfl (D at_123) rfl ((if0 _ _).trans (feq (by decide)).1) ?_; refine XS.iconst X141.here hx rfl (D at_126) ?_; refine XS.goto X141.here hx rfl (pc0 := 127) (pc' := 131) rfl (D at_127) (by decide) (by decide) ?_; refine XS.istore X141.here hx rfl (D at_131) rfl (l' := #[(si p0), (si p1), (si p2), (si p3), (si 3), (si v5), (si v6), (si v7), (sr ca), (sr st), (si 1)]) rfl ?_; refine XS.aload X141.here hx rfl (D at_133) rfl rfl ?_; exact kont)
          obtain ⟨_, _, ⟨T144, L144, k144, n144⟩, -, Xp144, hSp144, hgp144, ⟨Lc144, hQ144, l144, y144, z144⟩, st144⟩ := callSS X141 hx (y := (⟨"com/example/ample_dispatch/ampledispatch/FieldValues", "isToken", "(Ljava/lang/String;)Z"⟩ : MethodName)) hown (mvT hZ (wd hw 23 rfl)) (mvT hZ (wd hw 24 rfl)) (mvT hZ (wd hw 25 rfl)) (mvT hZ (wd hw 26 rfl)) (by decide) (own_backJ (W := 0) (rmT3 l Z a0 hw [] st (nar .char v5) (nar .char v6) (nar .char v7) G fv T133.heap n0 z134 S1 k5 k6 k7 hH3 hCW W0 f142) hZ (wd hw 26 rfl) (wd hw 25 rfl) (by decide) (by decide)) (g := (mkF m 135 #[(si p0), (si p1), (si p2), (si p3), (si 3), (si v5), (si v6), (si v7), (sr ca), (sr st), (si 1)] [(.ref st)])) rfl (by rw [hml]; rfl) (argsL := [(.ref st)]) (rest := []) (lenOf pd_26 rfl) rfl (by show 2 * 0 + _ ≤ _; exact Nat.le_of_eq rfl) (D at_135) (fun _ hwm => ⟨rfl, e141, (own_Iwarm hJ0 hwm), (by decide : 4 + 2 ≤ _), (by decide : 16 + 64 ≤ _)⟩)
          dsimp only [Pt.U, Pt.locs, Pt.cells, Pt.slots] at Xp144 hSp144 hgp144 l144 y144 z144 st144 hQ144
          subst l144 y144 z144
          obtain ⟨X144, hS144, hZ144, hown144⟩ := rebS hS0 (by rw [e141]; exact (Nat.le_trans hk0 (Nat.le_trans (Nat.le_trans (Nat.le_trans (Nat.le_trans (Nat.le_trans E106.1 (Keep.of_wr W111).1) (Keep.of_wr W117).1) (Keep.of_wr W123).1) E127.1) K1.1))) Xp144 hSp144 hgp144 hZ hown
          obtain ⟨r, rfl, N144q, K2, hr⟩ := hQ144
          have N144 := Fr.app N141 N144q
          have z145 : n0 ≤ T144.heap.size := Nat.le_trans z134 K2.1
          have K146 : Keep h0 T144.heap [] := K135.trans K2 all0
          have go144 : Go p e below E0 T144 m 138 #[(si p0), (si p1), (si p2), (si p3), (si 3), (si v5), (si v6), (si v7), (sr ca), (sr st), (si 1)] [(.int r)] := fun tgt kont => go143 tgt (st144.trans kont)
          rw [n5, n6, n7] at hr
          have hre : r = (1 : Int32) := by
            rcases hr with ⟨q, u⟩ | ⟨q, u⟩
            · exact q
            · exact absurd ⟨hx0, hx1, hx2⟩ u
          have go147 : Go p e below E0 T144 m 148 #[(si p0), (si p1), (si p2), (si p3), (si 3), (si v5), (si v6), (si v7), (sr ca), (sr st), (si 1)] [(.int 1)] := fun tgt kont => go144 tgt (by
            refine XS.iload X144.here hx rfl (D at_138) rfl ?_; refine XS.icmpNo X144.here hx rfl (D at_140) rfl (teq hre).2 ?_; refine XS.iconst X144.here hx rfl (D at_143) ?_; refine XS.goto X144.here hx rfl (pc0 := 144) (pc' := 148) rfl (D at_144) (by decide) (by decide) ?_; exact kont)
          obtain ⟨fs, hr, hrun, hended, hW⟩ := X144.leaveW hS144 (Nat.le_refl _) (v := some (.int (1 : Int32))) (fun h => by rw [Bd.returns] at h; cases h)
          refine ⟨_, _, go147 _ ?_, hrun, hended, _, _, rfl, ?_, hW.1, hW.2.1, hW.2.2.1, hW.2.2.2.mono (by decide) (by decide)⟩
          · show Steps p.tables e below (T144.setTop (mkF m 148 #[(si p0), (si p1), (si p2), (si p3), (si 3), (si v5), (si v6), (si v7), (sr ca), (sr st), (si 1)] [(.int 1)])) _
            exact retN X144 hx (t := .boolean) Bd.returns (by simp) (D at_148) hr
          · show QL Z p0 p1 p2 p3 G fv h0 n0 _ T144.heap _ T144.vm
            exact ⟨rfl, N144⟩
        · have f148 : Old Z n0 T133.heap := (f131.keep K1 (allS ge_st all0))
          have go149 : Go p e below E0 T141 m 135 #[(si p0), (si p1), (si p2), (si p3), (si 3), (si v5), (si v6), (si v7), (sr ca), (sr st), (si 0)] [(.ref st)] := fun tgt kont => go141 tgt (by
            refine XS.ifYes X141.here hx rfl (pc0 := 123) (pc' := 130) rfl (D at_123) rfl ((if0 _ _).trans (teq rfl).1) (by decide) (by decide) ?_; refine XS.iconst X141.here hx rfl (D at_130) ?_; refine XS.istore X141.here hx rfl (D at_131) rfl (l' := #[(si p0), (si p1), (si p2), (si p3), (si 3), (si v5), (si v6), (si v7), (sr ca), (sr st), (si 0)]) rfl ?_; refine XS.aload X141.here hx rfl (D at_133) rfl rfl ?_; exact kont)
          obtain ⟨_, _, ⟨T150, L150, k150, n150⟩, -, Xp150, hSp150, hgp150, ⟨Lc150, hQ150, l150, y150, z150⟩, st150⟩ := callSS X141 hx (y := (⟨"com/example/ample_dispatch/ampledispatch/FieldValues", "isToken", "(Ljava/lang/String;)Z"⟩ : MethodName)) hown (mvT hZ (wd hw 23 rfl)) (mvT hZ (wd hw 24 rfl)) (mvT hZ (wd hw 25 rfl)) (mvT hZ (wd hw 26 rfl)) (by decide) (own_backJ (W := 0) (rmT3 l Z a0 hw [] st (nar .char v5) (nar .char v6) (nar .char v7) G fv T133.heap n0 z134 S1 k5 k6 k7 hH3 hCW W0 f148) hZ (wd hw 26 rfl) (wd hw 25 rfl) (by decide) (by decide)) (g := (mkF m 135 #[(si p0), (si p1), (si p2), (si p3), (si 3), (si v5), (si v6), (si v7), (sr ca), (sr st), (si 0)] [(.ref st)])) rfl (by rw [hml]; rfl) (argsL := [(.ref st)]) (rest := []) (lenOf pd_26 rfl) rfl (by show 2 * 0 + _ ≤ _; exact Nat.le_of_eq rfl) (D at_135) (fun _ hwm => ⟨rfl, e141, (own_Iwarm hJ0 hwm), (by decide : 4 + 2 ≤ _), (by decide : 16 + 64 ≤ _)⟩)
          dsimp only [Pt.U, Pt.locs, Pt.cells, Pt.slots] at Xp150 hSp150 hgp150 l150 y150 z150 st150 hQ150
          subst l150 y150 z150
          obtain ⟨X150, hS150, hZ150, hown150⟩ := rebS hS0 (by rw [e141]; exact (Nat.le_trans hk0 (Nat.le_trans (Nat.le_trans (Nat.le_trans (Nat.le_trans (Nat.le_trans E106.1 (Keep.of_wr W111).1) (Keep.of_wr W117).1) (Keep.of_wr W123).1) E127.1) K1.1))) Xp150 hSp150 hgp150 hZ hown
          obtain ⟨r, rfl, N150q, K2, hr⟩ := hQ150
          have N150 := Fr.app N141 N150q
          have z151 : n0 ≤ T150.heap.size := Nat.le_trans z134 K2.1
          have K152 : Keep h0 T150.heap [] := K135.trans K2 all0
          have go150 : Go p e below E0 T150 m 138 #[(si p0), (si p1), (si p2), (si p3), (si 3), (si v5), (si v6), (si v7), (sr ca), (sr st), (si 0)] [(.int r)] := fun tgt kont => go149 tgt (st150.trans kont)
          rw [n5, n6, n7] at hr
          have hre : r = (0 : Int32) := by
            rcases hr with ⟨q, u⟩ | ⟨q, u⟩
            · exact absurd u.2.2 hx2
            · exact q
          have go153 : Go p e below E0 T150 m 148 #[(si p0), (si p1), (si p2), (si p3), (si 3), (si v5), (si v6), (si v7), (sr ca), (sr st), (si 0)] [(.int 1)] := fun tgt kont => go150 tgt (by
            refine XS.iload X150.here hx rfl (D at_138) rfl ?_; refine XS.icmpNo X150.here hx rfl (D at_140) rfl (teq hre).2 ?_; refine XS.iconst X150.here hx rfl (D at_143) ?_; refine XS.goto X150.here hx rfl (pc0 := 144) (pc' := 148) rfl (D at_144) (by decide) (by decide) ?_; exact kont)
          obtain ⟨fs, hr, hrun, hended, hW⟩ := X150.leaveW hS150 (Nat.le_refl _) (v := some (.int (1 : Int32))) (fun h => by rw [Bd.returns] at h; cases h)
          refine ⟨_, _, go153 _ ?_, hrun, hended, _, _, rfl, ?_, hW.1, hW.2.1, hW.2.2.1, hW.2.2.2.mono (by decide) (by decide)⟩
          · show Steps p.tables e below (T150.setTop (mkF m 148 #[(si p0), (si p1), (si p2), (si p3), (si 3), (si v5), (si v6), (si v7), (sr ca), (sr st), (si 0)] [(.int 1)])) _
            exact retN X150 hx (t := .boolean) Bd.returns (by simp) (D at_148) hr
          · show QL Z p0 p1 p2 p3 G fv h0 n0 _ T150.heap _ T150.vm
            exact ⟨rfl, N150⟩
      · have f154 : Old Z n0 T133.heap := (f131.keep K1 (allS ge_st all0))
        have go155 : Go p e below E0 T139 m 135 #[(si p0), (si p1), (si p2), (si p3), (si 3), (si v5), (si v6), (si v7), (sr ca), (sr st), (si 0)] [(.ref st)] := fun tgt kont => go139 tgt (by
          refine XS.ifYes X139.here hx rfl (pc0 := 109) (pc' := 130) rfl (D at_109) rfl ((if0 _ _).trans (teq rfl).1) (by decide) (by decide) ?_; refine XS.iconst X139.here hx rfl (D at_130) ?_; refine XS.istore X139.here hx rfl (D at_131) rfl (l' := #[(si p0), (si p1), (si p2), (si p3), (si 3), (si v5), (si v6), (si v7), (sr ca), (sr st), (si 0)]) rfl ?_; refine XS.aload X139.here hx rfl (D at_133) rfl rfl ?_; exact kont)
        obtain ⟨_, _, ⟨T156, L156, k156, n156⟩, -, Xp156, hSp156, hgp156, ⟨Lc156, hQ156, l156, y156, z156⟩, st156⟩ := callSS X139 hx (y := (⟨"com/example/ample_dispatch/ampledispatch/FieldValues", "isToken", "(Ljava/lang/String;)Z"⟩ : MethodName)) hown (mvT hZ (wd hw 23 rfl)) (mvT hZ (wd hw 24 rfl)) (mvT hZ (wd hw 25 rfl)) (mvT hZ (wd hw 26 rfl)) (by decide) (own_backJ (W := 0) (rmT3 l Z a0 hw [] st (nar .char v5) (nar .char v6) (nar .char v7) G fv T133.heap n0 z134 S1 k5 k6 k7 hH3 hCW W0 f154) hZ (wd hw 26 rfl) (wd hw 25 rfl) (by decide) (by decide)) (g := (mkF m 135 #[(si p0), (si p1), (si p2), (si p3), (si 3), (si v5), (si v6), (si v7), (sr ca), (sr st), (si 0)] [(.ref st)])) rfl (by rw [hml]; rfl) (argsL := [(.ref st)]) (rest := []) (lenOf pd_26 rfl) rfl (by show 2 * 0 + _ ≤ _; exact Nat.le_of_eq rfl) (D at_135) (fun _ hwm => ⟨rfl, e139, (own_Iwarm hJ0 hwm), (by decide : 4 + 2 ≤ _), (by decide : 16 + 64 ≤ _)⟩)
        dsimp only [Pt.U, Pt.locs, Pt.cells, Pt.slots] at Xp156 hSp156 hgp156 l156 y156 z156 st156 hQ156
        subst l156 y156 z156
        obtain ⟨X156, hS156, hZ156, hown156⟩ := rebS hS0 (by rw [e139]; exact (Nat.le_trans hk0 (Nat.le_trans (Nat.le_trans (Nat.le_trans (Nat.le_trans (Nat.le_trans E106.1 (Keep.of_wr W111).1) (Keep.of_wr W117).1) (Keep.of_wr W123).1) E127.1) K1.1))) Xp156 hSp156 hgp156 hZ hown
        obtain ⟨r, rfl, N156q, K2, hr⟩ := hQ156
        have N156 := Fr.app N139 N156q
        have z157 : n0 ≤ T156.heap.size := Nat.le_trans z134 K2.1
        have K158 : Keep h0 T156.heap [] := K135.trans K2 all0
        have go156 : Go p e below E0 T156 m 138 #[(si p0), (si p1), (si p2), (si p3), (si 3), (si v5), (si v6), (si v7), (sr ca), (sr st), (si 0)] [(.int r)] := fun tgt kont => go155 tgt (st156.trans kont)
        rw [n5, n6, n7] at hr
        have hre : r = (0 : Int32) := by
          rcases hr with ⟨q, u⟩ | ⟨q, u⟩
          · exact absurd u.2.1 hx1
          · exact q
        have go159 : Go p e below E0 T156 m 148 #[(si p0), (si p1), (si p2), (si p3), (si 3), (si v5), (si v6), (si v7), (sr ca), (sr st), (si 0)] [(.int 1)] := fun tgt kont => go156 tgt (by
          refine XS.iload X156.here hx rfl (D at_138) rfl ?_; refine XS.icmpNo X156.here hx rfl (D at_140) rfl (teq hre).2 ?_; refine XS.iconst X156.here hx rfl (D at_143) ?_; refine XS.goto X156.here hx rfl (pc0 := 144) (pc' := 148) rfl (D at_144) (by decide) (by decide) ?_; exact kont)
        obtain ⟨fs, hr, hrun, hended, hW⟩ := X156.leaveW hS156 (Nat.le_refl _) (v := some (.int (1 : Int32))) (fun h => by rw [Bd.returns] at h; cases h)
        refine ⟨_, _, go159 _ ?_, hrun, hended, _, _, rfl, ?_, hW.1, hW.2.1, hW.2.2.1, hW.2.2.2.mono (by decide) (by decide)⟩
        · show Steps p.tables e below (T156.setTop (mkF m 148 #[(si p0), (si p1), (si p2), (si p3), (si 3), (si v5), (si v6), (si v7), (sr ca), (sr st), (si 0)] [(.int 1)])) _
          exact retN X156 hx (t := .boolean) Bd.returns (by simp) (D at_148) hr
        · show QL Z p0 p1 p2 p3 G fv h0 n0 _ T156.heap _ T156.vm
          exact ⟨rfl, N156⟩
    · have f160 : Old Z n0 T133.heap := (f131.keep K1 (allS ge_st all0))
      have go161 : Go p e below E0 T137 m 135 #[(si p0), (si p1), (si p2), (si p3), (si 3), (si v5), (si v6), (si v7), (sr ca), (sr st), (si 0)] [(.ref st)] := fun tgt kont => go137 tgt (by
        refine XS.ifYes X137.here hx rfl (pc0 := 95) (pc' := 130) rfl (D at_95) rfl ((if0 _ _).trans (teq rfl).1) (by decide) (by decide) ?_; refine XS.iconst X137.here hx rfl (D at_130) ?_; refine XS.istore X137.here hx rfl (D at_131) rfl (l' := #[(si p0), (si p1), (si p2), (si p3), (si 3), (si v5), (si v6), (si v7), (sr ca), (sr st), (si 0)]) rfl ?_; refine XS.aload X137.here hx rfl (D at_133) rfl rfl ?_; exact kont)
      obtain ⟨_, _, ⟨T162, L162, k162, n162⟩, -, Xp162, hSp162, hgp162, ⟨Lc162, hQ162, l162, y162, z162⟩, st162⟩ := callSS X137 hx (y := (⟨"com/example/ample_dispatch/ampledispatch/FieldValues", "isToken", "(Ljava/lang/String;)Z"⟩ : MethodName)) hown (mvT hZ (wd hw 23 rfl)) (mvT hZ (wd hw 24 rfl)) (mvT hZ (wd hw 25 rfl)) (mvT hZ (wd hw 26 rfl)) (by decide) (own_backJ (W := 0) (rmT3 l Z a0 hw [] st (nar .char v5) (nar .char v6) (nar .char v7) G fv T133.heap n0 z134 S1 k5 k6 k7 hH3 hCW W0 f160) hZ (wd hw 26 rfl) (wd hw 25 rfl) (by decide) (by decide)) (g := (mkF m 135 #[(si p0), (si p1), (si p2), (si p3), (si 3), (si v5), (si v6), (si v7), (sr ca), (sr st), (si 0)] [(.ref st)])) rfl (by rw [hml]; rfl) (argsL := [(.ref st)]) (rest := []) (lenOf pd_26 rfl) rfl (by show 2 * 0 + _ ≤ _; exact Nat.le_of_eq rfl) (D at_135) (fun _ hwm => ⟨rfl, e137, (own_Iwarm hJ0 hwm), (by decide : 4 + 2 ≤ _), (by decide : 16 + 64 ≤ _)⟩)
      dsimp only [Pt.U, Pt.locs, Pt.cells, Pt.slots] at Xp162 hSp162 hgp162 l162 y162 z162 st162 hQ162
      subst l162 y162 z162
      obtain ⟨X162, hS162, hZ162, hown162⟩ := rebS hS0 (by rw [e137]; exact (Nat.le_trans hk0 (Nat.le_trans (Nat.le_trans (Nat.le_trans (Nat.le_trans (Nat.le_trans E106.1 (Keep.of_wr W111).1) (Keep.of_wr W117).1) (Keep.of_wr W123).1) E127.1) K1.1))) Xp162 hSp162 hgp162 hZ hown
      obtain ⟨r, rfl, N162q, K2, hr⟩ := hQ162
      have N162 := Fr.app N137 N162q
      have z163 : n0 ≤ T162.heap.size := Nat.le_trans z134 K2.1
      have K164 : Keep h0 T162.heap [] := K135.trans K2 all0
      have go162 : Go p e below E0 T162 m 138 #[(si p0), (si p1), (si p2), (si p3), (si 3), (si v5), (si v6), (si v7), (sr ca), (sr st), (si 0)] [(.int r)] := fun tgt kont => go161 tgt (st162.trans kont)
      rw [n5, n6, n7] at hr
      have hre : r = (0 : Int32) := by
        rcases hr with ⟨q, u⟩ | ⟨q, u⟩
        · exact absurd u.1 hx0
        · exact q
      have go165 : Go p e below E0 T162 m 148 #[(si p0), (si p1), (si p2), (si p3), (si 3), (si v5), (si v6), (si v7), (sr ca), (sr st), (si 0)] [(.int 1)] := fun tgt kont => go162 tgt (by
        refine XS.iload X162.here hx rfl (D at_138) rfl ?_; refine XS.icmpNo X162.here hx rfl (D at_140) rfl (teq hre).2 ?_; refine XS.iconst X162.here hx rfl (D at_143) ?_; refine XS.goto X162.here hx rfl (pc0 := 144) (pc' := 148) rfl (D at_144) (by decide) (by decide) ?_; exact kont)
      obtain ⟨fs, hr, hrun, hended, hW⟩ := X162.leaveW hS162 (Nat.le_refl _) (v := some (.int (1 : Int32))) (fun h => by rw [Bd.returns] at h; cases h)
      refine ⟨_, _, go165 _ ?_, hrun, hended, _, _, rfl, ?_, hW.1, hW.2.1, hW.2.2.1, hW.2.2.2.mono (by decide) (by decide)⟩
      · show Steps p.tables e below (T162.setTop (mkF m 148 #[(si p0), (si p1), (si p2), (si p3), (si 3), (si v5), (si v6), (si v7), (sr ca), (sr st), (si 0)] [(.int 1)])) _
        exact retN X162 hx (t := .boolean) Bd.returns (by simp) (D at_148) hr
      · show QL Z p0 p1 p2 p3 G fv h0 n0 _ T162.heap _ T162.vm
        exact ⟨rfl, N162⟩
set_option maxRecDepth 65536 in
set_option maxHeartbeats 40000000 in
theorem comes_1 {Post : Tables → Env → Array Value → State → Outcome → State → Prop} (hpost : ∀ tb e args s v u, (limb_1_1.after args s (.returned v) u = true ∧ limb_1_2.after args s (.returned v) u = true ∧ True) → ReturnedEndW s (.returned v) u (Jvm.fieldLocs frame_1_writes args s ++ Jvm.arrayLocs frame_1_arrays args s ++ Jvm.staticLocs frame_1_statics s) 24 2176 → Post tb e args s (.returned v) u) :
    ArmFor flags0 classFile x code maxLocals ret World_1 tables_1 room_1 Calls_1 rest_1 Pre_1 Post := by
  intro l hfl _ _ p e ha hc hk s m args below hf hA hF happ hP
  obtain ⟨hcalls, hrest, hpre⟩ := hP
  obtain ⟨-, -, -, hnamed, -, -, -, hat⟩ := (Spec.applies_iff hf).mp happ
  obtain ⟨hg, hn⟩ := and_e (Cond.before_iff.mp (show (Jvm.Cond.and given_1 narrow_1).before args s = true from hpre))
  obtain ⟨h1, r0⟩ := and_e hg
  obtain ⟨t0, r1⟩ := and_e r0
  obtain ⟨t1, r2⟩ := and_e r1
  obtain ⟨t2, r3⟩ := and_e r2
  have t3 := r3
  obtain ⟨w0, w1, w2, w3, rfl⟩ : ∃ w0 w1 w2 w3 : Value, args = #[w0, w1, w2, w3] := by
    have hs : args.size = 4 := by simpa [Cond.value, given_1] using h1
    obtain ⟨L⟩ := args
    match L, hs with
    | [w0, w1, w2, w3], _ => exact ⟨w0, w1, w2, w3, rfl⟩
  have hw := fun d (hd : d ∈ tables_1) => atoms_spec (ws := Jvm.Cond.code x code maxLocals ret :: tables_1) hat d (List.mem_cons_of_mem _ hd)
  have hfit : Fit s := fun {y c} hc i hi => by
    obtain ⟨ha, rfl⟩ := Array.getElem?_eq_some_iff.mp hc
    have q := List.all_eq_true.mp ((Array.all_eq_true_iff_forall_mem.mp hF) _ (Array.getElem_mem ha)) i (List.mem_range.mpr hi)
    simpa [Array.getElem?_eq_getElem hi] using q
  obtain ⟨i0, e0⟩ := is_v t0
  obtain rfl : w0 = (.int i0) := Option.some.inj e0
  obtain ⟨i1, e1⟩ := is_v t1
  obtain rfl : w1 = (.int i1) := Option.some.inj e1
  obtain ⟨i2, e2⟩ := is_v t2
  obtain rfl : w2 = (.int i2) := Option.some.inj e2
  obtain ⟨i3, e3⟩ := is_v t3
  obtain rfl : w3 = (.int i3) := Option.some.inj e3
  obtain ⟨hsets, hown0⟩ := atoms_of _ (rest_1_c_eq ▸ (show rest_1_c.before _ s = true from hrest))
  have nC := not_v (Cond.before_iff.mp (hsets _ (List.mem_of_getElem? (i := 2) rfl)))
  obtain ⟨iC, eC⟩ := is_v (Cond.before_iff.mp (hsets _ (List.mem_of_getElem? (i := 1) rfl)))
  have SC : Sta s s.heap "java/lang/String" "COMPACT_STRINGS" "Z" (.int iC) := Sta.start eC (Or.inl (hsets _ (List.mem_of_getElem? (i := 0) rfl)))
  have cC : ¬ (iC = (0 : Int32)) := gotF (Cond.eq_ints eC (Term.int_eval (0))) nC
  have hH : Jvm.Lit.constHeld s "java/lang/String" 7 := hcalls.1 ("java/lang/String", 7) (by simp [consts_1])
  have hH3 : Jvm.Lit.constHeld s "com/example/ample_dispatch/ampledispatch/FieldValues" 30 := hcalls.1 ("com/example/ample_dispatch/ampledispatch/FieldValues", 30) (by simp [consts_1])
  have hCW : Jvm.Lit.compactW.before #[] s = true := hsets _ (List.mem_of_getElem? (i := 2) rfl)
  obtain ⟨fv, eF, hfv⟩ := isR_v (Cond.before_iff.mp (hsets _ (List.mem_of_getElem? (i := 8) rfl)))
  have W0 : own_W s iC fv := ⟨SC, cC, Sta.start eF (Or.inl (hsets _ (List.mem_of_getElem? (i := 7) rfl))), hfv, Sta.start (own_eqI (Cond.before_iff.mp (hsets _ (List.mem_of_getElem? (i := 12) rfl)))) (Or.inl (hsets _ (List.mem_of_getElem? (i := 11) rfl))), Sta.start (own_eqI (Cond.before_iff.mp (hsets _ (List.mem_of_getElem? (i := 15) rfl)))) (Or.inl (hsets _ (List.mem_of_getElem? (i := 14) rfl))), Sta.start (own_eqI (Cond.before_iff.mp (hsets _ (List.mem_of_getElem? (i := 18) rfl)))) (Or.inl (hsets _ (List.mem_of_getElem? (i := 17) rfl)))⟩
  obtain ⟨n, o, h1, h2, h3, _, L, rfl, ⟨rfl, N⟩, hq⟩ := rmL l s _ hw tables_1 i0 i1 i2 i3 iC fv  s.heap s.heap.size (Nat.le_refl _)  W0 (Old.start s) hH hH3 hCW p e ha hc hk s m _ below hf ((Spec.applies_iff_loose hf).mp happ).1 ⟨rfl, State.Warmed39.refl s, rfl, IB.start⟩ trivial
  refine ⟨n, _, h1, h2, h3, hpost _ _ _ _ _ _ ⟨Cond.after_iff.mpr rfl, Cond.after_iff.mpr (eq_i res_at (Term.int_eval (1)) rfl), trivial⟩ ⟨hq.1, hq.2.1, hq.2.2.1, (hq.2.2.2.sift fun y hy => Or.inr (N y hy)).mono (by decide) (by decide)⟩⟩
theorem main_1_1 : Claimed_1_1 := comes_1 fun _ _ _ _ _ _ h hF => ⟨h.1, hF⟩
theorem main_1_2 : Claimed_1_2 := comes_1 fun _ _ _ _ _ _ h hF => ⟨h.2.1, hF⟩
end Jvm.Pilot.@@N@@
namespace Jvm.Pilot.@@N@@
open Jvm Jvm.ClassFile Sem Op Lib Jvm.Free Jvm.Stand Jvm.Pilot.@@N@@.Jvm.D
/-! MADE BY PROGRAM (witnessworld.py) out of the Statement's table words and the real class files: 21 classes; the members and pool entries that the words name. The judged class is class 1, her method 2. -/
namespace start1
open Jvm.ClassFile
def u (s : String) : CpInfo := .utf8 (stringToUtf16 s)
/-- a pool by its gaps: so many unusable entries, then the entry; so many at the end -/
def gap : Nat → List CpInfo → List CpInfo
  | 0, r => r
  | n + 1, r => .unusable :: gap n r
def poolList (es : List (Nat × CpInfo)) (last : Nat) : List CpInfo := es.foldr (fun e r => gap e.1 (e.2 :: r)) (gap last [])
def pool (es : List (Nat × CpInfo)) (last : Nat) : Array CpInfo := ⟨poolList es last⟩
def fileOf (pool : Array CpInfo) (this : Nat) (attrs : Array Attribute := #[]) (ms : Array MethodInfo := #[]) (fl : Nat := 33) (sup : Nat := 0) (ifs : Array Nat := #[]) (fds : Array FieldInfo := #[]) : ClassFile where
  minorVersion := 0
  majorVersion := 65
  constantPool := pool
  accessFlags := fl
  thisClass := this
  superClass := sup
  interfaces := ifs
  fields := fds
  methods := ms
  attributes := attrs
def plain (name : String) (sup : Option ClassId) : Class where
  name := name
  kind := .ordinary
  loader := none
  accessFlags := 33
  super := sup
  interfaces := #[]
  cf := none
  fields := #[]
  methods := #[]
  instanceTypes := #[]
  staticTypes := #[]
  resolved := #[]
  callSites := []
  init := .initialized
  statics := none
  mirror := none

def pool0 : Array CpInfo := pool [(5, u "<init>"), (0, u "()V"), (1, .class_ 10), (1, u "java/lang/Object")] 113

def k0c0 : Code := { maxStack := 0, maxLocals := 1, code := object_method_1_code, exceptionTable := #[], attributes := #[] }
def k0m0 : Method := { name := "<init>", desc := "()V", sig := { parameters := [], returnType := none }, accessFlags := 1, code := some k0c0 }
/-- java/lang/Object -/
def k0 : Class := { plain "java/lang/Object" none with
  accessFlags := 33
  interfaces := #[]
  cf := some (fileOf pool0 8 #[] #[{ accessFlags := 1, nameIndex := 5, descriptorIndex := 6, attributes := #[] }] 33 0 #[] #[])
  fields := #[]
  methods := #[k0m0]
  instanceTypes := #[]
  staticTypes := #[]
  resolved := Array.replicate 124 none
  statics := none }

def pool1 : Array CpInfo := pool [(2, .class_ 4), (1, u "java/lang/Object"), (0, u "<init>"), (0, u "()V"), (0, .integer 65535), (0, .class_ 9), (0, u "java/lang/String"), (0, .methodref 8 11), (0, .nameAndType 5 12), (0, u "([C)V"), (0, .methodref 14 15), (0, .class_ 16), (0, .nameAndType 17 18), (0, u "com/example/ample_dispatch/ampledispatch/FieldValuesIsTokenPinLaw"), (0, u "tchar"), (0, u "(I)Z"), (0, .methodref 20 21), (0, .class_ 22), (0, .nameAndType 23 24), (0, u "com/example/ample_dispatch/ampledispatch/FieldValues"), (0, u "isToken"), (0, u "(Ljava/lang/String;)Z"), (3, u "law"), (0, u "(IIII)Z")] 4

def k1m0 : Method := { name := "<init>", desc := "()V", sig := { parameters := [], returnType := none }, accessFlags := 2, code := none }
def k1c1 : Code := { maxStack := 2, maxLocals := 1, code := method_2_code, exceptionTable := #[], attributes := #[] }
def k1m1 : Method := { name := "tchar", desc := "(I)Z", sig := { parameters := [.int], returnType := some .boolean }, accessFlags := 10, code := some k1c1 }
def k1c2 : Code := { maxStack := 3, maxLocals := 11, code := code, exceptionTable := #[], attributes := #[] }
def k1m2 : Method := { name := "law", desc := "(IIII)Z", sig := { parameters := [.int, .int, .int, .int], returnType := some .boolean }, accessFlags := 9, code := some k1c2 }
/-- com/example/ample_dispatch/ampledispatch/FieldValuesIsTokenPinLaw -/
def k1 : Class := { plain "com/example/ample_dispatch/ampledispatch/FieldValuesIsTokenPinLaw" (some 0) with
  accessFlags := 49
  interfaces := #[]
  cf := some (fileOf pool1 14 #[] #[{ accessFlags := 2, nameIndex := 5, descriptorIndex := 6, attributes := #[] }, { accessFlags := 10, nameIndex := 17, descriptorIndex := 18, attributes := #[] }, { accessFlags := 9, nameIndex := 28, descriptorIndex := 29, attributes := #[] }] 49 2 #[] #[])
  fields := #[]
  methods := #[k1m0, k1m1, k1m2]
  instanceTypes := #[]
  staticTypes := #[]
  resolved := Array.replicate 34 none
  statics := none }

def pool2 : Array CpInfo := pool [(1, .class_ 2), (0, u "java/io/Serializable"), (0, .class_ 4), (0, u "java/lang/Object")] 2

/-- java/io/Serializable -/
def k2 : Class := { plain "java/io/Serializable" (some 0) with
  accessFlags := 1537
  interfaces := #[]
  cf := some (fileOf pool2 1 #[] #[] 1537 3 #[] #[])
  fields := #[]
  methods := #[]
  instanceTypes := #[]
  staticTypes := #[]
  resolved := Array.replicate 7 none
  statics := none }

def pool3 : Array CpInfo := pool [(1, .class_ 2), (0, u "java/lang/Comparable"), (0, .class_ 4), (0, u "java/lang/Object")] 7

/-- java/lang/Comparable -/
def k3 : Class := { plain "java/lang/Comparable" (some 0) with
  accessFlags := 1537
  interfaces := #[]
  cf := some (fileOf pool3 1 #[] #[] 1537 3 #[] #[])
  fields := #[]
  methods := #[]
  instanceTypes := #[]
  staticTypes := #[]
  resolved := Array.replicate 12 none
  statics := none }

def pool4 : Array CpInfo := pool [(2, .class_ 4), (1, u "java/lang/CharSequence"), (42, .class_ 48), (0, u "java/lang/CharSequence$1CodePointIterator"), (10, .class_ 60), (0, u "java/lang/CharSequence$1CharIterator"), (5, .class_ 67), (0, u "java/lang/Object")] 63

/-- java/lang/CharSequence -/
def k4 : Class := { plain "java/lang/CharSequence" (some 0) with
  accessFlags := 1537
  interfaces := #[]
  cf := some (fileOf pool4 2 #[.nestMembers #[47, 59]] #[] 1537 66 #[] #[])
  fields := #[]
  methods := #[]
  instanceTypes := #[]
  staticTypes := #[]
  resolved := Array.replicate 131 none
  statics := none }

def pool5 : Array CpInfo := pool [(1, .class_ 2), (0, u "java/lang/constant/Constable"), (0, .class_ 4), (0, u "java/lang/Object")] 6

/-- java/lang/constant/Constable -/
def k5 : Class := { plain "java/lang/constant/Constable" (some 0) with
  accessFlags := 1537
  interfaces := #[]
  cf := some (fileOf pool5 1 #[] #[] 1537 3 #[] #[])
  fields := #[]
  methods := #[]
  instanceTypes := #[]
  staticTypes := #[]
  resolved := Array.replicate 11 none
  statics := none }

def pool6 : Array CpInfo := pool [(1, .class_ 2), (0, u "java/lang/constant/ConstantDesc"), (0, .class_ 4), (0, u "java/lang/Object")] 32

/-- java/lang/constant/ConstantDesc -/
def k6 : Class := { plain "java/lang/constant/ConstantDesc" (some 0) with
  accessFlags := 1537
  interfaces := #[]
  cf := some (fileOf pool6 1 #[] #[] 1537 3 #[] #[])
  fields := #[]
  methods := #[]
  instanceTypes := #[]
  staticTypes := #[]
  resolved := Array.replicate 37 none
  statics := none }

def pool7 : Array CpInfo := pool [(1, .methodref 2 3), (0, .class_ 4), (0, .nameAndType 5 6), (0, u "java/lang/Object"), (0, u "<init>"), (0, u "()V"), (0, .string 8), (0, u ""), (0, .fieldref 10 11), (0, .class_ 12), (0, .nameAndType 13 14), (0, u "java/lang/String"), (0, u "value"), (0, u "[B"), (0, .fieldref 10 16), (0, .nameAndType 17 18), (0, u "coder"), (0, u "B"), (2, u "hash"), (0, u "I"), (2, u "hashIsZero"), (0, u "Z"), (0, .methodref 10 28), (0, .nameAndType 5 29), (0, u "([CIILjava/lang/Void;)V"), (8, .fieldref 10 39), (0, .nameAndType 40 26), (0, u "COMPACT_STRINGS"), (1, .class_ 44), (1, u "java/lang/StringUTF16"), (0, u "compress"), (1, .methodref 42 48), (0, .nameAndType 49 50), (0, u "coderFromArrayLen"), (0, u "([BI)B"), (56, .class_ 109), (1, u "java/lang/StringLatin1"), (32, u "()Z"), (34, .methodref 42 178), (0, .nameAndType 45 179), (0, u "([CII)[B"), (154, u "()I"), (0, .methodref 10 336), (0, .nameAndType 17 337), (0, u "()B"), (25, u "([BI)C"), (27, u "(II)V"), (35, u "(I)C"), (64, .methodref 10 493), (0, .nameAndType 494 142), (0, u "isLatin1"), (0, .methodref 107 496), (0, .nameAndType 497 363), (0, u "charAt"), (0, .methodref 42 496), (2, u "checkIndex"), (3, .methodref 10 506), (0, .nameAndType 507 334), (0, u "length"), (67, .class_ 576), (0, u "java/lang/CharSequence"), (22, u "CASE_INSENSITIVE_ORDER"), (0, u "Ljava/util/Comparator;"), (32, .methodref 10 634), (0, .nameAndType 635 636), (0, u "indexOf"), (0, u "(II)I"), (0, .methodref 107 638), (0, .nameAndType 635 639), (0, u "([BIII)I"), (52, u "isEmpty"), (72, u "(I)I"), (244, u "([C)V"), (42, .fieldref 1054 1055), (0, .class_ 1056), (0, .nameAndType 1057 1058), (0, u "jdk/internal/util/Preconditions"), (0, u "SIOOBE_FORMATTER"), (0, u "Ljava/util/function/BiFunction;"), (0, .methodref 1054 1060), (0, .nameAndType 501 1061), (0, u "(IILjava/util/function/BiFunction;)I"), (39, u "serialPersistentFields"), (0, u "[Ljava/io/ObjectStreamField;"), (0, .class_ 1104), (0, u "java/lang/String$CaseInsensitiveComparator"), (1, .class_ 1107), (0, u "java/io/Serializable"), (0, .class_ 1109), (0, u "java/lang/Comparable"), (0, .class_ 1111), (0, u "java/lang/constant/Constable"), (0, .class_ 1113), (0, u "java/lang/constant/ConstantDesc"), (2, u "serialVersionUID"), (0, u "J"), (3, u "REPL"), (0, u "C"), (2, u "LATIN1"), (1, u "UTF16")] 323

def k7m0 : Method := { name := "<init>", desc := "()V", sig := { parameters := [], returnType := none }, accessFlags := 1, code := none }
def k7c1 : Code := { maxStack := 5, maxLocals := 2, code := jdk_42_method_3_code, exceptionTable := #[], attributes := #[] }
def k7m1 : Method := { name := "<init>", desc := "([C)V", sig := { parameters := [(.array .char)], returnType := none }, accessFlags := 1, code := some k7c1 }
def k7c2 : Code := { maxStack := 2, maxLocals := 1, code := jdk_42_method_54_code, exceptionTable := #[], attributes := #[] }
def k7m2 : Method := { name := "length", desc := "()I", sig := { parameters := [], returnType := some .int }, accessFlags := 1, code := some k7c2 }
def k7c3 : Code := { maxStack := 1, maxLocals := 1, code := jdk_42_method_55_code, exceptionTable := #[], attributes := #[] }
def k7m3 : Method := { name := "isEmpty", desc := "()Z", sig := { parameters := [], returnType := some .boolean }, accessFlags := 1, code := some k7c3 }
def k7c4 : Code := { maxStack := 2, maxLocals := 2, code := jdk_42_method_56_code, exceptionTable := #[], attributes := #[] }
def k7m4 : Method := { name := "charAt", desc := "(I)C", sig := { parameters := [.int], returnType := some .char }, accessFlags := 1, code := some k7c4 }
def k7c5 : Code := { maxStack := 3, maxLocals := 2, code := jdk_42_method_79_code, exceptionTable := #[], attributes := #[] }
def k7m5 : Method := { name := "indexOf", desc := "(I)I", sig := { parameters := [.int], returnType := some .int }, accessFlags := 1, code := some k7c5 }
def k7c6 : Code := { maxStack := 4, maxLocals := 3, code := jdk_42_method_80_code, exceptionTable := #[], attributes := #[] }
def k7m6 : Method := { name := "indexOf", desc := "(II)I", sig := { parameters := [.int, .int], returnType := some .int }, accessFlags := 1, code := some k7c6 }
def k7c7 : Code := { maxStack := 4, maxLocals := 6, code := jdk_42_method_149_code, exceptionTable := #[], attributes := #[] }
def k7m7 : Method := { name := "<init>", desc := "([CIILjava/lang/Void;)V", sig := { parameters := [(.array .char), .int, .int, (.object "java/lang/Void")], returnType := none }, accessFlags := 2, code := some k7c7 }
def k7c8 : Code := { maxStack := 1, maxLocals := 1, code := jdk_42_method_152_code, exceptionTable := #[], attributes := #[] }
def k7m8 : Method := { name := "coder", desc := "()B", sig := { parameters := [], returnType := some .byte }, accessFlags := 0, code := some k7c8 }
def k7c9 : Code := { maxStack := 1, maxLocals := 1, code := jdk_42_method_154_code, exceptionTable := #[], attributes := #[] }
def k7m9 : Method := { name := "isLatin1", desc := "()Z", sig := { parameters := [], returnType := some .boolean }, accessFlags := 0, code := some k7c9 }
def k7c10 : Code := { maxStack := 3, maxLocals := 2, code := jdk_42_method_155_code, exceptionTable := #[], attributes := #[] }
def k7m10 : Method := { name := "checkIndex", desc := "(II)V", sig := { parameters := [.int, .int], returnType := none }, accessFlags := 8, code := some k7c10 }
/-- java/lang/String -/
def k7 : Class := { plain "java/lang/String" (some 0) with
  accessFlags := 49
  interfaces := #[2, 3, 4, 5, 6]
  cf := some (fileOf pool7 10 #[.nestMembers #[1103]] #[{ accessFlags := 1, nameIndex := 5, descriptorIndex := 6, attributes := #[] }, { accessFlags := 1, nameIndex := 5, descriptorIndex := 1010, attributes := #[] }, { accessFlags := 1, nameIndex := 507, descriptorIndex := 334, attributes := #[] }, { accessFlags := 1, nameIndex := 692, descriptorIndex := 142, attributes := #[] }, { accessFlags := 1, nameIndex := 497, descriptorIndex := 427, attributes := #[] }, { accessFlags := 1, nameIndex := 635, descriptorIndex := 765, attributes := #[] }, { accessFlags := 1, nameIndex := 635, descriptorIndex := 636, attributes := #[] }, { accessFlags := 2, nameIndex := 5, descriptorIndex := 29, attributes := #[] }, { accessFlags := 0, nameIndex := 17, descriptorIndex := 337, attributes := #[] }, { accessFlags := 0, nameIndex := 494, descriptorIndex := 142, attributes := #[] }, { accessFlags := 8, nameIndex := 501, descriptorIndex := 391, attributes := #[] }] 49 2 #[1106, 1108, 575, 1110, 1112] #[{ accessFlags := 18, nameIndex := 13, descriptorIndex := 14, attributes := #[] }, { accessFlags := 18, nameIndex := 17, descriptorIndex := 18, attributes := #[] }, { accessFlags := 2, nameIndex := 21, descriptorIndex := 22, attributes := #[] }, { accessFlags := 2, nameIndex := 25, descriptorIndex := 26, attributes := #[] }, { accessFlags := 26, nameIndex := 1116, descriptorIndex := 1117, attributes := #[] }, { accessFlags := 24, nameIndex := 40, descriptorIndex := 26, attributes := #[] }, { accessFlags := 26, nameIndex := 1101, descriptorIndex := 1102, attributes := #[] }, { accessFlags := 26, nameIndex := 1121, descriptorIndex := 1122, attributes := #[] }, { accessFlags := 25, nameIndex := 599, descriptorIndex := 600, attributes := #[] }, { accessFlags := 24, nameIndex := 1125, descriptorIndex := 18, attributes := #[] }, { accessFlags := 24, nameIndex := 1127, descriptorIndex := 18, attributes := #[] }])
  fields := #[{ name := "value", type := (.array .byte), accessFlags := 18, slot := 0, constantValue := 0 }, { name := "coder", type := .byte, accessFlags := 18, slot := 1, constantValue := 0 }, { name := "hash", type := .int, accessFlags := 2, slot := 2, constantValue := 0 }, { name := "hashIsZero", type := .boolean, accessFlags := 2, slot := 3, constantValue := 0 }, { name := "serialVersionUID", type := .long, accessFlags := 26, slot := 0, constantValue := 0 }, { name := "COMPACT_STRINGS", type := .boolean, accessFlags := 24, slot := 1, constantValue := 0 }, { name := "serialPersistentFields", type := (.array (.object "java/io/ObjectStreamField")), accessFlags := 26, slot := 2, constantValue := 0 }, { name := "REPL", type := .char, accessFlags := 26, slot := 3, constantValue := 0 }, { name := "CASE_INSENSITIVE_ORDER", type := (.object "java/util/Comparator"), accessFlags := 25, slot := 4, constantValue := 0 }, { name := "LATIN1", type := .byte, accessFlags := 24, slot := 5, constantValue := 0 }, { name := "UTF16", type := .byte, accessFlags := 24, slot := 6, constantValue := 0 }]
  methods := #[k7m0, k7m1, k7m2, k7m3, k7m4, k7m5, k7m6, k7m7, k7m8, k7m9, k7m10]
  instanceTypes := #[(.array .byte), .byte, .int, .boolean]
  staticTypes := #[.long, .boolean, (.array (.object "java/io/ObjectStreamField")), .char, (.object "java/util/Comparator"), .byte, .byte]
  resolved := Array.replicate 1451 none
  statics := some 0 }

def pool8 : Array CpInfo := pool [(2, .class_ 4), (1, u "java/lang/Object"), (0, u "<init>"), (0, u "()V"), (3, .methodref 11 12), (0, .class_ 13), (0, .nameAndType 14 15), (0, u "java/lang/String"), (0, u "length"), (0, u "()I"), (0, .methodref 11 17), (0, .nameAndType 18 19), (0, u "charAt"), (0, u "(I)C"), (1, .class_ 23), (1, u "com/example/ample_dispatch/ampledispatch/FieldValues"), (6, .string 31), (0, u "!#$%&'*+-.^_`|~"), (0, .methodref 11 33), (0, .nameAndType 34 35), (0, u "indexOf"), (0, u "(I)I"), (0, .methodref 11 37), (0, .nameAndType 38 39), (0, u "isEmpty"), (0, u "()Z"), (22, u "isToken"), (0, u "(Ljava/lang/String;)Z")] 3

def k8m0 : Method := { name := "<init>", desc := "()V", sig := { parameters := [], returnType := none }, accessFlags := 2, code := none }
def k8c1 : Code := { maxStack := 2, maxLocals := 4, code := prog_11_method_4_code, exceptionTable := #[], attributes := #[] }
def k8m1 : Method := { name := "isToken", desc := "(Ljava/lang/String;)Z", sig := { parameters := [(.object "java/lang/String")], returnType := some .boolean }, accessFlags := 8, code := some k8c1 }
/-- com/example/ample_dispatch/ampledispatch/FieldValues -/
def k8 : Class := { plain "com/example/ample_dispatch/ampledispatch/FieldValues" (some 0) with
  accessFlags := 48
  interfaces := #[]
  cf := some (fileOf pool8 21 #[] #[{ accessFlags := 2, nameIndex := 5, descriptorIndex := 6, attributes := #[] }, { accessFlags := 8, nameIndex := 62, descriptorIndex := 63, attributes := #[] }] 48 2 #[] #[])
  fields := #[]
  methods := #[k8m0, k8m1]
  instanceTypes := #[]
  staticTypes := #[]
  resolved := Array.replicate 67 none
  statics := none }

def pool9 : Array CpInfo := pool [(3, .class_ 4), (0, u "java/lang/String"), (1, .class_ 8), (1, u "java/lang/Object"), (0, u "<init>"), (0, u "()V"), (0, .methodref 12 13), (0, .class_ 14), (0, .nameAndType 15 16), (0, u "java/lang/StringUTF16"), (0, u "newBytesLength"), (0, u "(I)I"), (3, .integer 1073741823), (23, .fieldref 12 45), (0, .nameAndType 46 47), (0, u "$assertionsDisabled"), (0, u "Z"), (0, .methodref 12 49), (0, .nameAndType 50 51), (0, u "length"), (0, u "([B)I"), (7, .fieldref 12 60), (0, .nameAndType 61 62), (0, u "HI_BYTE_SHIFT"), (0, u "I"), (0, .fieldref 12 64), (0, .nameAndType 65 62), (0, u "LO_BYTE_SHIFT"), (1, .methodref 12 68), (0, .nameAndType 69 70), (0, u "checkIndex"), (0, u "(I[B)V"), (0, .methodref 12 72), (0, .nameAndType 73 74), (0, u "getChar"), (0, u "([BI)C"), (32, .methodref 12 108), (0, .nameAndType 109 110), (0, u "newBytesFor"), (0, u "(I)[B"), (0, .methodref 12 112), (0, .nameAndType 113 114), (0, u "putChar"), (0, u "([BII)V"), (0, .methodref 12 116), (0, .nameAndType 117 118), (0, u "compress"), (0, u "([CI[BII)I"), (0, .methodref 12 120), (0, .nameAndType 121 122), (0, u "toBytes"), (0, u "([CII)[B"), (138, u "coderFromArrayLen"), (0, u "([BI)B"), (106, .class_ 371), (1, u "java/lang/StringUTF16$LinesSpliterator"), (20, u "charAt"), (21, .methodref 3 415), (0, .nameAndType 69 416), (0, u "(II)V"), (13, u "MAX_LENGTH"), (196, .class_ 628), (0, u "java/lang/StringUTF16$CodePointsSpliterator"), (0, .class_ 630), (0, u "java/lang/StringUTF16$CharsSpliterator")] 4

def k9m0 : Method := { name := "<init>", desc := "()V", sig := { parameters := [], returnType := none }, accessFlags := 0, code := none }
def k9c1 : Code := { maxStack := 1, maxLocals := 1, code := jdk_52_method_2_code, exceptionTable := #[], attributes := #[] }
def k9m1 : Method := { name := "newBytesFor", desc := "(I)[B", sig := { parameters := [.int], returnType := some (.array .byte) }, accessFlags := 9, code := some k9c1 }
def k9c2 : Code := { maxStack := 4, maxLocals := 1, code := jdk_52_method_3_code, exceptionTable := #[], attributes := #[] }
def k9m2 : Method := { name := "newBytesLength", desc := "(I)I", sig := { parameters := [.int], returnType := some .int }, accessFlags := 9, code := some k9c2 }
def k9c3 : Code := { maxStack := 4, maxLocals := 3, code := jdk_52_method_4_code, exceptionTable := #[], attributes := #[] }
def k9m3 : Method := { name := "putChar", desc := "([BII)V", sig := { parameters := [(.array .byte), .int, .int], returnType := none }, accessFlags := 8, code := some k9c3 }
def k9c4 : Code := { maxStack := 3, maxLocals := 2, code := jdk_52_method_5_code, exceptionTable := #[], attributes := #[] }
def k9m4 : Method := { name := "getChar", desc := "([BI)C", sig := { parameters := [(.array .byte), .int], returnType := some .char }, accessFlags := 8, code := some k9c4 }
def k9c5 : Code := { maxStack := 2, maxLocals := 1, code := jdk_52_method_6_code, exceptionTable := #[], attributes := #[] }
def k9m5 : Method := { name := "length", desc := "([B)I", sig := { parameters := [(.array .byte)], returnType := some .int }, accessFlags := 9, code := some k9c5 }
def k9c6 : Code := { maxStack := 4, maxLocals := 5, code := jdk_52_method_14_code, exceptionTable := #[], attributes := #[] }
def k9m6 : Method := { name := "toBytes", desc := "([CII)[B", sig := { parameters := [(.array .char), .int, .int], returnType := some (.array .byte) }, accessFlags := 9, code := some k9c6 }
def k9c7 : Code := { maxStack := 2, maxLocals := 2, code := jdk_52_method_15_code, exceptionTable := #[], attributes := #[] }
def k9m7 : Method := { name := "coderFromArrayLen", desc := "([BI)B", sig := { parameters := [(.array .byte), .int], returnType := some .byte }, accessFlags := 8, code := some k9c7 }
def k9c8 : Code := { maxStack := 5, maxLocals := 6, code := jdk_52_method_16_code, exceptionTable := #[], attributes := #[] }
def k9m8 : Method := { name := "compress", desc := "([CII)[B", sig := { parameters := [(.array .char), .int, .int], returnType := some (.array .byte) }, accessFlags := 9, code := some k9c8 }
def k9c9 : Code := { maxStack := 3, maxLocals := 7, code := jdk_52_method_21_code, exceptionTable := #[], attributes := #[] }
def k9m9 : Method := { name := "compress", desc := "([CI[BII)I", sig := { parameters := [(.array .char), .int, (.array .byte), .int, .int], returnType := some .int }, accessFlags := 9, code := some k9c9 }
def k9c10 : Code := { maxStack := 2, maxLocals := 2, code := jdk_52_method_83_code, exceptionTable := #[], attributes := #[] }
def k9m10 : Method := { name := "charAt", desc := "([BI)C", sig := { parameters := [(.array .byte), .int], returnType := some .char }, accessFlags := 9, code := some k9c10 }
def k9c11 : Code := { maxStack := 2, maxLocals := 2, code := jdk_52_method_91_code, exceptionTable := #[], attributes := #[] }
def k9m11 : Method := { name := "checkIndex", desc := "(I[B)V", sig := { parameters := [.int, (.array .byte)], returnType := none }, accessFlags := 9, code := some k9c11 }
/-- java/lang/StringUTF16 -/
def k9 : Class := { plain "java/lang/StringUTF16" (some 0) with
  accessFlags := 48
  interfaces := #[]
  cf := some (fileOf pool9 12 #[.nestMembers #[627, 629, 369]] #[{ accessFlags := 0, nameIndex := 9, descriptorIndex := 10, attributes := #[] }, { accessFlags := 9, nameIndex := 109, descriptorIndex := 110, attributes := #[] }, { accessFlags := 9, nameIndex := 15, descriptorIndex := 16, attributes := #[] }, { accessFlags := 8, nameIndex := 113, descriptorIndex := 114, attributes := #[] }, { accessFlags := 8, nameIndex := 73, descriptorIndex := 74, attributes := #[] }, { accessFlags := 9, nameIndex := 50, descriptorIndex := 51, attributes := #[] }, { accessFlags := 9, nameIndex := 121, descriptorIndex := 122, attributes := #[] }, { accessFlags := 8, nameIndex := 261, descriptorIndex := 262, attributes := #[] }, { accessFlags := 9, nameIndex := 117, descriptorIndex := 122, attributes := #[] }, { accessFlags := 9, nameIndex := 117, descriptorIndex := 118, attributes := #[] }, { accessFlags := 9, nameIndex := 392, descriptorIndex := 74, attributes := #[] }, { accessFlags := 9, nameIndex := 69, descriptorIndex := 70, attributes := #[] }] 48 6 #[] #[{ accessFlags := 26, nameIndex := 61, descriptorIndex := 62, attributes := #[] }, { accessFlags := 26, nameIndex := 65, descriptorIndex := 62, attributes := #[] }, { accessFlags := 24, nameIndex := 430, descriptorIndex := 62, attributes := #[] }, { accessFlags := 4120, nameIndex := 46, descriptorIndex := 47, attributes := #[] }])
  fields := #[{ name := "HI_BYTE_SHIFT", type := .int, accessFlags := 26, slot := 0, constantValue := 0 }, { name := "LO_BYTE_SHIFT", type := .int, accessFlags := 26, slot := 1, constantValue := 0 }, { name := "MAX_LENGTH", type := .int, accessFlags := 24, slot := 2, constantValue := 0 }, { name := "$assertionsDisabled", type := .boolean, accessFlags := 4120, slot := 3, constantValue := 0 }]
  methods := #[k9m0, k9m1, k9m2, k9m3, k9m4, k9m5, k9m6, k9m7, k9m8, k9m9, k9m10, k9m11]
  instanceTypes := #[]
  staticTypes := #[.int, .int, .int, .boolean]
  resolved := Array.replicate 635 none
  statics := some 1 }

def pool10 : Array CpInfo := pool [(1, .class_ 2), (0, u "java/lang/String"), (1, .class_ 6), (1, u "java/lang/Object"), (0, u "<init>"), (0, u "()V"), (0, .methodref 1 10), (0, .nameAndType 11 12), (0, u "checkIndex"), (0, u "(II)V"), (1, .class_ 16), (1, u "java/lang/StringLatin1"), (21, .methodref 39 40), (0, .class_ 41), (0, .nameAndType 42 43), (0, u "java/lang/Math"), (0, u "min"), (0, u "(II)I"), (9, u "([BI)C"), (34, .methodref 14 89), (0, .nameAndType 90 91), (0, u "canEncode"), (0, u "(I)Z"), (0, .methodref 39 93), (0, .nameAndType 94 43), (0, u "max"), (0, .methodref 14 96), (0, .nameAndType 97 98), (0, u "indexOfChar"), (0, u "([BIII)I"), (2, u "indexOf"), (19, u "$assertionsDisabled"), (0, u "Z"), (98, .class_ 223), (1, u "java/lang/StringLatin1$LinesSpliterator"), (28, u "charAt"), (137, .class_ 391), (0, u "java/lang/StringLatin1$CharsSpliterator")] 3

def k10m0 : Method := { name := "<init>", desc := "()V", sig := { parameters := [], returnType := none }, accessFlags := 0, code := none }
def k10c1 : Code := { maxStack := 2, maxLocals := 2, code := jdk_43_method_2_code, exceptionTable := #[], attributes := #[] }
def k10m1 : Method := { name := "charAt", desc := "([BI)C", sig := { parameters := [(.array .byte), .int], returnType := some .char }, accessFlags := 9, code := some k10c1 }
def k10c2 : Code := { maxStack := 2, maxLocals := 1, code := jdk_43_method_4_code, exceptionTable := #[], attributes := #[] }
def k10m2 : Method := { name := "canEncode", desc := "(I)Z", sig := { parameters := [.int], returnType := some .boolean }, accessFlags := 9, code := some k10c2 }
def k10c3 : Code := { maxStack := 4, maxLocals := 4, code := jdk_43_method_22_code, exceptionTable := #[], attributes := #[] }
def k10m3 : Method := { name := "indexOf", desc := "([BIII)I", sig := { parameters := [(.array .byte), .int, .int, .int], returnType := some .int }, accessFlags := 9, code := some k10c3 }
def k10c4 : Code := { maxStack := 2, maxLocals := 6, code := jdk_43_method_23_code, exceptionTable := #[], attributes := #[] }
def k10m4 : Method := { name := "indexOfChar", desc := "([BIII)I", sig := { parameters := [(.array .byte), .int, .int, .int], returnType := some .int }, accessFlags := 10, code := some k10c4 }
/-- java/lang/StringLatin1 -/
def k10 : Class := { plain "java/lang/StringLatin1" (some 0) with
  accessFlags := 48
  interfaces := #[]
  cf := some (fileOf pool10 14 #[.nestMembers #[390, 221]] #[{ accessFlags := 0, nameIndex := 7, descriptorIndex := 8, attributes := #[] }, { accessFlags := 9, nameIndex := 252, descriptorIndex := 53, attributes := #[] }, { accessFlags := 9, nameIndex := 90, descriptorIndex := 91, attributes := #[] }, { accessFlags := 9, nameIndex := 101, descriptorIndex := 98, attributes := #[] }, { accessFlags := 10, nameIndex := 97, descriptorIndex := 98, attributes := #[] }] 48 4 #[] #[{ accessFlags := 4120, nameIndex := 121, descriptorIndex := 122, attributes := #[] }])
  fields := #[{ name := "$assertionsDisabled", type := .boolean, accessFlags := 4120, slot := 0, constantValue := 0 }]
  methods := #[k10m0, k10m1, k10m2, k10m3, k10m4]
  instanceTypes := #[]
  staticTypes := #[.boolean]
  resolved := Array.replicate 395 none
  statics := none }

def pool11 : Array CpInfo := pool [(2, .class_ 4), (1, u "java/lang/Object"), (0, u "<init>"), (0, u "()V"), (17, .class_ 26), (1, u "jdk/internal/util/Preconditions"), (6, u "checkIndex"), (21, .class_ 56), (0, u "jdk/internal/util/Preconditions$4"), (57, .class_ 115), (0, u "jdk/internal/util/Preconditions$1"), (7, u "SIOOBE_FORMATTER"), (0, u "Ljava/util/function/BiFunction;"), (0, .class_ 126), (0, u "jdk/internal/util/Preconditions$2"), (3, u "AIOOBE_FORMATTER"), (0, .class_ 132), (0, u "jdk/internal/util/Preconditions$3"), (3, u "IOOBE_FORMATTER"), (41, u "(IILjava/util/function/BiFunction;)I")] 15

def k11m0 : Method := { name := "<init>", desc := "()V", sig := { parameters := [], returnType := none }, accessFlags := 1, code := none }
def k11c1 : Code := { maxStack := 3, maxLocals := 3, code := jdk_41_method_11_code, exceptionTable := #[], attributes := #[] }
def k11m1 : Method := { name := "checkIndex", desc := "(IILjava/util/function/BiFunction;)I", sig := { parameters := [.int, .int, (.object "java/util/function/BiFunction")], returnType := some .int }, accessFlags := 9, code := some k11c1 }
/-- jdk/internal/util/Preconditions -/
def k11 : Class := { plain "jdk/internal/util/Preconditions" (some 0) with
  accessFlags := 33
  interfaces := #[]
  cf := some (fileOf pool11 24 #[.nestMembers #[55, 131, 125, 114]] #[{ accessFlags := 1, nameIndex := 5, descriptorIndex := 6, attributes := #[] }, { accessFlags := 9, nameIndex := 33, descriptorIndex := 178, attributes := #[] }] 33 2 #[] #[{ accessFlags := 25, nameIndex := 123, descriptorIndex := 124, attributes := #[] }, { accessFlags := 25, nameIndex := 130, descriptorIndex := 124, attributes := #[] }, { accessFlags := 25, nameIndex := 136, descriptorIndex := 124, attributes := #[] }])
  fields := #[{ name := "SIOOBE_FORMATTER", type := (.object "java/util/function/BiFunction"), accessFlags := 25, slot := 0, constantValue := 0 }, { name := "AIOOBE_FORMATTER", type := (.object "java/util/function/BiFunction"), accessFlags := 25, slot := 1, constantValue := 0 }, { name := "IOOBE_FORMATTER", type := (.object "java/util/function/BiFunction"), accessFlags := 25, slot := 2, constantValue := 0 }]
  methods := #[k11m0, k11m1]
  instanceTypes := #[]
  staticTypes := #[(.object "java/util/function/BiFunction"), (.object "java/util/function/BiFunction"), (.object "java/util/function/BiFunction")]
  resolved := Array.replicate 194 none
  statics := some 2 }

def pool12 : Array CpInfo := pool [(1, .class_ 2), (0, u "java/lang/Math"), (1, .class_ 6), (1, u "java/lang/Object"), (0, u "<init>"), (0, u "()V"), (89, .class_ 100), (1, u "java/lang/Math$RandomNumberGeneratorHolder"), (71, u "negativeZeroFloatBits"), (0, u "J"), (2, u "negativeZeroDoubleBits"), (21, u "max"), (2, u "min"), (43, u "$assertionsDisabled"), (0, u "Z"), (88, u "(II)I"), (2, u "twoToTheDoubleScaleDown"), (0, u "D"), (4, u "twoToTheDoubleScaleUp"), (9, u "E"), (3, u "PI"), (2, u "TAU"), (2, u "DEGREES_TO_RADIANS"), (0, u "RADIANS_TO_DEGREES")] 94

def k12m0 : Method := { name := "<init>", desc := "()V", sig := { parameters := [], returnType := none }, accessFlags := 2, code := none }
def k12c1 : Code := { maxStack := 2, maxLocals := 2, code := jdk_29_method_65_code, exceptionTable := #[], attributes := #[] }
def k12m1 : Method := { name := "max", desc := "(II)I", sig := { parameters := [.int, .int], returnType := some .int }, accessFlags := 9, code := some k12c1 }
def k12c2 : Code := { maxStack := 2, maxLocals := 2, code := jdk_29_method_69_code, exceptionTable := #[], attributes := #[] }
def k12m2 : Method := { name := "min", desc := "(II)I", sig := { parameters := [.int, .int], returnType := some .int }, accessFlags := 9, code := some k12c2 }
/-- java/lang/Math -/
def k12 : Class := { plain "java/lang/Math" (some 0) with
  accessFlags := 49
  interfaces := #[]
  cf := some (fileOf pool12 1 #[.nestMembers #[98]] #[{ accessFlags := 2, nameIndex := 7, descriptorIndex := 8, attributes := #[] }, { accessFlags := 9, nameIndex := 198, descriptorIndex := 335, attributes := #[] }, { accessFlags := 9, nameIndex := 201, descriptorIndex := 335, attributes := #[] }] 49 4 #[] #[{ accessFlags := 25, nameIndex := 354, descriptorIndex := 339, attributes := #[] }, { accessFlags := 25, nameIndex := 358, descriptorIndex := 339, attributes := #[] }, { accessFlags := 25, nameIndex := 361, descriptorIndex := 339, attributes := #[] }, { accessFlags := 26, nameIndex := 364, descriptorIndex := 339, attributes := #[] }, { accessFlags := 26, nameIndex := 365, descriptorIndex := 339, attributes := #[] }, { accessFlags := 26, nameIndex := 172, descriptorIndex := 173, attributes := #[] }, { accessFlags := 26, nameIndex := 176, descriptorIndex := 173, attributes := #[] }, { accessFlags := 8, nameIndex := 344, descriptorIndex := 339, attributes := #[] }, { accessFlags := 8, nameIndex := 338, descriptorIndex := 339, attributes := #[] }, { accessFlags := 4120, nameIndex := 245, descriptorIndex := 246, attributes := #[] }])
  fields := #[{ name := "E", type := .double, accessFlags := 25, slot := 0, constantValue := 0 }, { name := "PI", type := .double, accessFlags := 25, slot := 1, constantValue := 0 }, { name := "TAU", type := .double, accessFlags := 25, slot := 2, constantValue := 0 }, { name := "DEGREES_TO_RADIANS", type := .double, accessFlags := 26, slot := 3, constantValue := 0 }, { name := "RADIANS_TO_DEGREES", type := .double, accessFlags := 26, slot := 4, constantValue := 0 }, { name := "negativeZeroFloatBits", type := .long, accessFlags := 26, slot := 5, constantValue := 0 }, { name := "negativeZeroDoubleBits", type := .long, accessFlags := 26, slot := 6, constantValue := 0 }, { name := "twoToTheDoubleScaleUp", type := .double, accessFlags := 8, slot := 7, constantValue := 0 }, { name := "twoToTheDoubleScaleDown", type := .double, accessFlags := 8, slot := 8, constantValue := 0 }, { name := "$assertionsDisabled", type := .boolean, accessFlags := 4120, slot := 9, constantValue := 0 }]
  methods := #[k12m0, k12m1, k12m2]
  instanceTypes := #[]
  staticTypes := #[.double, .double, .double, .double, .double, .long, .long, .double, .double, .boolean]
  resolved := Array.replicate 460 none
  statics := none }

def pool13 : Array CpInfo := pool [(9, u "<init>"), (6, .class_ 18), (1, u "java/lang/Object"), (0, u "()V"), (1, .class_ 23), (1, u "jdk/internal/util/ArraysSupport"), (0, u "LOG2_ARRAY_LONG_INDEX_SCALE"), (0, u "I"), (2, u "U"), (0, u "Ljdk/internal/misc/Unsafe;"), (8, u "BIG_ENDIAN"), (0, u "Z"), (8, u "LOG2_BYTE_BIT_SIZE"), (4, u "LOG2_ARRAY_INT_INDEX_SCALE"), (54, u "JLA"), (0, u "Ljdk/internal/access/JavaLangAccess;"), (11, u "LOG2_ARRAY_BOOLEAN_INDEX_SCALE"), (9, u "LOG2_ARRAY_BYTE_INDEX_SCALE"), (5, u "LOG2_ARRAY_CHAR_INDEX_SCALE"), (5, u "LOG2_ARRAY_SHORT_INDEX_SCALE"), (18, u "LOG2_ARRAY_FLOAT_INDEX_SCALE"), (24, u "LOG2_ARRAY_DOUBLE_INDEX_SCALE"), (89, u "T_BOOLEAN"), (2, u "T_CHAR"), (1, u "T_FLOAT"), (1, u "T_DOUBLE"), (1, u "T_BYTE"), (1, u "T_SHORT"), (1, u "T_INT"), (1, u "T_LONG"), (1, u "SOFT_MAX_ARRAY_LENGTH")] 83

def k13m0 : Method := { name := "<init>", desc := "()V", sig := { parameters := [], returnType := none }, accessFlags := 2, code := none }
/-- jdk/internal/util/ArraysSupport -/
def k13 : Class := { plain "jdk/internal/util/ArraysSupport" (some 0) with
  accessFlags := 33
  interfaces := #[]
  cf := some (fileOf pool13 21 #[] #[{ accessFlags := 2, nameIndex := 9, descriptorIndex := 19, attributes := #[] }] 33 16 #[] #[{ accessFlags := 24, nameIndex := 28, descriptorIndex := 29, attributes := #[] }, { accessFlags := 26, nameIndex := 38, descriptorIndex := 39, attributes := #[] }, { accessFlags := 25, nameIndex := 121, descriptorIndex := 25, attributes := #[] }, { accessFlags := 25, nameIndex := 131, descriptorIndex := 25, attributes := #[] }, { accessFlags := 25, nameIndex := 137, descriptorIndex := 25, attributes := #[] }, { accessFlags := 25, nameIndex := 143, descriptorIndex := 25, attributes := #[] }, { accessFlags := 25, nameIndex := 53, descriptorIndex := 25, attributes := #[] }, { accessFlags := 25, nameIndex := 24, descriptorIndex := 25, attributes := #[] }, { accessFlags := 25, nameIndex := 162, descriptorIndex := 25, attributes := #[] }, { accessFlags := 25, nameIndex := 187, descriptorIndex := 25, attributes := #[] }, { accessFlags := 26, nameIndex := 48, descriptorIndex := 25, attributes := #[] }, { accessFlags := 25, nameIndex := 277, descriptorIndex := 25, attributes := #[] }, { accessFlags := 25, nameIndex := 280, descriptorIndex := 25, attributes := #[] }, { accessFlags := 25, nameIndex := 282, descriptorIndex := 25, attributes := #[] }, { accessFlags := 25, nameIndex := 284, descriptorIndex := 25, attributes := #[] }, { accessFlags := 25, nameIndex := 286, descriptorIndex := 25, attributes := #[] }, { accessFlags := 25, nameIndex := 288, descriptorIndex := 25, attributes := #[] }, { accessFlags := 25, nameIndex := 290, descriptorIndex := 25, attributes := #[] }, { accessFlags := 25, nameIndex := 292, descriptorIndex := 25, attributes := #[] }, { accessFlags := 26, nameIndex := 108, descriptorIndex := 109, attributes := #[] }, { accessFlags := 25, nameIndex := 294, descriptorIndex := 25, attributes := #[] }])
  fields := #[{ name := "U", type := (.object "jdk/internal/misc/Unsafe"), accessFlags := 24, slot := 0, constantValue := 0 }, { name := "BIG_ENDIAN", type := .boolean, accessFlags := 26, slot := 1, constantValue := 0 }, { name := "LOG2_ARRAY_BOOLEAN_INDEX_SCALE", type := .int, accessFlags := 25, slot := 2, constantValue := 0 }, { name := "LOG2_ARRAY_BYTE_INDEX_SCALE", type := .int, accessFlags := 25, slot := 3, constantValue := 0 }, { name := "LOG2_ARRAY_CHAR_INDEX_SCALE", type := .int, accessFlags := 25, slot := 4, constantValue := 0 }, { name := "LOG2_ARRAY_SHORT_INDEX_SCALE", type := .int, accessFlags := 25, slot := 5, constantValue := 0 }, { name := "LOG2_ARRAY_INT_INDEX_SCALE", type := .int, accessFlags := 25, slot := 6, constantValue := 0 }, { name := "LOG2_ARRAY_LONG_INDEX_SCALE", type := .int, accessFlags := 25, slot := 7, constantValue := 0 }, { name := "LOG2_ARRAY_FLOAT_INDEX_SCALE", type := .int, accessFlags := 25, slot := 8, constantValue := 0 }, { name := "LOG2_ARRAY_DOUBLE_INDEX_SCALE", type := .int, accessFlags := 25, slot := 9, constantValue := 0 }, { name := "LOG2_BYTE_BIT_SIZE", type := .int, accessFlags := 26, slot := 10, constantValue := 0 }, { name := "T_BOOLEAN", type := .int, accessFlags := 25, slot := 11, constantValue := 0 }, { name := "T_CHAR", type := .int, accessFlags := 25, slot := 12, constantValue := 0 }, { name := "T_FLOAT", type := .int, accessFlags := 25, slot := 13, constantValue := 0 }, { name := "T_DOUBLE", type := .int, accessFlags := 25, slot := 14, constantValue := 0 }, { name := "T_BYTE", type := .int, accessFlags := 25, slot := 15, constantValue := 0 }, { name := "T_SHORT", type := .int, accessFlags := 25, slot := 16, constantValue := 0 }, { name := "T_INT", type := .int, accessFlags := 25, slot := 17, constantValue := 0 }, { name := "T_LONG", type := .int, accessFlags := 25, slot := 18, constantValue := 0 }, { name := "JLA", type := (.object "jdk/internal/access/JavaLangAccess"), accessFlags := 26, slot := 19, constantValue := 0 }, { name := "SOFT_MAX_ARRAY_LENGTH", type := .int, accessFlags := 25, slot := 20, constantValue := 0 }]
  methods := #[k13m0]
  instanceTypes := #[]
  staticTypes := #[(.object "jdk/internal/misc/Unsafe"), .boolean, .int, .int, .int, .int, .int, .int, .int, .int, .int, .int, .int, .int, .int, .int, .int, .int, .int, (.object "jdk/internal/access/JavaLangAccess"), .int]
  resolved := Array.replicate 378 none
  statics := none }

def pool14 : Array CpInfo := pool [(1, u "java/lang/Cloneable"), (0, .class_ 1), (0, u "java/lang/Object"), (0, .class_ 3)] 3

/-- java/lang/Cloneable -/
def k14 : Class := { plain "java/lang/Cloneable" (some 0) with
  accessFlags := 1537
  interfaces := #[]
  cf := some (fileOf pool14 2 #[] #[] 1537 4 #[] #[])
  fields := #[]
  methods := #[]
  instanceTypes := #[]
  staticTypes := #[]
  resolved := Array.replicate 8 none
  statics := none }

/-- the primitive byte -/
def k15 : Class := { plain "byte" none with kind := .primitive 'B', accessFlags := 0x411 }
/-- [B -/
def k16 : Class := { plain "[B" (some 0) with kind := .array 15 .byte, interfaces := #[14, 2], accessFlags := 1041 }

/-- the primitive char -/
def k17 : Class := { plain "char" none with kind := .primitive 'C', accessFlags := 0x411 }
/-- [C -/
def k18 : Class := { plain "[C" (some 0) with kind := .array 17 .char, interfaces := #[14, 2], accessFlags := 1041 }

/-- the primitive int -/
def k19 : Class := { plain "int" none with kind := .primitive 'I', accessFlags := 0x411 }
/-- [I -/
def k20 : Class := { plain "[I" (some 0) with kind := .array 19 .int, interfaces := #[14, 2], accessFlags := 1041 }

def heap : Heap := #[{ cls := 7, slots := #[.long 0, .int 1, .null, .int 0, .null, .int 0, .int 0], vm := .statics 7 },
  { cls := 9, slots := #[.int 0, .int 8, .int 0, .int 1], vm := .statics 9 },
  { cls := 11, slots := #[.null, .null, .null], vm := .statics 11 }]
def classes : Array Class := #[k0, k1, k2, k3, k4, k5, k6, k7, k8, k9, k10, k11, k12, k13, k14, k15, k16, k17, k18, k19, k20]
def interned : List (Array UInt16 × Addr) := []
def slotsUsed : Nat := 14
def theMethod : MethodId := ⟨1, 2⟩
def args0 : Array Value := #[.int 1, .int 2, .int 3, .int 4]
def aboutOver (below : List Frame) : State where
  vm := { classes := classes, interned := interned.toArray }
  heap := heap
  slotsUsed := slotsUsed
  threads := #[{ frames := .invoking theMethod args0 :: below }]
def below0 : List Frame := [.native { method := ⟨0, 0⟩, args := #[] }]
def about1 : State := aboutOver below0
def p0 : Program := .bare "" "" ""
def e0 : Env := launch0.env 0 0 0
theorem w_frames : about1.frames = Frame.invoking theMethod args0 :: below0 := rfl
set_option maxRecDepth 65536 in
theorem w_args : argsFit about1.vm theMethod args0 = true := by decide +kernel
set_option maxRecDepth 65536 in
theorem w_heap : heapFits about1 = true := by decide +kernel
set_option maxRecDepth 65536 in
theorem w_runnable : about1.curStatus? = some .runnable := by decide +kernel
set_option maxRecDepth 65536 in
theorem w_alone : about1.alone = true := by decide +kernel
set_option maxRecDepth 65536 in
theorem w_named : about1.methodNamed? x = some theMethod := by decide +kernel
set_option maxRecDepth 65536 in
theorem w_hears : about1.hears theMethod below0 = true := by decide +kernel
set_option maxRecDepth 65536 in
theorem w_ripe : about1.ripe theMethod args0 below0 = true := by decide +kernel
theorem w_running : about1.status = .running := rfl
set_option maxRecDepth 65536 in
theorem w_room : about1.hasRoom e0.platform room_1 = true :=
  launch0.hasRoom_least _ room_1 (by decide +kernel) (by decide +kernel) (by decide +kernel) (by decide +kernel) (by decide +kernel) (by decide +kernel)
theorem allAtoms_all (ts : List Jvm.Cond) (a : Array Jvm.Value) (st : Jvm.State) : (allAtoms ts).before a st = ts.all (fun c => c.before a st) := by
  induction ts with
  | nil => rfl
  | cons c t ih =>
    show (Jvm.Cond.and c (allAtoms t)).before a st = _
    rw [Jvm.Cond.before_and, ih, List.all_cons]
def words1 : List Jvm.Cond := Jvm.Cond.code x code maxLocals ret :: tables_1
/-- a 'code' word, met by the world's own term for the bytes: nothing is compared byte by byte -/
theorem code_word {y : MethodName} {bytes : ByteArray} {mx : Nat} {rt : Option FieldType} {a : Array Value} {s : State} {m : MethodId} {meth : Method} {c : Code} (h1 : s.methodNamed? y = some m) (h2 : s.vm.method? m = some meth) (h3 : meth.code = some c) (h4 : c.code = bytes)
    (h5 : (c.maxLocals == mx && c.exceptionTable.isEmpty && decide (c.maxStack ≤ mostOperands) && decide (meth.sig.returnType = rt) && !meth.locks && decide (parseMethodDescriptor y.desc = some meth.sig)) = true) : (Jvm.Cond.code y bytes mx rt).before a s = true := by
  simp only [Bool.and_eq_true, beq_iff_eq, Bool.not_eq_true', decide_eq_true_eq] at h5
  obtain ⟨⟨⟨⟨⟨g1, g2⟩, g3⟩, g4⟩, g5⟩, g6⟩ := h5
  simp [Cond.before, Cond.holds, Cond.value, h1, h2, h3, h4, g1, g2, g3, g4, g5, g6]
def isCode : Jvm.Cond → Bool
  | .code _ _ _ _ => true
  | _ => false
theorem all_split {L : List Jvm.Cond} {P : Jvm.Cond → Bool} (h1 : L.all (fun c => isCode c || P c) = true) (h2 : ∀ c ∈ L.filter isCode, P c = true) : L.all P = true := by
  refine List.all_eq_true.mpr fun c hc => ?_
  have h := List.all_eq_true.mp h1 c hc
  rcases Bool.eq_false_or_eq_true (isCode c) with hi | hi
  · exact h2 c (List.mem_filter.mpr ⟨hc, hi⟩)
  · simpa [hi] using h
set_option maxRecDepth 65536 in
theorem w_c0 : (Jvm.Cond.code x code maxLocals ret).before args0 about1 = true := code_word (m := ⟨1, 2⟩) (meth := k1m2) (c := k1c2) (by decide +kernel) rfl rfl rfl (by decide +kernel)
set_option maxRecDepth 65536 in
theorem w_c1 : (Jvm.Cond.code ({ cls := "java/lang/String", name := "<init>", desc := "([C)V" } : Jvm.MethodName) jdk_42_method_3_code (2 : Nat) (Option.none : Option Jvm.ClassFile.FieldType)).before args0 about1 = true := code_word (m := ⟨7, 1⟩) (meth := k7m1) (c := k7c1) (by decide +kernel) rfl rfl rfl (by decide +kernel)
set_option maxRecDepth 65536 in
theorem w_c2 : (Jvm.Cond.code ({ cls := "java/lang/String", name := "<init>", desc := "([CIILjava/lang/Void;)V" } : Jvm.MethodName) jdk_42_method_149_code (6 : Nat) (Option.none : Option Jvm.ClassFile.FieldType)).before args0 about1 = true := code_word (m := ⟨7, 7⟩) (meth := k7m7) (c := k7c7) (by decide +kernel) rfl rfl rfl (by decide +kernel)
set_option maxRecDepth 65536 in
theorem w_c3 : (Jvm.Cond.code ({ cls := "java/lang/Object", name := "<init>", desc := "()V" } : Jvm.MethodName) object_method_1_code (1 : Nat) (Option.none : Option Jvm.ClassFile.FieldType)).before args0 about1 = true := code_word (m := ⟨0, 0⟩) (meth := k0m0) (c := k0c0) (by decide +kernel) rfl rfl rfl (by decide +kernel)
set_option maxRecDepth 65536 in
theorem w_c4 : (Jvm.Cond.code ({ cls := "com/example/ample_dispatch/ampledispatch/FieldValues", name := "isToken", desc := "(Ljava/lang/String;)Z" } : Jvm.MethodName) prog_11_method_4_code (4 : Nat) (Option.some Jvm.ClassFile.FieldType.boolean)).before args0 about1 = true := code_word (m := ⟨8, 1⟩) (meth := k8m1) (c := k8c1) (by decide +kernel) rfl rfl rfl (by decide +kernel)
set_option maxRecDepth 65536 in
theorem w_c5 : (Jvm.Cond.code ({ cls := "java/lang/String", name := "length", desc := "()I" } : Jvm.MethodName) jdk_42_method_54_code (1 : Nat) (Option.some Jvm.ClassFile.FieldType.int)).before args0 about1 = true := code_word (m := ⟨7, 2⟩) (meth := k7m2) (c := k7c2) (by decide +kernel) rfl rfl rfl (by decide +kernel)
set_option maxRecDepth 65536 in
theorem w_c6 : (Jvm.Cond.code ({ cls := "java/lang/String", name := "coder", desc := "()B" } : Jvm.MethodName) jdk_42_method_152_code (1 : Nat) (Option.some Jvm.ClassFile.FieldType.byte)).before args0 about1 = true := code_word (m := ⟨7, 8⟩) (meth := k7m8) (c := k7c8) (by decide +kernel) rfl rfl rfl (by decide +kernel)
set_option maxRecDepth 65536 in
theorem w_c7 : (Jvm.Cond.code ({ cls := "java/lang/String", name := "isEmpty", desc := "()Z" } : Jvm.MethodName) jdk_42_method_55_code (1 : Nat) (Option.some Jvm.ClassFile.FieldType.boolean)).before args0 about1 = true := code_word (m := ⟨7, 3⟩) (meth := k7m3) (c := k7c3) (by decide +kernel) rfl rfl rfl (by decide +kernel)
set_option maxRecDepth 65536 in
theorem w_c8 : (Jvm.Cond.code ({ cls := "java/lang/StringUTF16", name := "compress", desc := "([CII)[B" } : Jvm.MethodName) jdk_52_method_16_code (6 : Nat) (Option.some (Jvm.ClassFile.FieldType.array Jvm.ClassFile.FieldType.byte))).before args0 about1 = true := code_word (m := ⟨9, 8⟩) (meth := k9m8) (c := k9c8) (by decide +kernel) rfl rfl rfl (by decide +kernel)
set_option maxRecDepth 65536 in
theorem w_c9 : (Jvm.Cond.code ({ cls := "java/lang/StringUTF16", name := "compress", desc := "([CI[BII)I" } : Jvm.MethodName) jdk_52_method_21_code (7 : Nat) (Option.some Jvm.ClassFile.FieldType.int)).before args0 about1 = true := code_word (m := ⟨9, 9⟩) (meth := k9m9) (c := k9c9) (by decide +kernel) rfl rfl rfl (by decide +kernel)
set_option maxRecDepth 65536 in
theorem w_c10 : (Jvm.Cond.code ({ cls := "java/lang/StringUTF16", name := "coderFromArrayLen", desc := "([BI)B" } : Jvm.MethodName) jdk_52_method_15_code (2 : Nat) (Option.some Jvm.ClassFile.FieldType.byte)).before args0 about1 = true := code_word (m := ⟨9, 7⟩) (meth := k9m7) (c := k9c7) (by decide +kernel) rfl rfl rfl (by decide +kernel)
set_option maxRecDepth 65536 in
theorem w_c11 : (Jvm.Cond.code ({ cls := "com/example/ample_dispatch/ampledispatch/FieldValuesIsTokenPinLaw", name := "tchar", desc := "(I)Z" } : Jvm.MethodName) method_2_code (1 : Nat) (Option.some Jvm.ClassFile.FieldType.boolean)).before args0 about1 = true := code_word (m := ⟨1, 1⟩) (meth := k1m1) (c := k1c1) (by decide +kernel) rfl rfl rfl (by decide +kernel)
set_option maxRecDepth 65536 in
theorem w_c12 : (Jvm.Cond.code ({ cls := "java/lang/String", name := "charAt", desc := "(I)C" } : Jvm.MethodName) jdk_42_method_56_code (2 : Nat) (Option.some Jvm.ClassFile.FieldType.char)).before args0 about1 = true := code_word (m := ⟨7, 4⟩) (meth := k7m4) (c := k7c4) (by decide +kernel) rfl rfl rfl (by decide +kernel)
set_option maxRecDepth 65536 in
theorem w_c13 : (Jvm.Cond.code ({ cls := "java/lang/String", name := "isLatin1", desc := "()Z" } : Jvm.MethodName) jdk_42_method_154_code (1 : Nat) (Option.some Jvm.ClassFile.FieldType.boolean)).before args0 about1 = true := code_word (m := ⟨7, 9⟩) (meth := k7m9) (c := k7c9) (by decide +kernel) rfl rfl rfl (by decide +kernel)
set_option maxRecDepth 65536 in
theorem w_c14 : (Jvm.Cond.code ({ cls := "java/lang/StringLatin1", name := "charAt", desc := "([BI)C" } : Jvm.MethodName) jdk_43_method_2_code (2 : Nat) (Option.some Jvm.ClassFile.FieldType.char)).before args0 about1 = true := code_word (m := ⟨10, 1⟩) (meth := k10m1) (c := k10c1) (by decide +kernel) rfl rfl rfl (by decide +kernel)
set_option maxRecDepth 65536 in
theorem w_c15 : (Jvm.Cond.code ({ cls := "java/lang/String", name := "checkIndex", desc := "(II)V" } : Jvm.MethodName) jdk_42_method_155_code (2 : Nat) (Option.none : Option Jvm.ClassFile.FieldType)).before args0 about1 = true := code_word (m := ⟨7, 10⟩) (meth := k7m10) (c := k7c10) (by decide +kernel) rfl rfl rfl (by decide +kernel)
set_option maxRecDepth 65536 in
theorem w_c16 : (Jvm.Cond.code ({ cls := "jdk/internal/util/Preconditions", name := "checkIndex", desc := "(IILjava/util/function/BiFunction;)I" } : Jvm.MethodName) jdk_41_method_11_code (3 : Nat) (Option.some Jvm.ClassFile.FieldType.int)).before args0 about1 = true := code_word (m := ⟨11, 1⟩) (meth := k11m1) (c := k11c1) (by decide +kernel) rfl rfl rfl (by decide +kernel)
set_option maxRecDepth 65536 in
theorem w_c17 : (Jvm.Cond.code ({ cls := "java/lang/String", name := "indexOf", desc := "(I)I" } : Jvm.MethodName) jdk_42_method_79_code (2 : Nat) (Option.some Jvm.ClassFile.FieldType.int)).before args0 about1 = true := code_word (m := ⟨7, 5⟩) (meth := k7m5) (c := k7c5) (by decide +kernel) rfl rfl rfl (by decide +kernel)
set_option maxRecDepth 65536 in
theorem w_c18 : (Jvm.Cond.code ({ cls := "java/lang/String", name := "indexOf", desc := "(II)I" } : Jvm.MethodName) jdk_42_method_80_code (3 : Nat) (Option.some Jvm.ClassFile.FieldType.int)).before args0 about1 = true := code_word (m := ⟨7, 6⟩) (meth := k7m6) (c := k7c6) (by decide +kernel) rfl rfl rfl (by decide +kernel)
set_option maxRecDepth 65536 in
theorem w_c19 : (Jvm.Cond.code ({ cls := "java/lang/StringLatin1", name := "indexOf", desc := "([BIII)I" } : Jvm.MethodName) jdk_43_method_22_code (4 : Nat) (Option.some Jvm.ClassFile.FieldType.int)).before args0 about1 = true := code_word (m := ⟨10, 3⟩) (meth := k10m3) (c := k10c3) (by decide +kernel) rfl rfl rfl (by decide +kernel)
set_option maxRecDepth 65536 in
theorem w_c20 : (Jvm.Cond.code ({ cls := "java/lang/StringLatin1", name := "canEncode", desc := "(I)Z" } : Jvm.MethodName) jdk_43_method_4_code (1 : Nat) (Option.some Jvm.ClassFile.FieldType.boolean)).before args0 about1 = true := code_word (m := ⟨10, 2⟩) (meth := k10m2) (c := k10c2) (by decide +kernel) rfl rfl rfl (by decide +kernel)
set_option maxRecDepth 65536 in
theorem w_c21 : (Jvm.Cond.code ({ cls := "java/lang/Math", name := "max", desc := "(II)I" } : Jvm.MethodName) jdk_29_method_65_code (2 : Nat) (Option.some Jvm.ClassFile.FieldType.int)).before args0 about1 = true := code_word (m := ⟨12, 1⟩) (meth := k12m1) (c := k12c1) (by decide +kernel) rfl rfl rfl (by decide +kernel)
set_option maxRecDepth 65536 in
theorem w_c22 : (Jvm.Cond.code ({ cls := "java/lang/Math", name := "min", desc := "(II)I" } : Jvm.MethodName) jdk_29_method_69_code (2 : Nat) (Option.some Jvm.ClassFile.FieldType.int)).before args0 about1 = true := code_word (m := ⟨12, 2⟩) (meth := k12m2) (c := k12c2) (by decide +kernel) rfl rfl rfl (by decide +kernel)
set_option maxRecDepth 65536 in
theorem w_c23 : (Jvm.Cond.code ({ cls := "java/lang/StringLatin1", name := "indexOfChar", desc := "([BIII)I" } : Jvm.MethodName) jdk_43_method_23_code (6 : Nat) (Option.some Jvm.ClassFile.FieldType.int)).before args0 about1 = true := code_word (m := ⟨10, 4⟩) (meth := k10m4) (c := k10c4) (by decide +kernel) rfl rfl rfl (by decide +kernel)
set_option maxRecDepth 65536 in
theorem w_c24 : (Jvm.Cond.code ({ cls := "java/lang/StringUTF16", name := "toBytes", desc := "([CII)[B" } : Jvm.MethodName) jdk_52_method_14_code (5 : Nat) (Option.some (Jvm.ClassFile.FieldType.array Jvm.ClassFile.FieldType.byte))).before args0 about1 = true := code_word (m := ⟨9, 6⟩) (meth := k9m6) (c := k9c6) (by decide +kernel) rfl rfl rfl (by decide +kernel)
set_option maxRecDepth 65536 in
theorem w_c25 : (Jvm.Cond.code ({ cls := "java/lang/StringUTF16", name := "newBytesFor", desc := "(I)[B" } : Jvm.MethodName) jdk_52_method_2_code (1 : Nat) (Option.some (Jvm.ClassFile.FieldType.array Jvm.ClassFile.FieldType.byte))).before args0 about1 = true := code_word (m := ⟨9, 1⟩) (meth := k9m1) (c := k9c1) (by decide +kernel) rfl rfl rfl (by decide +kernel)
set_option maxRecDepth 65536 in
theorem w_c26 : (Jvm.Cond.code ({ cls := "java/lang/StringUTF16", name := "newBytesLength", desc := "(I)I" } : Jvm.MethodName) jdk_52_method_3_code (1 : Nat) (Option.some Jvm.ClassFile.FieldType.int)).before args0 about1 = true := code_word (m := ⟨9, 2⟩) (meth := k9m2) (c := k9c2) (by decide +kernel) rfl rfl rfl (by decide +kernel)
set_option maxRecDepth 65536 in
theorem w_c27 : (Jvm.Cond.code ({ cls := "java/lang/StringUTF16", name := "putChar", desc := "([BII)V" } : Jvm.MethodName) jdk_52_method_4_code (3 : Nat) (Option.none : Option Jvm.ClassFile.FieldType)).before args0 about1 = true := code_word (m := ⟨9, 3⟩) (meth := k9m3) (c := k9c3) (by decide +kernel) rfl rfl rfl (by decide +kernel)
set_option maxRecDepth 65536 in
theorem w_c28 : (Jvm.Cond.code ({ cls := "java/lang/StringUTF16", name := "getChar", desc := "([BI)C" } : Jvm.MethodName) jdk_52_method_5_code (2 : Nat) (Option.some Jvm.ClassFile.FieldType.char)).before args0 about1 = true := code_word (m := ⟨9, 4⟩) (meth := k9m4) (c := k9c4) (by decide +kernel) rfl rfl rfl (by decide +kernel)
set_option maxRecDepth 65536 in
theorem w_c29 : (Jvm.Cond.code ({ cls := "java/lang/StringUTF16", name := "charAt", desc := "([BI)C" } : Jvm.MethodName) jdk_52_method_83_code (2 : Nat) (Option.some Jvm.ClassFile.FieldType.char)).before args0 about1 = true := code_word (m := ⟨9, 10⟩) (meth := k9m10) (c := k9c10) (by decide +kernel) rfl rfl rfl (by decide +kernel)
set_option maxRecDepth 65536 in
theorem w_c30 : (Jvm.Cond.code ({ cls := "java/lang/StringUTF16", name := "checkIndex", desc := "(I[B)V" } : Jvm.MethodName) jdk_52_method_91_code (2 : Nat) (Option.none : Option Jvm.ClassFile.FieldType)).before args0 about1 = true := code_word (m := ⟨9, 11⟩) (meth := k9m11) (c := k9c11) (by decide +kernel) rfl rfl rfl (by decide +kernel)
set_option maxRecDepth 65536 in
theorem w_c31 : (Jvm.Cond.code ({ cls := "java/lang/StringUTF16", name := "length", desc := "([B)I" } : Jvm.MethodName) jdk_52_method_6_code (1 : Nat) (Option.some Jvm.ClassFile.FieldType.int)).before args0 about1 = true := code_word (m := ⟨9, 5⟩) (meth := k9m5) (c := k9c5) (by decide +kernel) rfl rfl rfl (by decide +kernel)
def codes1 : List Jvm.Cond := [Jvm.Cond.code x code maxLocals ret, Jvm.Cond.code ({ cls := "java/lang/String", name := "<init>", desc := "([C)V" } : Jvm.MethodName) jdk_42_method_3_code (2 : Nat) (Option.none : Option Jvm.ClassFile.FieldType), Jvm.Cond.code ({ cls := "java/lang/String", name := "<init>", desc := "([CIILjava/lang/Void;)V" } : Jvm.MethodName) jdk_42_method_149_code (6 : Nat) (Option.none : Option Jvm.ClassFile.FieldType), Jvm.Cond.code ({ cls := "java/lang/Object", name := "<init>", desc := "()V" } : Jvm.MethodName) object_method_1_code (1 : Nat) (Option.none : Option Jvm.ClassFile.FieldType), Jvm.Cond.code ({ cls := "com/example/ample_dispatch/ampledispatch/FieldValues", name := "isToken", desc := "(Ljava/lang/String;)Z" } : Jvm.MethodName) prog_11_method_4_code (4 : Nat) (Option.some Jvm.ClassFile.FieldType.boolean), Jvm.Cond.code ({ cls := "java/lang/String", name := "length", desc := "()I" } : Jvm.MethodName) jdk_42_method_54_code (1 : Nat) (Option.some Jvm.ClassFile.FieldType.int), Jvm.Cond.code ({ cls := "java/lang/String", name := "coder", desc := "()B" } : Jvm.MethodName) jdk_42_method_152_code (1 : Nat) (Option.some Jvm.ClassFile.FieldType.byte), Jvm.Cond.code ({ cls := "java/lang/String", name := "isEmpty", desc := "()Z" } : Jvm.MethodName) jdk_42_method_55_code (1 : Nat) (Option.some Jvm.ClassFile.FieldType.boolean), Jvm.Cond.code ({ cls := "java/lang/StringUTF16", name := "compress", desc := "([CII)[B" } : Jvm.MethodName) jdk_52_method_16_code (6 : Nat) (Option.some (Jvm.ClassFile.FieldType.array Jvm.ClassFile.FieldType.byte)), Jvm.Cond.code ({ cls := "java/lang/StringUTF16", name := "compress", desc := "([CI[BII)I" } : Jvm.MethodName) jdk_52_method_21_code (7 : Nat) (Option.some Jvm.ClassFile.FieldType.int), Jvm.Cond.code ({ cls := "java/lang/StringUTF16", name := "coderFromArrayLen", desc := "([BI)B" } : Jvm.MethodName) jdk_52_method_15_code (2 : Nat) (Option.some Jvm.ClassFile.FieldType.byte), Jvm.Cond.code ({ cls := "com/example/ample_dispatch/ampledispatch/FieldValuesIsTokenPinLaw", name := "tchar", desc := "(I)Z" } : Jvm.MethodName) method_2_code (1 : Nat) (Option.some Jvm.ClassFile.FieldType.boolean), Jvm.Cond.code ({ cls := "java/lang/String", name := "charAt", desc := "(I)C" } : Jvm.MethodName) jdk_42_method_56_code (2 : Nat) (Option.some Jvm.ClassFile.FieldType.char), Jvm.Cond.code ({ cls := "java/lang/String", name := "isLatin1", desc := "()Z" } : Jvm.MethodName) jdk_42_method_154_code (1 : Nat) (Option.some Jvm.ClassFile.FieldType.boolean), Jvm.Cond.code ({ cls := "java/lang/StringLatin1", name := "charAt", desc := "([BI)C" } : Jvm.MethodName) jdk_43_method_2_code (2 : Nat) (Option.some Jvm.ClassFile.FieldType.char), Jvm.Cond.code ({ cls := "java/lang/String", name := "checkIndex", desc := "(II)V" } : Jvm.MethodName) jdk_42_method_155_code (2 : Nat) (Option.none : Option Jvm.ClassFile.FieldType), Jvm.Cond.code ({ cls := "jdk/internal/util/Preconditions", name := "checkIndex", desc := "(IILjava/util/function/BiFunction;)I" } : Jvm.MethodName) jdk_41_method_11_code (3 : Nat) (Option.some Jvm.ClassFile.FieldType.int), Jvm.Cond.code ({ cls := "java/lang/String", name := "indexOf", desc := "(I)I" } : Jvm.MethodName) jdk_42_method_79_code (2 : Nat) (Option.some Jvm.ClassFile.FieldType.int), Jvm.Cond.code ({ cls := "java/lang/String", name := "indexOf", desc := "(II)I" } : Jvm.MethodName) jdk_42_method_80_code (3 : Nat) (Option.some Jvm.ClassFile.FieldType.int), Jvm.Cond.code ({ cls := "java/lang/StringLatin1", name := "indexOf", desc := "([BIII)I" } : Jvm.MethodName) jdk_43_method_22_code (4 : Nat) (Option.some Jvm.ClassFile.FieldType.int), Jvm.Cond.code ({ cls := "java/lang/StringLatin1", name := "canEncode", desc := "(I)Z" } : Jvm.MethodName) jdk_43_method_4_code (1 : Nat) (Option.some Jvm.ClassFile.FieldType.boolean), Jvm.Cond.code ({ cls := "java/lang/Math", name := "max", desc := "(II)I" } : Jvm.MethodName) jdk_29_method_65_code (2 : Nat) (Option.some Jvm.ClassFile.FieldType.int), Jvm.Cond.code ({ cls := "java/lang/Math", name := "min", desc := "(II)I" } : Jvm.MethodName) jdk_29_method_69_code (2 : Nat) (Option.some Jvm.ClassFile.FieldType.int), Jvm.Cond.code ({ cls := "java/lang/StringLatin1", name := "indexOfChar", desc := "([BIII)I" } : Jvm.MethodName) jdk_43_method_23_code (6 : Nat) (Option.some Jvm.ClassFile.FieldType.int), Jvm.Cond.code ({ cls := "java/lang/StringUTF16", name := "toBytes", desc := "([CII)[B" } : Jvm.MethodName) jdk_52_method_14_code (5 : Nat) (Option.some (Jvm.ClassFile.FieldType.array Jvm.ClassFile.FieldType.byte)), Jvm.Cond.code ({ cls := "java/lang/StringUTF16", name := "newBytesFor", desc := "(I)[B" } : Jvm.MethodName) jdk_52_method_2_code (1 : Nat) (Option.some (Jvm.ClassFile.FieldType.array Jvm.ClassFile.FieldType.byte)), Jvm.Cond.code ({ cls := "java/lang/StringUTF16", name := "newBytesLength", desc := "(I)I" } : Jvm.MethodName) jdk_52_method_3_code (1 : Nat) (Option.some Jvm.ClassFile.FieldType.int), Jvm.Cond.code ({ cls := "java/lang/StringUTF16", name := "putChar", desc := "([BII)V" } : Jvm.MethodName) jdk_52_method_4_code (3 : Nat) (Option.none : Option Jvm.ClassFile.FieldType), Jvm.Cond.code ({ cls := "java/lang/StringUTF16", name := "getChar", desc := "([BI)C" } : Jvm.MethodName) jdk_52_method_5_code (2 : Nat) (Option.some Jvm.ClassFile.FieldType.char), Jvm.Cond.code ({ cls := "java/lang/StringUTF16", name := "charAt", desc := "([BI)C" } : Jvm.MethodName) jdk_52_method_83_code (2 : Nat) (Option.some Jvm.ClassFile.FieldType.char), Jvm.Cond.code ({ cls := "java/lang/StringUTF16", name := "checkIndex", desc := "(I[B)V" } : Jvm.MethodName) jdk_52_method_91_code (2 : Nat) (Option.none : Option Jvm.ClassFile.FieldType), Jvm.Cond.code ({ cls := "java/lang/StringUTF16", name := "length", desc := "([B)I" } : Jvm.MethodName) jdk_52_method_6_code (1 : Nat) (Option.some Jvm.ClassFile.FieldType.int)]
set_option maxRecDepth 65536 in
theorem codes_eq : words1.filter isCode = codes1 := rfl
theorem w_codes : ∀ c ∈ words1.filter isCode, c.before args0 about1 = true := by
  rw [codes_eq]
  intro c hc
  simp only [codes1, List.mem_cons, List.not_mem_nil, or_false] at hc
  rcases hc with rfl | rfl | rfl | rfl | rfl | rfl | rfl | rfl | rfl | rfl | rfl | rfl | rfl | rfl | rfl | rfl | rfl | rfl | rfl | rfl | rfl | rfl | rfl | rfl | rfl | rfl | rfl | rfl | rfl | rfl | rfl | rfl
  · exact w_c0
  · exact w_c1
  · exact w_c2
  · exact w_c3
  · exact w_c4
  · exact w_c5
  · exact w_c6
  · exact w_c7
  · exact w_c8
  · exact w_c9
  · exact w_c10
  · exact w_c11
  · exact w_c12
  · exact w_c13
  · exact w_c14
  · exact w_c15
  · exact w_c16
  · exact w_c17
  · exact w_c18
  · exact w_c19
  · exact w_c20
  · exact w_c21
  · exact w_c22
  · exact w_c23
  · exact w_c24
  · exact w_c25
  · exact w_c26
  · exact w_c27
  · exact w_c28
  · exact w_c29
  · exact w_c30
  · exact w_c31
set_option maxRecDepth 65536 in
theorem w_t1 : (words1.take 24).all (fun c => isCode c || c.before args0 about1) = true := by decide +kernel
set_option maxRecDepth 65536 in
theorem w_t2 : ((words1.drop 24).take 24).all (fun c => isCode c || c.before args0 about1) = true := by decide +kernel
set_option maxRecDepth 65536 in
theorem w_t3 : (((words1.drop 24).drop 24).take 24).all (fun c => isCode c || c.before args0 about1) = true := by decide +kernel
set_option maxRecDepth 65536 in
theorem w_t4 : ((((words1.drop 24).drop 24).drop 24).take 24).all (fun c => isCode c || c.before args0 about1) = true := by decide +kernel
set_option maxRecDepth 65536 in
theorem w_t5 : (((((words1.drop 24).drop 24).drop 24).drop 24).take 24).all (fun c => isCode c || c.before args0 about1) = true := by decide +kernel
set_option maxRecDepth 65536 in
theorem w_t6 : (((((words1.drop 24).drop 24).drop 24).drop 24).drop 24).all (fun c => isCode c || c.before args0 about1) = true := by decide +kernel
theorem w_tables : (allAtoms (Jvm.Cond.code x code maxLocals ret :: tables_1)).before args0 about1 = true := by
  rw [allAtoms_all]
  show words1.all (fun c => c.before args0 about1) = true
  refine all_split ?_ w_codes
  rw [← List.take_append_drop 24 words1, List.all_append, w_t1, ← List.take_append_drop 24 (words1.drop 24), List.all_append, w_t2, ← List.take_append_drop 24 ((words1.drop 24).drop 24), List.all_append, w_t3, ← List.take_append_drop 24 (((words1.drop 24).drop 24).drop 24), List.all_append, w_t4, ← List.take_append_drop 24 ((((words1.drop 24).drop 24).drop 24).drop 24), List.all_append, w_t5, w_t6]
  rfl
set_option maxRecDepth 65536 in
theorem w_rest : rest_1_c.before args0 about1 = true := by decide +kernel
set_option maxRecDepth 65536 in
theorem w_case : (Jvm.Cond.and given_1 narrow_1).before args0 about1 = true := by decide +kernel
set_option maxRecDepth 65536 in
theorem w_consts : constsHeld consts_1 about1 := Jvm.Lit.constsHeldB_iff.mp (by decide +kernel)
theorem w_applies : (headSpec (Jvm.Cond.code x code maxLocals ret :: tables_1) room_1).applies x e0.platform about1 = true :=
  (Spec.applies_iff w_frames).mpr ⟨w_running, w_runnable, w_alone, w_named, w_hears, w_ripe, w_room, w_tables⟩
theorem atStart : AtStart classFile x code maxLocals ret World_1 tables_1 room_1 Calls_1 rest_1 Pre_1 launch0 p0 e0 about1 theMethod args0 below0 :=
  ⟨lists_1, trivial, launch0.admits_env _ _ _, launch0.least_env, fairChoices_fair.cas, fairChoices_fair.clock, w_frames, w_args, w_heap, w_applies, ⟨w_consts, trivial⟩, w_rest, w_case⟩
end start1
theorem witness_1 : WitnessClaimed_1 := ⟨start1.p0, start1.e0, start1.about1, start1.theMethod, start1.args0, start1.below0, start1.atStart⟩
end Jvm.Pilot.@@N@@
