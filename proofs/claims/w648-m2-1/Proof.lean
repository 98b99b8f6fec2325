import JvmDerived
import JvmDerived.Pilot.@@N@@Statement
import JvmDerived.Pilot.@@N@@Code
set_option linter.unusedVariables false
set_option linter.unusedSimpArgs false
namespace Jvm.Pilot.@@N@@
open Jvm Jvm.ClassFile Sem Op Lib Jvm.Free Jvm.Stand Jvm.LawKit Jvm.RoadKit Bundle Jvm.Pilot.@@N@@.Jvm.D
theorem own_mvMN {Z s : State} {a0 args : Array Value} {own host : String} {index : Nat} {y : MethodName} (hZ : Z.Warmed39 s.vm) (w : (Jvm.Cond.methodLinkNest own index y host).before a0 Z = true) : (Jvm.Cond.methodLinkNest own index y host).before args s = true := (Cond.methodLinkNest_wide hZ w :)
theorem own_cat1 {v : Value} (h : v.isRef = true) : v.category = 1 := by cases v <;> simp [Value.isRef] at h <;> rfl
theorem own_fit {v : Value} {t : FieldType} (h : v.isRef = true) (ht : t.isReference = true) : fits t v = true := by
  cases t <;> first | (cases ht; done) | (cases v <;> simp [Value.isRef] at h <;> rfl)
theorem own_nar {v : Value} {t : FieldType} (h : v.isRef = true) (ht : t.isReference = true) : narrow t v = v := by
  cases t <;> first | (cases ht; done) | (cases v <;> simp [Value.isRef] at h <;> rfl)
def own_mk (a k : Int32) : UInt64 := if k = 0 then FP.i2d a else if k = 1 then FP.ddiv (FP.i2d a) (4652218415073722368 : UInt64) else if k = 2 then FP.dneg (FP.i2d a) else if k = 3 then FP.dmul (FP.i2d a) (118622047889322841 : UInt64) else FP.dmul (FP.i2d a) (9094988921128908188 : UInt64)
theorem own_fp_div {x y : UInt64} {i j : Int} (hx : Jvm.FP.Core.DInt i x) (hy : Jvm.FP.Core.DInt j y) (hi : i ≠ 0) (hj : j ≠ 0) :
    Jvm.FP.Core.val64 (FP.ddiv x y) = Jvm.FP.Core.roundRatio Jvm.FP.Core.b64 (decide (i < 0) != decide (j < 0)) i.natAbs j.natAbs 0 := by
  show Jvm.FP.Core.val64 (Jvm.FP.Core.ddiv x y) = _
  rw [Jvm.FP.Core.val64_ddiv]
  unfold Jvm.FP.Core.DInt at hx hy
  cases hX : Jvm.FP.Core.val64 x with
  | nan => rw [hX] at hx; exact hx.elim
  | inf s => rw [hX] at hx; exact hx.elim
  | fin s c q =>
    cases hY : Jvm.FP.Core.val64 y with
    | nan => rw [hY] at hy; exact hy.elim
    | inf t => rw [hY] at hy; exact hy.elim
    | fin t d r =>
      rw [hX] at hx; rw [hY] at hy
      have hs := Jvm.FP.Core.whole_sign hx hi
      have ht := Jvm.FP.Core.whole_sign hy hj
      have hc := Jvm.FP.Core.whole_natAbs hx
      have hd := Jvm.FP.Core.whole_natAbs hy
      have hd0 : d ≠ 0 := fun h => by have := (Jvm.FP.Core.whole_zero hy).mp h; omega
      have eq : Jvm.FP.Core.quotient Jvm.FP.Core.b64 (.fin s c q) (.fin t d r) = Jvm.FP.Core.roundRatio Jvm.FP.Core.b64 (s != t) c d (q - r) := by
        show (if d = 0 then _ else _) = _
        rw [if_neg hd0]
      rw [eq, hs, ht]
      refine Jvm.FP.Core.roundRatio_congr (by omega) (by omega) ?_
      have key : c * j.natAbs * 2 ^ (q.toNat + (-r).toNat) = i.natAbs * d * 2 ^ ((-q).toNat + r.toNat) := by
        rw [Nat.pow_add, Nat.pow_add]
        have h1 : c * j.natAbs * (2 ^ q.toNat * 2 ^ (-r).toNat) = (c * 2 ^ q.toNat) * (j.natAbs * 2 ^ (-r).toNat) := by ac_rfl
        rw [h1, hc, ← hd]; ac_rfl
      have hk : (q - r - 0).toNat + ((-q).toNat + r.toNat) = (q.toNat + (-r).toNat) + (0 - (q - r)).toNat := by omega
      refine Nat.eq_of_mul_eq_mul_right (Nat.two_pow_pos ((-q).toNat + r.toNat)) ?_
      rw [Nat.mul_assoc, ← Nat.pow_add, hk, Nat.pow_add, ← Nat.mul_assoc, key]
      ac_rfl
theorem own_fp_mul {x y : UInt64} {i : Int} {t : Bool} {d : Nat} {r : Int} (hx : Jvm.FP.Core.DInt i x) (hy : Jvm.FP.Core.val64 y = .fin t d r) :
    ∃ s, Jvm.FP.Core.val64 (FP.dmul x y) = Jvm.FP.Core.roundRatio Jvm.FP.Core.b64 s (i.natAbs * d) 1 r := by
  unfold Jvm.FP.Core.DInt at hx
  cases hX : Jvm.FP.Core.val64 x with
  | nan => rw [hX] at hx; exact hx.elim
  | inf s => rw [hX] at hx; exact hx.elim
  | fin s c q =>
    rw [hX] at hx
    refine ⟨s != t, ?_⟩
    show Jvm.FP.Core.val64 (Jvm.FP.Core.dmul x y) = _
    rw [Jvm.FP.Core.val64_dmul, hX, hy]
    show Jvm.FP.Core.roundRatio Jvm.FP.Core.b64 (s != t) (c * d) 1 (q + r) = _
    have hc := Jvm.FP.Core.whole_natAbs hx
    refine Jvm.FP.Core.roundRatio_congr (by omega) (by omega) ?_
    rw [show (q + r - r).toNat = q.toNat by omega, show (r - (q + r)).toNat = (-q).toNat by omega, Nat.mul_one, Nat.mul_one]
    have h1 : c * d * 2 ^ q.toNat = (c * 2 ^ q.toNat) * d := by ac_rfl
    rw [h1, hc]; ac_rfl
theorem own_fp_pos {s : Bool} {A B : Nat} {e : Int} (hB : 0 < B) (he : -1074 ≤ e) (h : B ≤ A * 2 ^ (e + 1074).toNat) : 1 ≤ Jvm.FP.Core.zmag Jvm.FP.Core.b64 (Jvm.FP.Core.roundRatio Jvm.FP.Core.b64 s A B e) := by
  have hq : Jvm.FP.Core.b64.qmin = -1074 := by decide
  have hV : Jvm.FP.Core.fits Jvm.FP.Core.b64 (.fin false 1 Jvm.FP.Core.b64.qmin) := ⟨by decide, by decide, by decide, Or.inl rfl⟩
  have hz : Jvm.FP.Core.zmag Jvm.FP.Core.b64 (.fin false 1 Jvm.FP.Core.b64.qmin) = 1 := by decide
  have := Jvm.FP.Core.zmag_roundRatio_ge Jvm.FP.Core.good_b64 (s := s) (A := A) (e := e) (e0 := Jvm.FP.Core.b64.qmin) hB hV (Int.le_refl _) (by rw [hq]; exact he) (by
    have hu : Jvm.FP.Core.inUnits A e Jvm.FP.Core.b64.qmin = A * 2 ^ (e - Jvm.FP.Core.b64.qmin).toNat := rfl
    rw [hz, Int.sub_self, hu, hq, show (e - (-1074)) = e + 1074 by omega, Nat.one_mul, show (0 : Int).toNat = 0 from rfl, Nat.pow_zero, Nat.one_mul]
    exact h)
  rw [hz] at this
  exact this
theorem own_fp_ne0 {v : UInt64} (hn : Jvm.FP.Core.val64 v ≠ .nan) (hz : 1 ≤ Jvm.FP.Core.zmag Jvm.FP.Core.b64 (Jvm.FP.Core.val64 v)) : ¬ cmpValue (FP.dcmp v (0 : UInt64)) .l = (0 : Int32) := by
  have h0 : Jvm.FP.Core.val64 (0 : UInt64) ≠ .nan := by rw [Jvm.FP.Core.val64_zero]; exact nofun
  have e : FP.dcmp v (0 : UInt64) = some (compare (Jvm.FP.Core.zval Jvm.FP.Core.b64 (Jvm.FP.Core.val64 v)) (Jvm.FP.Core.zval Jvm.FP.Core.b64 (Jvm.FP.Core.val64 0))) := Jvm.FP.Core.dcmp_zval hn h0
  rw [e, Jvm.FP.Core.zval64_zero]
  have hv : Jvm.FP.Core.zval Jvm.FP.Core.b64 (Jvm.FP.Core.val64 v) ≠ 0 := by
    unfold Jvm.FP.Core.zval Jvm.FP.Core.signed
    split <;> omega
  rcases Int.lt_or_gt_of_ne hv with h | h
  · rw [(Jvm.FP.Core.compare_lt_iff _ _).mpr h]; decide
  · rw [(Jvm.FP.Core.compare_gt_iff _ _).mpr h]; decide
theorem own_fp_big {k n : Nat} (h1 : n ≤ 2147483648) (h3 : 1 ≤ k) : n ≤ k * 2 ^ ((0 : Int) + 1074).toNat := by
  have e : ((0 : Int) + 1074).toNat = 1074 := by decide
  rw [e]
  have h5 : (2147483648 : Nat) ≤ 2 ^ 1074 := Nat.le_trans (by decide : 2147483648 ≤ 2 ^ 31) (Nat.pow_le_pow_right (by decide) (by decide : 31 ≤ 1074))
  exact Nat.le_trans h1 (Nat.le_trans h5 (Nat.le_mul_of_pos_left _ h3))
theorem own_xor63 {n : Nat} (h : n < 2 ^ 63) : n ^^^ 2 ^ 63 = n + 2 ^ 63 := by
  have h1 : n &&& 2 ^ 63 = 0 := by
    apply Nat.eq_of_testBit_eq
    intro i
    rw [Nat.testBit_and, Nat.testBit_two_pow, Nat.zero_testBit]
    by_cases hi : 63 = i
    · subst hi; rw [Nat.testBit_lt_two_pow h]; rfl
    · simp [hi]
  have h2 : n ^^^ 2 ^ 63 = n ||| 2 ^ 63 := by
    apply Nat.eq_of_testBit_eq
    intro i
    rw [Nat.testBit_xor, Nat.testBit_or, Nat.testBit_two_pow]
    by_cases hi : 63 = i
    · subst hi; rw [Nat.testBit_lt_two_pow h]; rfl
    · simp [hi]
  have h3 := Nat.two_pow_add_eq_or_of_lt h 1
  rw [Nat.mul_one] at h3
  rw [h2, Nat.or_comm, ← h3]; omega
theorem own_neg (a : UInt64) : Jvm.FP.Core.val64 (FP.dneg a) = Jvm.FP.Core.negate (Jvm.FP.Core.val64 a) := by
  refine Jvm.FP.Core.val64_neg_bits ?_
  have e : (FP.dneg a).toNat = a.toNat ^^^ 9223372036854775808 := by
    show (a ^^^ 0x8000000000000000).toNat = _
    rw [UInt64.toNat_xor]; rfl
  have h := a.toNat_lt
  by_cases hh : 2 ^ 63 ≤ a.toNat
  · left
    rw [e]
    have h1 : a.toNat = (a.toNat - 2 ^ 63) ^^^ 2 ^ 63 := by
      have h2 : a.toNat - 2 ^ 63 < 2 ^ 63 := by omega
      have h3 : (a.toNat - 2 ^ 63) ^^^ 2 ^ 63 = (a.toNat - 2 ^ 63) + 2 ^ 63 := own_xor63 h2
      omega
    have h4 : a.toNat ^^^ 9223372036854775808 = a.toNat - 2 ^ 63 := by
      conv => lhs; rw [h1]
      rw [show (9223372036854775808 : Nat) = 2 ^ 63 by decide, Nat.xor_assoc, Nat.xor_self, Nat.xor_zero]
    omega
  · right
    rw [e]
    exact own_xor63 (by omega)
theorem own_dfin (a : Int32) : Jvm.Free.Fl.Fin64 (FP.i2d a) := Jvm.Free.Fl.i2d_fin a
theorem own_n1 (a : Int32) : Jvm.Free.Fl.NoNaN64 (FP.ddiv (FP.i2d a) (4652218415073722368 : UInt64)) := Jvm.Free.Fl.ddiv_out (Jvm.Free.Fl.i2d_fin a).noNaN (by unfold Jvm.Free.Fl.Fin64; decide) (by unfold Jvm.Free.Fl.Nz64; decide)
theorem own_n3 (a : Int32) : Jvm.Free.Fl.NoNaN64 (FP.dmul (FP.i2d a) (118622047889322841 : UInt64)) := Jvm.Free.Fl.dmul_out (Jvm.Free.Fl.i2d_fin a) (by unfold Jvm.Free.Fl.Fin64; decide)
theorem own_n4 (a : Int32) : Jvm.Free.Fl.NoNaN64 (FP.dmul (FP.i2d a) (9094988921128908188 : UInt64)) := Jvm.Free.Fl.dmul_out (Jvm.Free.Fl.i2d_fin a) (by unfold Jvm.Free.Fl.Fin64; decide)
theorem own_zero {a : Int32} (h : a = 0) (k : Int32) : cmpValue (FP.dcmp (own_mk a k) (0 : UInt64)) .l = (0 : Int32) := by
  subst h
  unfold own_mk
  split
  · decide +kernel
  · split
    · decide +kernel
    · split
      · decide +kernel
      · split <;> decide +kernel
theorem own_mulne {a : Int32} {y : UInt64} {t : Bool} {d : Nat} {r : Int} (h : ¬ a = 0) (hy : Jvm.FP.Core.val64 y = .fin t d r) (hd : 1 ≤ d) (hr : -1074 ≤ r) : ¬ cmpValue (FP.dcmp (FP.dmul (FP.i2d a) y) (0 : UInt64)) .l = (0 : Int32) := by
  obtain ⟨s, e⟩ := own_fp_mul (Jvm.FP.Core.i2d_int a) hy
  have ha : 1 ≤ a.toInt.natAbs := by
    have : a.toInt ≠ 0 := fun q => h (Int32.toInt_inj.mp q)
    omega
  refine own_fp_ne0 (by rw [e]; exact Jvm.FP.Core.roundRatio_ne_nan _ _ _ _ _) ?_
  rw [e]
  refine own_fp_pos (by decide) hr ?_
  exact Nat.le_trans (Nat.mul_le_mul ha hd) (Nat.le_mul_of_pos_right _ (Nat.two_pow_pos _))
theorem own_nonzero {a : Int32} (h : ¬ a = 0) (k : Int32) : ¬ cmpValue (FP.dcmp (own_mk a k) (0 : UInt64)) .l = (0 : Int32) := by
  have ha : a.toInt ≠ 0 := fun q => h (Int32.toInt_inj.mp q)
  have hi := Jvm.FP.Core.i2d_int a
  have hone : (1 : Int) ≤ (Jvm.FP.Core.one64 : Int) := by
    have := Jvm.FP.Core.one64_pos; omega
  have hzi : 1 ≤ Jvm.FP.Core.zmag Jvm.FP.Core.b64 (Jvm.FP.Core.val64 (FP.i2d a)) := by
    have h1 := Jvm.FP.Core.DInt_zval hi
    have h2 : Jvm.FP.Core.zval Jvm.FP.Core.b64 (Jvm.FP.Core.val64 (FP.i2d a)) ≠ 0 := by
      intro q
      rw [q] at h1
      rcases Int.mul_eq_zero.mp h1.symm with z | z <;> omega
    unfold Jvm.FP.Core.zval Jvm.FP.Core.signed at h2
    split at h2 <;> omega
  have hni := Jvm.FP.Core.DInt_ne_nan hi
  unfold own_mk
  split
  · exact own_fp_ne0 hni hzi
  · split
    · -- the quotient by 1024
      have hy : Jvm.FP.Core.DInt 1024 (4652218415073722368 : UInt64) := by
        have hv : Jvm.FP.Core.val64 (4652218415073722368 : UInt64) = .fin false 4503599627370496 (-42) := by decide +kernel
        show Jvm.FP.Core.Whole 1024 (Jvm.FP.Core.val64 (4652218415073722368 : UInt64))
        rw [hv]
        show Jvm.FP.Core.signed false (4503599627370496 * 2 ^ 0) = 1024 * ((2 ^ 42 : Nat) : Int)
        decide
      have e := own_fp_div hi hy ha (by decide)
      refine own_fp_ne0 (by rw [e]; exact Jvm.FP.Core.roundRatio_ne_nan _ _ _ _ _) ?_
      rw [e]
      exact own_fp_pos (by decide) (by decide) (own_fp_big (by decide) (by omega))
    · split
      · have e2 : Jvm.FP.Core.val64 (FP.dneg (FP.i2d a)) = Jvm.FP.Core.negate (Jvm.FP.Core.val64 (FP.i2d a)) := own_neg _
        cases hX : Jvm.FP.Core.val64 (FP.i2d a) with
        | nan => exact absurd hX hni
        | inf s => rw [hX] at e2 hzi; exact own_fp_ne0 (by rw [e2]; exact nofun) (by rw [e2]; exact hzi)
        | fin s c q => rw [hX] at e2 hzi; exact own_fp_ne0 (by rw [e2]; exact nofun) (by rw [e2]; exact hzi)
      · split
        · exact own_mulne h (t := false) (d := 6032057205060441) (r := -1049) (by decide +kernel) (by decide) (by decide)
        · exact own_mulne h (t := false) (d := 6724873095247260) (r := 944) (by decide +kernel) (by decide) (by decide)

theorem pn_0 : plainName "com/example/turnwise/turnwise/script/NumberIsTruePinLaw" = true := by first | (simp [plainName, overriddenIn]; done) | decide +kernel
theorem dMK_0 : decode method_2_code 0 = .ok (.iload_n 0, 1) := by decide +kernel
theorem dMK_1 : decode method_2_code 1 = .ok (.i2d, 1) := by decide +kernel
theorem dMK_2 : decode method_2_code 2 = .ok (.dstore_n 2, 1) := by decide +kernel
theorem dMK_3 : decode method_2_code 3 = .ok (.iload_n 1, 1) := by decide +kernel
theorem dMK_4 : decode method_2_code 4 = .ok (.ifCond .ne 5, 3) := by decide +kernel
theorem dMK_7 : decode method_2_code 7 = .ok (.dload_n 2, 1) := by decide +kernel
theorem dMK_8 : decode method_2_code 8 = .ok (.dreturn, 1) := by decide +kernel
theorem dMK_9 : decode method_2_code 9 = .ok (.iload_n 1, 1) := by decide +kernel
theorem dMK_10 : decode method_2_code 10 = .ok (.iconst 1, 1) := by decide +kernel
theorem dMK_11 : decode method_2_code 11 = .ok (.if_icmp .ne 9, 3) := by decide +kernel
theorem dMK_14 : decode method_2_code 14 = .ok (.dload_n 2, 1) := by decide +kernel
theorem dMK_15 : decode method_2_code 15 = .ok (.ldc2_w 7, 3) := by decide +kernel
theorem dMK_18 : decode method_2_code 18 = .ok (.ddiv, 1) := by decide +kernel
theorem dMK_19 : decode method_2_code 19 = .ok (.dreturn, 1) := by decide +kernel
theorem dMK_20 : decode method_2_code 20 = .ok (.iload_n 1, 1) := by decide +kernel
theorem dMK_21 : decode method_2_code 21 = .ok (.iconst 2, 1) := by decide +kernel
theorem dMK_22 : decode method_2_code 22 = .ok (.if_icmp .ne 6, 3) := by decide +kernel
theorem dMK_25 : decode method_2_code 25 = .ok (.dload_n 2, 1) := by decide +kernel
theorem dMK_26 : decode method_2_code 26 = .ok (.dneg, 1) := by decide +kernel
theorem dMK_27 : decode method_2_code 27 = .ok (.dreturn, 1) := by decide +kernel
theorem dMK_28 : decode method_2_code 28 = .ok (.iload_n 1, 1) := by decide +kernel
theorem dMK_29 : decode method_2_code 29 = .ok (.iconst 3, 1) := by decide +kernel
theorem dMK_30 : decode method_2_code 30 = .ok (.if_icmp .ne 9, 3) := by decide +kernel
theorem dMK_33 : decode method_2_code 33 = .ok (.dload_n 2, 1) := by decide +kernel
theorem dMK_34 : decode method_2_code 34 = .ok (.ldc2_w 9, 3) := by decide +kernel
theorem dMK_37 : decode method_2_code 37 = .ok (.dmul, 1) := by decide +kernel
theorem dMK_38 : decode method_2_code 38 = .ok (.dreturn, 1) := by decide +kernel
theorem dMK_39 : decode method_2_code 39 = .ok (.dload_n 2, 1) := by decide +kernel
theorem dMK_40 : decode method_2_code 40 = .ok (.ldc2_w 11, 3) := by decide +kernel
theorem dMK_43 : decode method_2_code 43 = .ok (.dmul, 1) := by decide +kernel
theorem dMK_44 : decode method_2_code 44 = .ok (.dreturn, 1) := by decide +kernel
theorem ef_MK (m : MethodId) (x0 : Int32) (x1 : Int32) : entryFrame m #[(.int x0), (.int x1)] 4 = mkF m 0 #[.val (.int x0), .val (.int x1), .unset, .unset] [] := by first | (simp [entryFrame, mkF, argsToLocals, Value.category, maxLocals]; done) | rfl
def QMK (Z : State) (a : Int32) (k : Int32) (h0 : Heap) (n0 : Nat) (v : Option Value) (h : Heap) (L : List Loc) : Prop := v = some (.double (own_mk a k)) ∧ Fr n0 L ∧ h = h0
set_option maxRecDepth 65536 in
set_option maxHeartbeats 40000000 in
theorem rmMK (l : Launch) (Z : State) (a0 : Array Value) (hw : ∀ d ∈ tables_1, d.before a0 Z = true) (ws : List Jvm.Cond) (a : Int32) (k : Int32) (h0 : Heap) (n0 : Nat) (Z0 : n0 ≤ h0.size) :
    MetFree l (⟨"com/example/turnwise/turnwise/script/NumberIsTruePinLaw", "make", "(II)D"⟩ : MethodName) (head1 (Jvm.Cond.code (⟨"com/example/turnwise/turnwise/script/NumberIsTruePinLaw", "make", "(II)D"⟩ : MethodName) method_2_code 4 (some .double) :: ws) ({ frames := 0, cells := 0, slots := 0, locals := 0 } : Room)) (fun as_ U => as_ = #[(.int a), (.int k)] ∧ Z.Warmed39 U.vm ∧ U.heap = h0) (fun _ _ _ _ _ => True) (fun _ U o U' => ∃ v L, o = .returned v ∧ QMK Z a k h0 n0 v U'.heap L ∧ FrameEnd U o U' L ({ frames := 0, cells := 0, slots := 0, locals := 0 } : Room).cells ({ frames := 0, cells := 0, slots := 0, locals := 0 } : Room).slots) := by
  refine MetFree.of_bodySF (plainFor_of_name pn_0) hisR ?_
  intro p e s m args below meth c s₁ Bd hml0 hP hK
  obtain ⟨rfl, hZ, hh⟩ := hP
  have hx := Bd.exec
  have hby := Bd.bytes
  have hml : c.maxLocals = 4 := hml0
  have hown : s.vm.findClass "com/example/turnwise/turnwise/script/NumberIsTruePinLaw" = some m.cls := findClass_of_methodNamed Bd.named
  have hnm := (name_of_methodNamed Bd.named Bd.method).1
  have X0 : Stand p l e ({ frames := 0, cells := 0, slots := 0, locals := 0 } : Room) s m #[(.int a), (.int k)] below meth c s₁ [] 0 0 := Stand.of_body Bd
  have e0 : s₁.heap = h0 := by rw [← hh, Bd.state]; rfl
  have N0 := Fr.nil n0
  obtain ⟨E0, hE0⟩ : ∃ z, z = s₁.setTop (entryFrame m #[(.int a), (.int k)] 4) := ⟨_, rfl⟩
  rw [← hE0]
  have go0 : ∀ tgt, Steps p.tables e below (s₁.setTop (mkF m 0 #[.val (.int a), .val (.int k), .unset, .unset] [])) tgt → Steps p.tables e below E0 tgt := fun tgt kont => by rw [hE0]; exact castTop (ef_MK m a k) kont
  have go1 : ∀ tgt, Steps p.tables e below (s₁.setTop (mkF m 4 #[.val (.int a), .val (.int k), .val (.double (FP.i2d a)), .second] [(.int k)])) tgt → Steps p.tables e below E0 tgt := fun tgt kont => go0 tgt (by
    show Steps p.tables e below (s₁.setTop (mkF m 0 #[.val (.int a), .val (.int k), .unset, .unset] [])) tgt
    refine XS.iloadN X0.here hx rfl (hb hby dMK_0) rfl ?_
    show Steps p.tables e below (s₁.setTop (mkF m 1 #[.val (.int a), .val (.int k), .unset, .unset] [(.int a)])) tgt
    refine XS.i2dS X0.here hx rfl (hb hby dMK_1) rfl rfl ?_
    show Steps p.tables e below (s₁.setTop (mkF m 2 #[.val (.int a), .val (.int k), .unset, .unset] [(.double (FP.i2d a))])) tgt
    refine XS.dstoreN X0.here hx rfl (hb hby dMK_2) rfl (l' := #[.val (.int a), .val (.int k), .val (.double (FP.i2d a)), .second]) rfl ?_
    show Steps p.tables e below (s₁.setTop (mkF m 3 #[.val (.int a), .val (.int k), .val (.double (FP.i2d a)), .second] [])) tgt
    refine XS.iloadN X0.here hx rfl (hb hby dMK_3) rfl ?_
    exact kont)
  by_cases k0 : k = (0 : Int32)
  · have go2 : ∀ tgt, Steps p.tables e below (s₁.setTop (mkF m 8 #[.val (.int a), .val (.int k), .val (.double (FP.i2d a)), .second] [(.double (FP.i2d a))])) tgt → Steps p.tables e below E0 tgt := fun tgt kont => go1 tgt (by
      show Steps p.tables e below (s₁.setTop (mkF m 4 #[.val (.int a), .val (.int k), .val (.double (FP.i2d a)), .second] [(.int k)])) tgt
      refine XS.ifNo X0.here hx rfl (hb hby dMK_4) rfl ((if0 _ _).trans (teq k0).2) ?_
      show Steps p.tables e below (s₁.setTop (mkF m 7 #[.val (.int a), .val (.int k), .val (.double (FP.i2d a)), .second] [])) tgt
      refine XS.dloadN X0.here hx rfl (hb hby dMK_7) rfl ?_
      exact kont)
    have hv : (FP.i2d a) = own_mk a k := by rw [own_mk, if_pos k0]
    obtain ⟨fs, hr, hrun, hended, hW, hsame⟩ := X0.leave (v := some (.double (FP.i2d a))) (fun h => by rw [Bd.returns] at h; cases h)
    refine ⟨_, _, go2 _ ?_, hrun, hended, _, _, rfl, ?_, ⟨_, rfl⟩, hW, hsame.mono (by decide) (by decide)⟩
    · show Steps p.tables e below (s₁.setTop (mkF m 8 #[.val (.int a), .val (.int k), .val (.double (FP.i2d a)), .second] [(.double (FP.i2d a))])) _
      exact retOut X0 hx Bd.returns rfl (Or.inr (Or.inr (Or.inl ⟨rfl, rfl, _, rfl⟩))) (hb hby dMK_8) hr
    · show QMK Z a k h0 n0 _ s₁.heap _
      rw [e0]
      exact ⟨congrArg (fun z => some (Value.double z)) hv, N0, rfl⟩
  · have go3 : ∀ tgt, Steps p.tables e below (s₁.setTop (mkF m 11 #[.val (.int a), .val (.int k), .val (.double (FP.i2d a)), .second] [(.int (1 : Int32)), (.int k)])) tgt → Steps p.tables e below E0 tgt := fun tgt kont => go1 tgt (by
      show Steps p.tables e below (s₁.setTop (mkF m 4 #[.val (.int a), .val (.int k), .val (.double (FP.i2d a)), .second] [(.int k)])) tgt
      refine XS.ifYes X0.here hx rfl (pc0 := 4) (pc' := 9) rfl (hb hby dMK_4) rfl ((if0 _ _).trans (feq k0).2) (by decide) (by decide) ?_
      show Steps p.tables e below (s₁.setTop (mkF m 9 #[.val (.int a), .val (.int k), .val (.double (FP.i2d a)), .second] [])) tgt
      refine XS.iloadN X0.here hx rfl (hb hby dMK_9) rfl ?_
      show Steps p.tables e below (s₁.setTop (mkF m 10 #[.val (.int a), .val (.int k), .val (.double (FP.i2d a)), .second] [(.int k)])) tgt
      refine XS.iconst X0.here hx rfl (hb hby dMK_10) ?_
      exact kont)
    by_cases k1 : k = (1 : Int32)
    · have go4 : ∀ tgt, Steps p.tables e below (s₁.setTop (mkF m 19 #[.val (.int a), .val (.int k), .val (.double (FP.i2d a)), .second] [(.double (FP.ddiv (FP.i2d a) (4652218415073722368 : UInt64)))])) tgt → Steps p.tables e below E0 tgt := fun tgt kont => go3 tgt (by
        show Steps p.tables e below (s₁.setTop (mkF m 11 #[.val (.int a), .val (.int k), .val (.double (FP.i2d a)), .second] [(.int (1 : Int32)), (.int k)])) tgt
        refine XS.icmpNo X0.here hx rfl (hb hby dMK_11) rfl (teq k1).2 ?_
        show Steps p.tables e below (s₁.setTop (mkF m 14 #[.val (.int a), .val (.int k), .val (.double (FP.i2d a)), .second] [])) tgt
        refine XS.dloadN X0.here hx rfl (hb hby dMK_14) rfl ?_
        show Steps p.tables e below (s₁.setTop (mkF m 15 #[.val (.int a), .val (.int k), .val (.double (FP.i2d a)), .second] [(.double (FP.i2d a))])) tgt
        refine X0.ldc2DoubleC hx hown (mvT hZ (hw _ (List.mem_of_getElem? (i := 27) rfl))) (g := (mkF m 15 #[.val (.int a), .val (.int k), .val (.double (FP.i2d a)), .second] [(.double (FP.i2d a))])) rfl (hb hby dMK_15) _ ?_
        show Steps p.tables e below (s₁.setTop (mkF m 18 #[.val (.int a), .val (.int k), .val (.double (FP.i2d a)), .second] [(.double (4652218415073722368 : UInt64)), (.double (FP.i2d a))])) tgt
        refine XS.ddivS X0.here hx rfl (hb hby dMK_18) rfl (own_n1 a) rfl ?_
        exact kont)
      have hv : (FP.ddiv (FP.i2d a) (4652218415073722368 : UInt64)) = own_mk a k := by rw [own_mk, if_neg k0, if_pos k1]
      obtain ⟨fs, hr, hrun, hended, hW, hsame⟩ := X0.leave (v := some (.double (FP.ddiv (FP.i2d a) (4652218415073722368 : UInt64)))) (fun h => by rw [Bd.returns] at h; cases h)
      refine ⟨_, _, go4 _ ?_, hrun, hended, _, _, rfl, ?_, ⟨_, rfl⟩, hW, hsame.mono (by decide) (by decide)⟩
      · show Steps p.tables e below (s₁.setTop (mkF m 19 #[.val (.int a), .val (.int k), .val (.double (FP.i2d a)), .second] [(.double (FP.ddiv (FP.i2d a) (4652218415073722368 : UInt64)))])) _
        exact retOut X0 hx Bd.returns rfl (Or.inr (Or.inr (Or.inl ⟨rfl, rfl, _, rfl⟩))) (hb hby dMK_19) hr
      · show QMK Z a k h0 n0 _ s₁.heap _
        rw [e0]
        exact ⟨congrArg (fun z => some (Value.double z)) hv, N0, rfl⟩
    · have go5 : ∀ tgt, Steps p.tables e below (s₁.setTop (mkF m 22 #[.val (.int a), .val (.int k), .val (.double (FP.i2d a)), .second] [(.int (2 : Int32)), (.int k)])) tgt → Steps p.tables e below E0 tgt := fun tgt kont => go3 tgt (by
        show Steps p.tables e below (s₁.setTop (mkF m 11 #[.val (.int a), .val (.int k), .val (.double (FP.i2d a)), .second] [(.int (1 : Int32)), (.int k)])) tgt
        refine XS.icmpYes X0.here hx rfl (pc0 := 11) (pc' := 20) rfl (hb hby dMK_11) rfl (feq k1).2 (by decide) (by decide) ?_
        show Steps p.tables e below (s₁.setTop (mkF m 20 #[.val (.int a), .val (.int k), .val (.double (FP.i2d a)), .second] [])) tgt
        refine XS.iloadN X0.here hx rfl (hb hby dMK_20) rfl ?_
        show Steps p.tables e below (s₁.setTop (mkF m 21 #[.val (.int a), .val (.int k), .val (.double (FP.i2d a)), .second] [(.int k)])) tgt
        refine XS.iconst X0.here hx rfl (hb hby dMK_21) ?_
        exact kont)
      by_cases k2 : k = (2 : Int32)
      · have go6 : ∀ tgt, Steps p.tables e below (s₁.setTop (mkF m 27 #[.val (.int a), .val (.int k), .val (.double (FP.i2d a)), .second] [(.double (FP.dneg (FP.i2d a)))])) tgt → Steps p.tables e below E0 tgt := fun tgt kont => go5 tgt (by
          show Steps p.tables e below (s₁.setTop (mkF m 22 #[.val (.int a), .val (.int k), .val (.double (FP.i2d a)), .second] [(.int (2 : Int32)), (.int k)])) tgt
          refine XS.icmpNo X0.here hx rfl (hb hby dMK_22) rfl (teq k2).2 ?_
          show Steps p.tables e below (s₁.setTop (mkF m 25 #[.val (.int a), .val (.int k), .val (.double (FP.i2d a)), .second] [])) tgt
          refine XS.dloadN X0.here hx rfl (hb hby dMK_25) rfl ?_
          show Steps p.tables e below (s₁.setTop (mkF m 26 #[.val (.int a), .val (.int k), .val (.double (FP.i2d a)), .second] [(.double (FP.i2d a))])) tgt
          refine XS.dnegS X0.here hx rfl (hb hby dMK_26) rfl rfl ?_
          exact kont)
        have hv : (FP.dneg (FP.i2d a)) = own_mk a k := by rw [own_mk, if_neg k0, if_neg k1, if_pos k2]
        obtain ⟨fs, hr, hrun, hended, hW, hsame⟩ := X0.leave (v := some (.double (FP.dneg (FP.i2d a)))) (fun h => by rw [Bd.returns] at h; cases h)
        refine ⟨_, _, go6 _ ?_, hrun, hended, _, _, rfl, ?_, ⟨_, rfl⟩, hW, hsame.mono (by decide) (by decide)⟩
        · show Steps p.tables e below (s₁.setTop (mkF m 27 #[.val (.int a), .val (.int k), .val (.double (FP.i2d a)), .second] [(.double (FP.dneg (FP.i2d a)))])) _
          exact retOut X0 hx Bd.returns rfl (Or.inr (Or.inr (Or.inl ⟨rfl, rfl, _, rfl⟩))) (hb hby dMK_27) hr
        · show QMK Z a k h0 n0 _ s₁.heap _
          rw [e0]
          exact ⟨congrArg (fun z => some (Value.double z)) hv, N0, rfl⟩
      · have go7 : ∀ tgt, Steps p.tables e below (s₁.setTop (mkF m 30 #[.val (.int a), .val (.int k), .val (.double (FP.i2d a)), .second] [(.int (3 : Int32)), (.int k)])) tgt → Steps p.tables e below E0 tgt := fun tgt kont => go5 tgt (by
          show Steps p.tables e below (s₁.setTop (mkF m 22 #[.val (.int a), .val (.int k), .val (.double (FP.i2d a)), .second] [(.int (2 : Int32)), (.int k)])) tgt
          refine XS.icmpYes X0.here hx rfl (pc0 := 22) (pc' := 28) rfl (hb hby dMK_22) rfl (feq k2).2 (by decide) (by decide) ?_
          show Steps p.tables e below (s₁.setTop (mkF m 28 #[.val (.int a), .val (.int k), .val (.double (FP.i2d a)), .second] [])) tgt
          refine XS.iloadN X0.here hx rfl (hb hby dMK_28) rfl ?_
          show Steps p.tables e below (s₁.setTop (mkF m 29 #[.val (.int a), .val (.int k), .val (.double (FP.i2d a)), .second] [(.int k)])) tgt
          refine XS.iconst X0.here hx rfl (hb hby dMK_29) ?_
          exact kont)
        by_cases k3 : k = (3 : Int32)
        · have go8 : ∀ tgt, Steps p.tables e below (s₁.setTop (mkF m 38 #[.val (.int a), .val (.int k), .val (.double (FP.i2d a)), .second] [(.double (FP.dmul (FP.i2d a) (118622047889322841 : UInt64)))])) tgt → Steps p.tables e below E0 tgt := fun tgt kont => go7 tgt (by
            show Steps p.tables e below (s₁.setTop (mkF m 30 #[.val (.int a), .val (.int k), .val (.double (FP.i2d a)), .second] [(.int (3 : Int32)), (.int k)])) tgt
            refine XS.icmpNo X0.here hx rfl (hb hby dMK_30) rfl (teq k3).2 ?_
            show Steps p.tables e below (s₁.setTop (mkF m 33 #[.val (.int a), .val (.int k), .val (.double (FP.i2d a)), .second] [])) tgt
            refine XS.dloadN X0.here hx rfl (hb hby dMK_33) rfl ?_
            show Steps p.tables e below (s₁.setTop (mkF m 34 #[.val (.int a), .val (.int k), .val (.double (FP.i2d a)), .second] [(.double (FP.i2d a))])) tgt
            refine X0.ldc2DoubleC hx hown (mvT hZ (hw _ (List.mem_of_getElem? (i := 5) rfl))) (g := (mkF m 34 #[.val (.int a), .val (.int k), .val (.double (FP.i2d a)), .second] [(.double (FP.i2d a))])) rfl (hb hby dMK_34) _ ?_
            show Steps p.tables e below (s₁.setTop (mkF m 37 #[.val (.int a), .val (.int k), .val (.double (FP.i2d a)), .second] [(.double (118622047889322841 : UInt64)), (.double (FP.i2d a))])) tgt
            refine XS.dmulS X0.here hx rfl (hb hby dMK_37) rfl (own_n3 a) rfl ?_
            exact kont)
          have hv : (FP.dmul (FP.i2d a) (118622047889322841 : UInt64)) = own_mk a k := by rw [own_mk, if_neg k0, if_neg k1, if_neg k2, if_pos k3]
          obtain ⟨fs, hr, hrun, hended, hW, hsame⟩ := X0.leave (v := some (.double (FP.dmul (FP.i2d a) (118622047889322841 : UInt64)))) (fun h => by rw [Bd.returns] at h; cases h)
          refine ⟨_, _, go8 _ ?_, hrun, hended, _, _, rfl, ?_, ⟨_, rfl⟩, hW, hsame.mono (by decide) (by decide)⟩
          · show Steps p.tables e below (s₁.setTop (mkF m 38 #[.val (.int a), .val (.int k), .val (.double (FP.i2d a)), .second] [(.double (FP.dmul (FP.i2d a) (118622047889322841 : UInt64)))])) _
            exact retOut X0 hx Bd.returns rfl (Or.inr (Or.inr (Or.inl ⟨rfl, rfl, _, rfl⟩))) (hb hby dMK_38) hr
          · show QMK Z a k h0 n0 _ s₁.heap _
            rw [e0]
            exact ⟨congrArg (fun z => some (Value.double z)) hv, N0, rfl⟩
        · have go9 : ∀ tgt, Steps p.tables e below (s₁.setTop (mkF m 44 #[.val (.int a), .val (.int k), .val (.double (FP.i2d a)), .second] [(.double (FP.dmul (FP.i2d a) (9094988921128908188 : UInt64)))])) tgt → Steps p.tables e below E0 tgt := fun tgt kont => go7 tgt (by
            show Steps p.tables e below (s₁.setTop (mkF m 30 #[.val (.int a), .val (.int k), .val (.double (FP.i2d a)), .second] [(.int (3 : Int32)), (.int k)])) tgt
            refine XS.icmpYes X0.here hx rfl (pc0 := 30) (pc' := 39) rfl (hb hby dMK_30) rfl (feq k3).2 (by decide) (by decide) ?_
            show Steps p.tables e below (s₁.setTop (mkF m 39 #[.val (.int a), .val (.int k), .val (.double (FP.i2d a)), .second] [])) tgt
            refine XS.dloadN X0.here hx rfl (hb hby dMK_39) rfl ?_
            show Steps p.tables e below (s₁.setTop (mkF m 40 #[.val (.int a), .val (.int k), .val (.double (FP.i2d a)), .second] [(.double (FP.i2d a))])) tgt
            refine X0.ldc2DoubleC hx hown (mvT hZ (hw _ (List.mem_of_getElem? (i := 28) rfl))) (g := (mkF m 40 #[.val (.int a), .val (.int k), .val (.double (FP.i2d a)), .second] [(.double (FP.i2d a))])) rfl (hb hby dMK_40) _ ?_
            show Steps p.tables e below (s₁.setTop (mkF m 43 #[.val (.int a), .val (.int k), .val (.double (FP.i2d a)), .second] [(.double (9094988921128908188 : UInt64)), (.double (FP.i2d a))])) tgt
            refine XS.dmulS X0.here hx rfl (hb hby dMK_43) rfl (own_n4 a) rfl ?_
            exact kont)
          have hv : (FP.dmul (FP.i2d a) (9094988921128908188 : UInt64)) = own_mk a k := by rw [own_mk, if_neg k0, if_neg k1, if_neg k2, if_neg k3]
          obtain ⟨fs, hr, hrun, hended, hW, hsame⟩ := X0.leave (v := some (.double (FP.dmul (FP.i2d a) (9094988921128908188 : UInt64)))) (fun h => by rw [Bd.returns] at h; cases h)
          refine ⟨_, _, go9 _ ?_, hrun, hended, _, _, rfl, ?_, ⟨_, rfl⟩, hW, hsame.mono (by decide) (by decide)⟩
          · show Steps p.tables e below (s₁.setTop (mkF m 44 #[.val (.int a), .val (.int k), .val (.double (FP.i2d a)), .second] [(.double (FP.dmul (FP.i2d a) (9094988921128908188 : UInt64)))])) _
            exact retOut X0 hx Bd.returns rfl (Or.inr (Or.inr (Or.inl ⟨rfl, rfl, _, rfl⟩))) (hb hby dMK_44) hr
          · show QMK Z a k h0 n0 _ s₁.heap _
            rw [e0]
            exact ⟨congrArg (fun z => some (Value.double z)) hv, N0, rfl⟩
theorem pn_1 : plainName "java/lang/Record" = true := by first | (simp [plainName, overriddenIn]; done) | decide +kernel
theorem dRC_0 : decode jdk_30_method_1_code 0 = .ok (.aload_n 0, 1) := by decide +kernel
theorem dRC_1 : decode jdk_30_method_1_code 1 = .ok (.invokespecial 1, 3) := by decide +kernel
theorem dRC_4 : decode jdk_30_method_1_code 4 = .ok (.return_, 1) := by decide +kernel
theorem ef_RC (m : MethodId) (x0 : Addr) : entryFrame m #[(.ref x0)] 1 = mkF m 0 #[.val (.ref x0)] [] := by first | (simp [entryFrame, mkF, argsToLocals, Value.category, maxLocals]; done) | rfl
def QRC (Z : State) (a : Addr) (h0 : Heap) (n0 : Nat) (v : Option Value) (h : Heap) (L : List Loc) : Prop := v = none ∧ Fr n0 L ∧ h = h0
set_option maxRecDepth 65536 in
set_option maxHeartbeats 40000000 in
theorem rmRC (l : Launch) (Z : State) (a0 : Array Value) (hw : ∀ d ∈ tables_1, d.before a0 Z = true) (ws : List Jvm.Cond) (a : Addr) (h0 : Heap) (n0 : Nat) (Z0 : n0 ≤ h0.size) :
    MetFree l (⟨"java/lang/Record", "<init>", "()V"⟩ : MethodName) (head1 (Jvm.Cond.code (⟨"java/lang/Record", "<init>", "()V"⟩ : MethodName) jdk_30_method_1_code 1 none :: ws) ({ frames := 1, cells := 0, slots := 0, locals := 12 } : Room)) (fun as_ U => as_ = #[(.ref a)] ∧ Z.Warmed39 U.vm ∧ U.heap = h0) (fun _ _ _ _ _ => True) (fun _ U o U' => ∃ v L, o = .returned v ∧ QRC Z a h0 n0 v U'.heap L ∧ FrameEnd U o U' L ({ frames := 1, cells := 0, slots := 0, locals := 12 } : Room).cells ({ frames := 1, cells := 0, slots := 0, locals := 12 } : Room).slots) := by
  refine MetFree.of_bodySF (plainFor_of_name pn_1) hisR ?_
  intro p e s m args below meth c s₁ Bd hml0 hP hK
  obtain ⟨rfl, hZ, hh⟩ := hP
  have hx := Bd.exec
  have hby := Bd.bytes
  have hml : c.maxLocals = 1 := hml0
  have hown : s.vm.findClass "java/lang/Record" = some m.cls := findClass_of_methodNamed Bd.named
  have hnm := (name_of_methodNamed Bd.named Bd.method).1
  have X0 : Stand p l e ({ frames := 1, cells := 0, slots := 0, locals := 12 } : Room) s m #[(.ref a)] below meth c s₁ [] 0 0 := Stand.of_body Bd
  have e0 : s₁.heap = h0 := by rw [← hh, Bd.state]; rfl
  have N0 := Fr.nil n0
  obtain ⟨E0, hE0⟩ : ∃ z, z = s₁.setTop (entryFrame m #[(.ref a)] 1) := ⟨_, rfl⟩
  rw [← hE0]
  have go0 : ∀ tgt, Steps p.tables e below (s₁.setTop (mkF m 0 #[.val (.ref a)] [])) tgt → Steps p.tables e below E0 tgt := fun tgt kont => by rw [hE0]; exact castTop (ef_RC m a) kont
  have go1 : ∀ tgt, Steps p.tables e below (s₁.setTop (mkF m 1 #[.val (.ref a)] [(.ref a)])) tgt → Steps p.tables e below E0 tgt := fun tgt kont => go0 tgt (by
    show Steps p.tables e below (s₁.setTop (mkF m 0 #[.val (.ref a)] [])) tgt
    refine XS.aloadN X0.here hx rfl (hb hby dRC_0) rfl rfl ?_
    exact kont)
  obtain ⟨T2, X2, e2, st2⟩ := initO X0 hx hZ hown (hw _ (List.mem_of_getElem? (i := 17) rfl)) (hw _ (List.mem_of_getElem? (i := 18) rfl)) (hw _ (List.mem_of_getElem? (i := 19) rfl)) e0 (g := (mkF m 1 #[.val (.ref a)] [(.ref a)])) rfl (by rw [hml]; rfl) rfl (hb hby dRC_1) (by decide) (W := 0) (by show 2 * 0 + _ ≤ _; exact Nat.le_of_eq rfl) (by decide)
  have go2 : ∀ tgt, Steps p.tables e below (T2.setTop (mkF m 4 #[.val (.ref a)] [])) tgt → Steps p.tables e below E0 tgt := fun tgt kont => go1 tgt (st2 tgt kont)
  obtain ⟨fs, hr, hrun, hended, hW, hsame⟩ := X2.leave (v := none) (fun _ => rfl)
  refine ⟨_, _, go2 _ ?_, hrun, hended, _, _, rfl, ?_, ⟨_, rfl⟩, hW, hsame.mono (by decide) (by decide)⟩
  · show Steps p.tables e below (T2.setTop (mkF m 4 #[.val (.ref a)] [])) _
    exact X2.returnOut hx Bd.returns (hb hby dRC_4) hr
  · show QRC Z a h0 n0 _ T2.heap _
    rw [e2]
    exact ⟨rfl, N0, rfl⟩
theorem pd_2 : parseMethodDescriptor "()V" = some ⟨[], none⟩ := by decide +kernel
theorem pn_3 : plainName "com/example/turnwise/turnwise/script/Value$Number" = true := by first | (simp [plainName, overriddenIn]; done) | decide +kernel
theorem dNI_0 : decode prog_73_method_1_code 0 = .ok (.aload_n 0, 1) := by decide +kernel
theorem dNI_1 : decode prog_73_method_1_code 1 = .ok (.invokespecial 1, 3) := by decide +kernel
theorem dNI_4 : decode prog_73_method_1_code 4 = .ok (.aload_n 0, 1) := by decide +kernel
theorem dNI_5 : decode prog_73_method_1_code 5 = .ok (.dload_n 1, 1) := by decide +kernel
theorem dNI_6 : decode prog_73_method_1_code 6 = .ok (.putfield 7, 3) := by decide +kernel
theorem dNI_9 : decode prog_73_method_1_code 9 = .ok (.return_, 1) := by decide +kernel
theorem ef_NI (m : MethodId) (x0 : Addr) (x1 : UInt64) : entryFrame m #[(.ref x0), (.double x1)] 3 = mkF m 0 #[.val (.ref x0), .val (.double x1), .second] [] := by first | (simp [entryFrame, mkF, argsToLocals, Value.category, maxLocals]; done) | rfl
def QNI (Z : State) (a : Addr) (d : UInt64) (h0 : Heap) (n0 : Nat) (v : Option Value) (h : Heap) (L : List Loc) : Prop := v = none ∧ Fr n0 L ∧ Keep h0 h [a] ∧ Exa Z h a "com/example/turnwise/turnwise/script/Value$Number" ∧ Fld Z h a "com/example/turnwise/turnwise/script/Value$Number" "value" "D" (.double d)
set_option maxRecDepth 65536 in
set_option maxHeartbeats 40000000 in
theorem rmNI (l : Launch) (Z : State) (a0 : Array Value) (hw : ∀ d ∈ tables_1, d.before a0 Z = true) (ws : List Jvm.Cond) (a : Addr) (d : UInt64) (h0 : Heap) (n0 : Nat) (Z0 : n0 ≤ h0.size) (Ea : Exa Z h0 a "com/example/turnwise/turnwise/script/Value$Number") (ga : n0 ≤ a) (Fv : Fld Z h0 a "com/example/turnwise/turnwise/script/Value$Number" "value" "D" (.double (0 : UInt64))) :
    MetFree l (⟨"com/example/turnwise/turnwise/script/Value$Number", "<init>", "(D)V"⟩ : MethodName) (head1 (Jvm.Cond.code (⟨"com/example/turnwise/turnwise/script/Value$Number", "<init>", "(D)V"⟩ : MethodName) prog_73_method_1_code 3 none :: ws) ({ frames := 2, cells := 0, slots := 0, locals := 24 } : Room)) (fun as_ U => as_ = #[(.ref a), (.double d)] ∧ Z.Warmed39 U.vm ∧ U.heap = h0) (fun _ _ _ _ _ => True) (fun _ U o U' => ∃ v L, o = .returned v ∧ QNI Z a d h0 n0 v U'.heap L ∧ FrameEnd U o U' L ({ frames := 2, cells := 0, slots := 0, locals := 24 } : Room).cells ({ frames := 2, cells := 0, slots := 0, locals := 24 } : Room).slots) := by
  refine MetFree.of_bodySF (plainFor_of_name pn_3) hisR ?_
  intro p e s m args below meth c s₁ Bd hml0 hP hK
  obtain ⟨rfl, hZ, hh⟩ := hP
  have hx := Bd.exec
  have hby := Bd.bytes
  have hml : c.maxLocals = 3 := hml0
  have hown : s.vm.findClass "com/example/turnwise/turnwise/script/Value$Number" = some m.cls := findClass_of_methodNamed Bd.named
  have hnm := (name_of_methodNamed Bd.named Bd.method).1
  have X0 : Stand p l e ({ frames := 2, cells := 0, slots := 0, locals := 24 } : Room) s m #[(.ref a), (.double d)] below meth c s₁ [] 0 0 := Stand.of_body Bd
  have e0 : s₁.heap = h0 := by rw [← hh, Bd.state]; rfl
  have N0 := Fr.nil n0
  obtain ⟨E0, hE0⟩ : ∃ z, z = s₁.setTop (entryFrame m #[(.ref a), (.double d)] 3) := ⟨_, rfl⟩
  rw [← hE0]
  have go0 : ∀ tgt, Steps p.tables e below (s₁.setTop (mkF m 0 #[.val (.ref a), .val (.double d), .second] [])) tgt → Steps p.tables e below E0 tgt := fun tgt kont => by rw [hE0]; exact castTop (ef_NI m a d) kont
  have go1 : ∀ tgt, Steps p.tables e below (s₁.setTop (mkF m 1 #[.val (.ref a), .val (.double d), .second] [(.ref a)])) tgt → Steps p.tables e below E0 tgt := fun tgt kont => go0 tgt (by
    show Steps p.tables e below (s₁.setTop (mkF m 0 #[.val (.ref a), .val (.double d), .second] [])) tgt
    refine XS.aloadN X0.here hx rfl (hb hby dNI_0) rfl rfl ?_
    exact kont)
  obtain ⟨_, _, ⟨T2, L2, k2, n2⟩, -, X2, ⟨Lc2, hQ2, l2, y2, z2⟩, st2⟩ := X0.specialBack hx (y := (⟨"java/lang/Record", "<init>", "()V"⟩ : MethodName)) rfl hown (mvT hZ (hw _ (List.mem_of_getElem? (i := 12) rfl))) (mvT hZ (hw _ (List.mem_of_getElem? (i := 13) rfl))) (mvT hZ (hw _ (List.mem_of_getElem? (i := 16) rfl))) (by decide) (backOf (W := 0) (rmRC l Z a0 hw [] a h0 n0 Z0 ) hZ (hw _ (List.mem_of_getElem? (i := 16) rfl)) (hw _ (List.mem_of_getElem? (i := 15) rfl)) (by decide) (by decide)) (g := (mkF m 1 #[.val (.ref a), .val (.double d), .second] [(.ref a)])) rfl (by rw [hml]; rfl) (Steps.refl _) (a := a) (argsL := []) (rest := []) (lenOf pd_2 rfl) rfl (by show 2 * 0 + _ ≤ _; exact Nat.le_of_eq rfl) (hb hby dNI_1) (fun _ _ => ⟨rfl, e0, (by decide : 0 + 0 ≤ _), (by decide : 0 + 0 ≤ _)⟩)
  dsimp only [Pt.U, Pt.locs, Pt.cells, Pt.slots] at X2 l2 y2 z2 st2 hQ2
  subst l2 y2 z2
  obtain ⟨rfl, N2q, e2⟩ := hQ2
  have N2 := Fr.app N0 N2q
  have go2 : ∀ tgt, Steps p.tables e below (T2.setTop (mkF m 4 #[.val (.ref a), .val (.double d), .second] [])) tgt → Steps p.tables e below E0 tgt := fun tgt kont => go1 tgt (st2.trans kont)
  have go3 : ∀ tgt, Steps p.tables e below (T2.setTop (mkF m 6 #[.val (.ref a), .val (.double d), .second] [(.double d), (.ref a)])) tgt → Steps p.tables e below E0 tgt := fun tgt kont => go2 tgt (by
    show Steps p.tables e below (T2.setTop (mkF m 4 #[.val (.ref a), .val (.double d), .second] [])) tgt
    refine XS.aloadN X2.here hx rfl (hb hby dNI_4) rfl rfl ?_
    show Steps p.tables e below (T2.setTop (mkF m 5 #[.val (.ref a), .val (.double d), .second] [(.ref a)])) tgt
    refine XS.dloadN X2.here hx rfl (hb hby dNI_5) rfl ?_
    exact kont)
  obtain ⟨T4, h4, X4, e4, W4, st4⟩ := putF X2 hx hZ hown (host := "") (Or.inl (hw _ (List.mem_of_getElem? (i := 20) rfl))) Via.refl e2 Fv Ea (Or.inr ⟨(hw _ (List.mem_of_getElem? (i := 21) rfl)), rfl, hnm⟩) (hw _ (List.mem_of_getElem? (i := 7) rfl)) (ty := .double) (by decide) rfl rfl (g := (mkF m 6 #[.val (.ref a), .val (.double d), .second] [(.double d), (.ref a)])) rfl rfl (hb hby dNI_6)
  have z5 : n0 ≤ h4.size := Nat.le_trans Z0 (Keep.of_wr W4).1
  have K6 : Keep h0 h4 [a] := (Keep.refl h0 [a]).wr W4 (Or.inl (List.mem_of_getElem? (i := 0) rfl))
  have N4 := Fr.snoc X4 N2 ga
  have f7 : Fld Z h4 a "com/example/turnwise/turnwise/script/Value$Number" "value" "D" (.double d) := (Fv.same W4)
  have go4 : ∀ tgt, Steps p.tables e below (T4.setTop (mkF m 9 #[.val (.ref a), .val (.double d), .second] [])) tgt → Steps p.tables e below E0 tgt := fun tgt kont => go3 tgt (st4 tgt kont)
  have f8 : Exa Z h4 a "com/example/turnwise/turnwise/script/Value$Number" := (Ea.wr W4)
  obtain ⟨fs, hr, hrun, hended, hW, hsame⟩ := X4.leave (v := none) (fun _ => rfl)
  refine ⟨_, _, go4 _ ?_, hrun, hended, _, _, rfl, ?_, ⟨_, rfl⟩, hW, hsame.mono (by decide) (by decide)⟩
  · show Steps p.tables e below (T4.setTop (mkF m 9 #[.val (.ref a), .val (.double d), .second] [])) _
    exact X4.returnOut hx Bd.returns (hb hby dNI_9) hr
  · show QNI Z a d h0 n0 _ T4.heap _
    rw [e4]
    exact ⟨rfl, N4, K6, f8, f7⟩
theorem dT0_0 : decode prog_73_method_2_code 0 = .ok (.aload_n 0, 1) := by decide +kernel
theorem dT0_1 : decode prog_73_method_2_code 1 = .ok (.getfield 7, 3) := by decide +kernel
theorem dT0_4 : decode prog_73_method_2_code 4 = .ok (.dconst 0, 1) := by decide +kernel
theorem dT0_5 : decode prog_73_method_2_code 5 = .ok (.dcmp .l, 1) := by decide +kernel
theorem dT0_6 : decode prog_73_method_2_code 6 = .ok (.ifCond .eq 7, 3) := by decide +kernel
theorem dT0_13 : decode prog_73_method_2_code 13 = .ok (.iconst 0, 1) := by decide +kernel
theorem dT0_14 : decode prog_73_method_2_code 14 = .ok (.ireturn, 1) := by decide +kernel
theorem ef_T0 (m : MethodId) (x0 : Addr) : entryFrame m #[(.ref x0)] 1 = mkF m 0 #[.val (.ref x0)] [] := by first | (simp [entryFrame, mkF, argsToLocals, Value.category, maxLocals]; done) | rfl
def QT0 (Z : State) (a : Addr) (d : UInt64) (h0 : Heap) (n0 : Nat) (v : Option Value) (h : Heap) (L : List Loc) : Prop := v = some (.int (0 : Int32)) ∧ Fr n0 L ∧ h = h0
set_option maxRecDepth 65536 in
set_option maxHeartbeats 40000000 in
theorem rmT0 (l : Launch) (Z : State) (a0 : Array Value) (hw : ∀ d ∈ tables_1, d.before a0 Z = true) (ws : List Jvm.Cond) (a : Addr) (d : UInt64) (h0 : Heap) (n0 : Nat) (Z0 : n0 ≤ h0.size) (Fv : Fld Z h0 a "com/example/turnwise/turnwise/script/Value$Number" "value" "D" (.double d)) (hc : cmpValue (FP.dcmp d (0 : UInt64)) .l = (0 : Int32)) :
    MetFree l (⟨"com/example/turnwise/turnwise/script/Value$Number", "isTrue", "()Z"⟩ : MethodName) (head1 (Jvm.Cond.code (⟨"com/example/turnwise/turnwise/script/Value$Number", "isTrue", "()Z"⟩ : MethodName) prog_73_method_2_code 1 (some .boolean) :: ws) ({ frames := 0, cells := 0, slots := 0, locals := 0 } : Room)) (fun as_ U => as_ = #[(.ref a)] ∧ Z.Warmed39 U.vm ∧ U.heap = h0) (fun _ _ _ _ _ => True) (fun _ U o U' => ∃ v L, o = .returned v ∧ QT0 Z a d h0 n0 v U'.heap L ∧ FrameEnd U o U' L ({ frames := 0, cells := 0, slots := 0, locals := 0 } : Room).cells ({ frames := 0, cells := 0, slots := 0, locals := 0 } : Room).slots) := by
  refine MetFree.of_bodySF (plainFor_of_name pn_3) hisR ?_
  intro p e s m args below meth c s₁ Bd hml0 hP hK
  obtain ⟨rfl, hZ, hh⟩ := hP
  have hx := Bd.exec
  have hby := Bd.bytes
  have hml : c.maxLocals = 1 := hml0
  have hown : s.vm.findClass "com/example/turnwise/turnwise/script/Value$Number" = some m.cls := findClass_of_methodNamed Bd.named
  have hnm := (name_of_methodNamed Bd.named Bd.method).1
  have X0 : Stand p l e ({ frames := 0, cells := 0, slots := 0, locals := 0 } : Room) s m #[(.ref a)] below meth c s₁ [] 0 0 := Stand.of_body Bd
  have e0 : s₁.heap = h0 := by rw [← hh, Bd.state]; rfl
  have N0 := Fr.nil n0
  obtain ⟨E0, hE0⟩ : ∃ z, z = s₁.setTop (entryFrame m #[(.ref a)] 1) := ⟨_, rfl⟩
  rw [← hE0]
  have go0 : ∀ tgt, Steps p.tables e below (s₁.setTop (mkF m 0 #[.val (.ref a)] [])) tgt → Steps p.tables e below E0 tgt := fun tgt kont => by rw [hE0]; exact castTop (ef_T0 m a) kont
  have go1 : ∀ tgt, Steps p.tables e below (s₁.setTop (mkF m 1 #[.val (.ref a)] [(.ref a)])) tgt → Steps p.tables e below E0 tgt := fun tgt kont => go0 tgt (by
    show Steps p.tables e below (s₁.setTop (mkF m 0 #[.val (.ref a)] [])) tgt
    refine XS.aloadN X0.here hx rfl (hb hby dT0_0) rfl rfl ?_
    exact kont)
  obtain ⟨T2, X2, e2, st2⟩ := getF X0 hx hZ hown (host := "") (Or.inl (hw _ (List.mem_of_getElem? (i := 20) rfl))) Via.refl e0 Fv (g := (mkF m 1 #[.val (.ref a)] [(.ref a)])) rfl rfl (hb hby dT0_1)
  have go2 : ∀ tgt, Steps p.tables e below (T2.setTop (mkF m 4 #[.val (.ref a)] [(.double d)])) tgt → Steps p.tables e below E0 tgt := fun tgt kont => go1 tgt (st2 tgt kont)
  have go3 : ∀ tgt, Steps p.tables e below (T2.setTop (mkF m 14 #[.val (.ref a)] [(.int (0 : Int32))])) tgt → Steps p.tables e below E0 tgt := fun tgt kont => go2 tgt (by
    show Steps p.tables e below (T2.setTop (mkF m 4 #[.val (.ref a)] [(.double d)])) tgt
    refine XS.dconst0 X2.here hx rfl (v := (0 : UInt64)) (hb hby dT0_4) (by decide) ?_
    show Steps p.tables e below (T2.setTop (mkF m 5 #[.val (.ref a)] [(.double (0 : UInt64)), (.double d)])) tgt
    refine XS.dcmpS X2.here hx rfl (hb hby dT0_5) rfl rfl ?_
    show Steps p.tables e below (T2.setTop (mkF m 6 #[.val (.ref a)] [(.int (cmpValue (FP.dcmp d (0 : UInt64)) .l))])) tgt
    refine XS.ifYes X2.here hx rfl (pc0 := 6) (pc' := 13) rfl (hb hby dT0_6) rfl ((if0 _ _).trans (teq hc).1) (by decide) (by decide) ?_
    show Steps p.tables e below (T2.setTop (mkF m 13 #[.val (.ref a)] [])) tgt
    refine XS.iconst X2.here hx rfl (hb hby dT0_13) ?_
    exact kont)
  obtain ⟨fs, hr, hrun, hended, hW, hsame⟩ := X2.leave (v := some (.int (0 : Int32))) (fun h => by rw [Bd.returns] at h; cases h)
  refine ⟨_, _, go3 _ ?_, hrun, hended, _, _, rfl, ?_, ⟨_, rfl⟩, hW, hsame.mono (by decide) (by decide)⟩
  · show Steps p.tables e below (T2.setTop (mkF m 14 #[.val (.ref a)] [(.int (0 : Int32))])) _
    exact retN X2 hx (t := .boolean) Bd.returns (by simp) (hb hby dT0_14) hr
  · show QT0 Z a d h0 n0 _ T2.heap _
    rw [e2]
    exact ⟨rfl, N0, rfl⟩
theorem dT1_0 : decode prog_73_method_2_code 0 = .ok (.aload_n 0, 1) := by decide +kernel
theorem dT1_1 : decode prog_73_method_2_code 1 = .ok (.getfield 7, 3) := by decide +kernel
theorem dT1_4 : decode prog_73_method_2_code 4 = .ok (.dconst 0, 1) := by decide +kernel
theorem dT1_5 : decode prog_73_method_2_code 5 = .ok (.dcmp .l, 1) := by decide +kernel
theorem dT1_6 : decode prog_73_method_2_code 6 = .ok (.ifCond .eq 7, 3) := by decide +kernel
theorem dT1_9 : decode prog_73_method_2_code 9 = .ok (.iconst 1, 1) := by decide +kernel
theorem dT1_10 : decode prog_73_method_2_code 10 = .ok (.goto 4, 3) := by decide +kernel
theorem dT1_14 : decode prog_73_method_2_code 14 = .ok (.ireturn, 1) := by decide +kernel
theorem ef_T1 (m : MethodId) (x0 : Addr) : entryFrame m #[(.ref x0)] 1 = mkF m 0 #[.val (.ref x0)] [] := by first | (simp [entryFrame, mkF, argsToLocals, Value.category, maxLocals]; done) | rfl
def QT1 (Z : State) (a : Addr) (d : UInt64) (h0 : Heap) (n0 : Nat) (v : Option Value) (h : Heap) (L : List Loc) : Prop := v = some (.int (1 : Int32)) ∧ Fr n0 L ∧ h = h0
set_option maxRecDepth 65536 in
set_option maxHeartbeats 40000000 in
theorem rmT1 (l : Launch) (Z : State) (a0 : Array Value) (hw : ∀ d ∈ tables_1, d.before a0 Z = true) (ws : List Jvm.Cond) (a : Addr) (d : UInt64) (h0 : Heap) (n0 : Nat) (Z0 : n0 ≤ h0.size) (Fv : Fld Z h0 a "com/example/turnwise/turnwise/script/Value$Number" "value" "D" (.double d)) (hc : ¬ cmpValue (FP.dcmp d (0 : UInt64)) .l = (0 : Int32)) :
    MetFree l (⟨"com/example/turnwise/turnwise/script/Value$Number", "isTrue", "()Z"⟩ : MethodName) (head1 (Jvm.Cond.code (⟨"com/example/turnwise/turnwise/script/Value$Number", "isTrue", "()Z"⟩ : MethodName) prog_73_method_2_code 1 (some .boolean) :: ws) ({ frames := 0, cells := 0, slots := 0, locals := 0 } : Room)) (fun as_ U => as_ = #[(.ref a)] ∧ Z.Warmed39 U.vm ∧ U.heap = h0) (fun _ _ _ _ _ => True) (fun _ U o U' => ∃ v L, o = .returned v ∧ QT1 Z a d h0 n0 v U'.heap L ∧ FrameEnd U o U' L ({ frames := 0, cells := 0, slots := 0, locals := 0 } : Room).cells ({ frames := 0, cells := 0, slots := 0, locals := 0 } : Room).slots) := by
  refine MetFree.of_bodySF (plainFor_of_name pn_3) hisR ?_
  intro p e s m args below meth c s₁ Bd hml0 hP hK
  obtain ⟨rfl, hZ, hh⟩ := hP
  have hx := Bd.exec
  have hby := Bd.bytes
  have hml : c.maxLocals = 1 := hml0
  have hown : s.vm.findClass "com/example/turnwise/turnwise/script/Value$Number" = some m.cls := findClass_of_methodNamed Bd.named
  have hnm := (name_of_methodNamed Bd.named Bd.method).1
  have X0 : Stand p l e ({ frames := 0, cells := 0, slots := 0, locals := 0 } : Room) s m #[(.ref a)] below meth c s₁ [] 0 0 := Stand.of_body Bd
  have e0 : s₁.heap = h0 := by rw [← hh, Bd.state]; rfl
  have N0 := Fr.nil n0
  obtain ⟨E0, hE0⟩ : ∃ z, z = s₁.setTop (entryFrame m #[(.ref a)] 1) := ⟨_, rfl⟩
  rw [← hE0]
  have go0 : ∀ tgt, Steps p.tables e below (s₁.setTop (mkF m 0 #[.val (.ref a)] [])) tgt → Steps p.tables e below E0 tgt := fun tgt kont => by rw [hE0]; exact castTop (ef_T1 m a) kont
  have go1 : ∀ tgt, Steps p.tables e below (s₁.setTop (mkF m 1 #[.val (.ref a)] [(.ref a)])) tgt → Steps p.tables e below E0 tgt := fun tgt kont => go0 tgt (by
    show Steps p.tables e below (s₁.setTop (mkF m 0 #[.val (.ref a)] [])) tgt
    refine XS.aloadN X0.here hx rfl (hb hby dT1_0) rfl rfl ?_
    exact kont)
  obtain ⟨T2, X2, e2, st2⟩ := getF X0 hx hZ hown (host := "") (Or.inl (hw _ (List.mem_of_getElem? (i := 20) rfl))) Via.refl e0 Fv (g := (mkF m 1 #[.val (.ref a)] [(.ref a)])) rfl rfl (hb hby dT1_1)
  have go2 : ∀ tgt, Steps p.tables e below (T2.setTop (mkF m 4 #[.val (.ref a)] [(.double d)])) tgt → Steps p.tables e below E0 tgt := fun tgt kont => go1 tgt (st2 tgt kont)
  have go3 : ∀ tgt, Steps p.tables e below (T2.setTop (mkF m 14 #[.val (.ref a)] [(.int (1 : Int32))])) tgt → Steps p.tables e below E0 tgt := fun tgt kont => go2 tgt (by
    show Steps p.tables e below (T2.setTop (mkF m 4 #[.val (.ref a)] [(.double d)])) tgt
    refine XS.dconst0 X2.here hx rfl (v := (0 : UInt64)) (hb hby dT1_4) (by decide) ?_
    show Steps p.tables e below (T2.setTop (mkF m 5 #[.val (.ref a)] [(.double (0 : UInt64)), (.double d)])) tgt
    refine XS.dcmpS X2.here hx rfl (hb hby dT1_5) rfl rfl ?_
    show Steps p.tables e below (T2.setTop (mkF m 6 #[.val (.ref a)] [(.int (cmpValue (FP.dcmp d (0 : UInt64)) .l))])) tgt
    refine XS.ifNo X2.here hx rfl (hb hby dT1_6) rfl ((if0 _ _).trans (feq hc).1) ?_
    show Steps p.tables e below (T2.setTop (mkF m 9 #[.val (.ref a)] [])) tgt
    refine XS.iconst X2.here hx rfl (hb hby dT1_9) ?_
    show Steps p.tables e below (T2.setTop (mkF m 10 #[.val (.ref a)] [(.int (1 : Int32))])) tgt
    refine XS.goto X2.here hx rfl (pc0 := 10) (pc' := 14) rfl (hb hby dT1_10) (by decide) (by decide) ?_
    exact kont)
  obtain ⟨fs, hr, hrun, hended, hW, hsame⟩ := X2.leave (v := some (.int (1 : Int32))) (fun h => by rw [Bd.returns] at h; cases h)
  refine ⟨_, _, go3 _ ?_, hrun, hended, _, _, rfl, ?_, ⟨_, rfl⟩, hW, hsame.mono (by decide) (by decide)⟩
  · show Steps p.tables e below (T2.setTop (mkF m 14 #[.val (.ref a)] [(.int (1 : Int32))])) _
    exact retN X2 hx (t := .boolean) Bd.returns (by simp) (hb hby dT1_14) hr
  · show QT1 Z a d h0 n0 _ T2.heap _
    rw [e2]
    exact ⟨rfl, N0, rfl⟩
def own_k (p1 : Int32) : Int32 := ((p1 &&& (2147483647 : Int32)) % (5 : Int32))
theorem pd_4 : parseMethodDescriptor "(II)D" = some ⟨[.int, .int], some .double⟩ := by decide +kernel
theorem pd_5 : parseMethodDescriptor "(D)V" = some ⟨[.double], none⟩ := by decide +kernel
theorem pd_6 : parseMethodDescriptor "()Z" = some ⟨[], some .boolean⟩ := by decide +kernel
theorem ef_L (m : MethodId) (x0 : Int32) (x1 : Int32) : entryFrame m #[(.int x0), (.int x1)] maxLocals = mkF m 0 #[.val (.int x0), .val (.int x1), .unset, .unset, .unset, .unset, .unset] [] := by first | (simp [entryFrame, mkF, argsToLocals, Value.category, maxLocals]; done) | rfl
def QL (Z : State) (p0 : Int32) (p1 : Int32) (h0 : Heap) (n0 : Nat) (v : Option Value) (h : Heap) (L : List Loc) : Prop := v = some (.int 1) ∧ Fr n0 L
set_option maxRecDepth 65536 in
set_option maxHeartbeats 40000000 in
theorem rmL (l : Launch) (Z : State) (a0 : Array Value) (hw : ∀ d ∈ tables_1, d.before a0 Z = true) (ws : List Jvm.Cond) (p0 : Int32) (p1 : Int32) (h0 : Heap) (n0 : Nat) (Z0 : n0 ≤ h0.size) :
    MetFree l x (head1 (Jvm.Cond.code x code maxLocals ret :: ws) room_1) (fun as_ U => as_ = #[(.int p0), (.int p1)] ∧ Z.Warmed39 U.vm ∧ U.heap = h0) (fun _ _ _ _ _ => True) (fun _ U o U' => ∃ v L, o = .returned v ∧ QL Z p0 p1 h0 n0 v U'.heap L ∧ FrameEnd U o U' L 1 1) := by
  refine MetFree.of_bodySF (plainFor_of_name pn_0) hisR ?_
  intro p e s m args below meth c s₁ Bd hml0 hP hK
  obtain ⟨rfl, hZ, hh⟩ := hP
  have hx := Bd.exec
  have hby := Bd.bytes
  have hml : c.maxLocals = 7 := hml0
  have hown : s.vm.findClass "com/example/turnwise/turnwise/script/NumberIsTruePinLaw" = some m.cls := findClass_of_methodNamed Bd.named
  have hnm := (name_of_methodNamed Bd.named Bd.method).1
  have X0 : Stand p l e room_1 s m #[(.int p0), (.int p1)] below meth c s₁ [] 0 0 := Stand.of_body Bd
  have e0 : s₁.heap = h0 := by rw [← hh, Bd.state]; rfl
  have N0 := Fr.nil n0
  obtain ⟨E0, hE0⟩ : ∃ z, z = s₁.setTop (entryFrame m #[(.int p0), (.int p1)] maxLocals) := ⟨_, rfl⟩
  rw [← hE0]
  have go0 : ∀ tgt, Steps p.tables e below (s₁.setTop (mkF m 0 #[.val (.int p0), .val (.int p1), .unset, .unset, .unset, .unset, .unset] [])) tgt → Steps p.tables e below E0 tgt := fun tgt kont => by rw [hE0]; exact castTop (ef_L m p0 p1) kont
  have go1 : ∀ tgt, Steps p.tables e below (s₁.setTop (mkF m 9 #[.val (.int p0), .val (.int p1), .val (.int (own_k p1)), .unset, .unset, .unset, .unset] [(.int (own_k p1)), (.int p0)])) tgt → Steps p.tables e below E0 tgt := fun tgt kont => go0 tgt (by
    show Steps p.tables e below (s₁.setTop (mkF m 0 #[.val (.int p0), .val (.int p1), .unset, .unset, .unset, .unset, .unset] [])) tgt
    refine XS.iloadN X0.here hx rfl (hb hby at_0) rfl ?_
    show Steps p.tables e below (s₁.setTop (mkF m 1 #[.val (.int p0), .val (.int p1), .unset, .unset, .unset, .unset, .unset] [(.int p1)])) tgt
    refine X0.ldcInt hx hown (mvT hZ (hw _ (List.mem_of_getElem? (i := 0) rfl))) (g := (mkF m 1 #[.val (.int p0), .val (.int p1), .unset, .unset, .unset, .unset, .unset] [(.int p1)])) rfl (hb hby at_1) _ ?_
    show Steps p.tables e below (s₁.setTop (mkF m 3 #[.val (.int p0), .val (.int p1), .unset, .unset, .unset, .unset, .unset] [(.int (2147483647 : Int32)), (.int p1)])) tgt
    refine XS.iand X0.here hx rfl (hb hby at_3) rfl ?_
    show Steps p.tables e below (s₁.setTop (mkF m 4 #[.val (.int p0), .val (.int p1), .unset, .unset, .unset, .unset, .unset] [(.int (p1 &&& (2147483647 : Int32)))])) tgt
    refine XS.iconst X0.here hx rfl (hb hby at_4) ?_
    show Steps p.tables e below (s₁.setTop (mkF m 5 #[.val (.int p0), .val (.int p1), .unset, .unset, .unset, .unset, .unset] [(.int (5 : Int32)), (.int (p1 &&& (2147483647 : Int32)))])) tgt
    refine Jvm.RoadKit.iremM X0 hx rfl (hb hby at_5) rfl (by decide) ?_
    show Steps p.tables e below (s₁.setTop (mkF m 6 #[.val (.int p0), .val (.int p1), .unset, .unset, .unset, .unset, .unset] [(.int (own_k p1))])) tgt
    refine XS.istoreN X0.here hx rfl (hb hby at_6) rfl (l' := #[.val (.int p0), .val (.int p1), .val (.int (own_k p1)), .unset, .unset, .unset, .unset]) rfl ?_
    show Steps p.tables e below (s₁.setTop (mkF m 7 #[.val (.int p0), .val (.int p1), .val (.int (own_k p1)), .unset, .unset, .unset, .unset] [])) tgt
    refine XS.iloadN X0.here hx rfl (hb hby at_7) rfl ?_
    show Steps p.tables e below (s₁.setTop (mkF m 8 #[.val (.int p0), .val (.int p1), .val (.int (own_k p1)), .unset, .unset, .unset, .unset] [(.int p0)])) tgt
    refine XS.iloadN X0.here hx rfl (hb hby at_8) rfl ?_
    exact kont)
  obtain ⟨_, _, ⟨T2, L2, k2, n2⟩, -, X2, ⟨Lc2, hQ2, l2, y2, z2⟩, st2⟩ := Jvm.LawKit.callS X0 hx (y := (⟨"com/example/turnwise/turnwise/script/NumberIsTruePinLaw", "make", "(II)D"⟩ : MethodName)) hown (mvT hZ (hw _ (List.mem_of_getElem? (i := 1) rfl))) (mvT hZ (hw _ (List.mem_of_getElem? (i := 2) rfl))) (mvT hZ (hw _ (List.mem_of_getElem? (i := 3) rfl))) (mvT hZ (hw _ (List.mem_of_getElem? (i := 4) rfl))) (by decide) (backOf (W := 0) (rmMK l Z a0 hw [] p0 (own_k p1) h0 n0 Z0 ) hZ (hw _ (List.mem_of_getElem? (i := 4) rfl)) (hw _ (List.mem_of_getElem? (i := 3) rfl)) (by decide) (by decide)) (g := (mkF m 9 #[.val (.int p0), .val (.int p1), .val (.int (own_k p1)), .unset, .unset, .unset, .unset] [(.int (own_k p1)), (.int p0)])) rfl (by rw [hml]; rfl) (argsL := [(.int p0), (.int (own_k p1))]) (rest := []) (lenOf pd_4 rfl) rfl (by show 2 * 0 + _ ≤ _; exact Nat.le_of_eq rfl) (hb hby at_9) (fun _ _ => ⟨rfl, e0, (by decide : 0 + 0 ≤ _), (by decide : 0 + 0 ≤ _)⟩)
  dsimp only [Pt.U, Pt.locs, Pt.cells, Pt.slots] at X2 l2 y2 z2 st2 hQ2
  subst l2 y2 z2
  obtain ⟨rfl, N2q, e2⟩ := hQ2
  have N2 := Fr.app N0 N2q
  have go2 : ∀ tgt, Steps p.tables e below (T2.setTop (mkF m 12 #[.val (.int p0), .val (.int p1), .val (.int (own_k p1)), .unset, .unset, .unset, .unset] [(.double (own_mk p0 (own_k p1)))])) tgt → Steps p.tables e below E0 tgt := fun tgt kont => go1 tgt (st2 tgt kont)
  have go3 : ∀ tgt, Steps p.tables e below (T2.setTop (mkF m 13 #[.val (.int p0), .val (.int p1), .val (.int (own_k p1)), .val (.double (own_mk p0 (own_k p1))), .second, .unset, .unset] [])) tgt → Steps p.tables e below E0 tgt := fun tgt kont => go2 tgt (by
    show Steps p.tables e below (T2.setTop (mkF m 12 #[.val (.int p0), .val (.int p1), .val (.int (own_k p1)), .unset, .unset, .unset, .unset] [(.double (own_mk p0 (own_k p1)))])) tgt
    refine XS.dstoreN X2.here hx rfl (hb hby at_12) rfl (l' := #[.val (.int p0), .val (.int p1), .val (.int (own_k p1)), .val (.double (own_mk p0 (own_k p1))), .second, .unset, .unset]) rfl ?_
    exact kont)
  obtain ⟨T4, h4, X4, e4, E4, A4, D4, -, st4⟩ := newO X2 hx hZ hown (hw _ (List.mem_of_getElem? (i := 6) rfl)) (hw _ (List.mem_of_getElem? (i := 7) rfl)) (hw _ (List.mem_of_getElem? (i := 8) rfl)) e2 (g := (mkF m 13 #[.val (.int p0), .val (.int p1), .val (.int (own_k p1)), .val (.double (own_mk p0 (own_k p1))), .second, .unset, .unset] [])) rfl (hb hby at_13) (by decide) (by decide)
  obtain ⟨b, g4⟩ : ∃ z, z = h0.size := ⟨_, rfl⟩
  rw [← g4] at A4 D4 st4
  have ge_b : n0 ≤ b := Nat.le_trans Z0 (Nat.le_of_eq g4.symm)
  have z5 : n0 ≤ h4.size := Nat.le_trans Z0 E4.1
  have Fvalue_b : Fld Z h4 b "com/example/turnwise/turnwise/script/Value$Number" "value" "D" (.double (0 : UInt64)) := D4 (Or.inr (hw _ (List.mem_of_getElem? (i := 21) rfl))) (ty := .double) (by decide)
  have go4 : ∀ tgt, Steps p.tables e below (T4.setTop (mkF m 16 #[.val (.int p0), .val (.int p1), .val (.int (own_k p1)), .val (.double (own_mk p0 (own_k p1))), .second, .unset, .unset] [(.ref b)])) tgt → Steps p.tables e below E0 tgt := fun tgt kont => go3 tgt (st4 tgt kont)
  have go6 : ∀ tgt, Steps p.tables e below (T4.setTop (mkF m 18 #[.val (.int p0), .val (.int p1), .val (.int (own_k p1)), .val (.double (own_mk p0 (own_k p1))), .second, .unset, .unset] [(.double (own_mk p0 (own_k p1))), (.ref b), (.ref b)])) tgt → Steps p.tables e below E0 tgt := fun tgt kont => go4 tgt (by
    show Steps p.tables e below (T4.setTop (mkF m 16 #[.val (.int p0), .val (.int p1), .val (.int (own_k p1)), .val (.double (own_mk p0 (own_k p1))), .second, .unset, .unset] [(.ref b)])) tgt
    refine XS.dup X4.here hx rfl (hb hby at_16) rfl rfl ?_
    show Steps p.tables e below (T4.setTop (mkF m 17 #[.val (.int p0), .val (.int p1), .val (.int (own_k p1)), .val (.double (own_mk p0 (own_k p1))), .second, .unset, .unset] [(.ref b), (.ref b)])) tgt
    refine XS.dloadN X4.here hx rfl (hb hby at_17) rfl ?_
    exact kont)
  obtain ⟨_, _, ⟨T7, L7, k7, n7⟩, -, X7, ⟨Lc7, hQ7, l7, y7, z7⟩, st7⟩ := X4.specialBack hx (y := (⟨"com/example/turnwise/turnwise/script/Value$Number", "<init>", "(D)V"⟩ : MethodName)) rfl hown (mvT hZ (hw _ (List.mem_of_getElem? (i := 9) rfl))) (mvT hZ (hw _ (List.mem_of_getElem? (i := 10) rfl))) (mvT hZ (hw _ (List.mem_of_getElem? (i := 11) rfl))) (by decide) (backOf (W := 1) (rmNI l Z a0 hw [] b (own_mk p0 (own_k p1)) h4 n0 z5 A4 ge_b Fvalue_b) hZ (hw _ (List.mem_of_getElem? (i := 11) rfl)) (hw _ (List.mem_of_getElem? (i := 8) rfl)) (by decide) (by decide)) (g := (mkF m 18 #[.val (.int p0), .val (.int p1), .val (.int (own_k p1)), .val (.double (own_mk p0 (own_k p1))), .second, .unset, .unset] [(.double (own_mk p0 (own_k p1))), (.ref b), (.ref b)])) rfl (by rw [hml]; rfl) (Steps.refl _) (a := b) (argsL := [(.double (own_mk p0 (own_k p1)))]) (rest := [(.ref b)]) (lenOf pd_5 rfl) rfl (by show 2 * 0 + _ ≤ _; exact Nat.le_of_eq rfl) (hb hby at_18) (fun _ _ => ⟨rfl, e4, (by decide : 1 + 0 ≤ _), (by decide : 1 + 0 ≤ _)⟩)
  dsimp only [Pt.U, Pt.locs, Pt.cells, Pt.slots] at X7 l7 y7 z7 st7 hQ7
  subst l7 y7 z7
  obtain ⟨rfl, N7q, KA, EA, FA⟩ := hQ7
  have N7 := Fr.app N2 N7q
  have z8 : n0 ≤ T7.heap.size := Nat.le_trans z5 KA.1
  have go7 : ∀ tgt, Steps p.tables e below (T7.setTop (mkF m 21 #[.val (.int p0), .val (.int p1), .val (.int (own_k p1)), .val (.double (own_mk p0 (own_k p1))), .second, .unset, .unset] [(.ref b)])) tgt → Steps p.tables e below E0 tgt := fun tgt kont => go6 tgt (st7.trans kont)
  have go9 : ∀ tgt, Steps p.tables e below (T7.setTop (mkF m 24 #[.val (.int p0), .val (.int p1), .val (.int (own_k p1)), .val (.double (own_mk p0 (own_k p1))), .second, .val (.ref b), .unset] [(.int p0)])) tgt → Steps p.tables e below E0 tgt := fun tgt kont => go7 tgt (by
    show Steps p.tables e below (T7.setTop (mkF m 21 #[.val (.int p0), .val (.int p1), .val (.int (own_k p1)), .val (.double (own_mk p0 (own_k p1))), .second, .unset, .unset] [(.ref b)])) tgt
    refine XS.astore X7.here hx rfl (hb hby at_21) rfl rfl (l' := #[.val (.int p0), .val (.int p1), .val (.int (own_k p1)), .val (.double (own_mk p0 (own_k p1))), .second, .val (.ref b), .unset]) rfl ?_
    show Steps p.tables e below (T7.setTop (mkF m 23 #[.val (.int p0), .val (.int p1), .val (.int (own_k p1)), .val (.double (own_mk p0 (own_k p1))), .second, .val (.ref b), .unset] [])) tgt
    refine XS.iloadN X7.here hx rfl (hb hby at_23) rfl ?_
    exact kont)
  by_cases hz : p0 = (0 : Int32)
  · have go10 : ∀ tgt, Steps p.tables e below (T7.setTop (mkF m 36 #[.val (.int p0), .val (.int p1), .val (.int (own_k p1)), .val (.double (own_mk p0 (own_k p1))), .second, .val (.ref b), .val (.int (0 : Int32))] [(.ref b)])) tgt → Steps p.tables e below E0 tgt := fun tgt kont => go9 tgt (by
      show Steps p.tables e below (T7.setTop (mkF m 24 #[.val (.int p0), .val (.int p1), .val (.int (own_k p1)), .val (.double (own_mk p0 (own_k p1))), .second, .val (.ref b), .unset] [(.int p0)])) tgt
      refine XS.ifYes X7.here hx rfl (pc0 := 24) (pc' := 31) rfl (hb hby at_24) rfl ((if0 _ _).trans (teq hz).1) (by decide) (by decide) ?_
      show Steps p.tables e below (T7.setTop (mkF m 31 #[.val (.int p0), .val (.int p1), .val (.int (own_k p1)), .val (.double (own_mk p0 (own_k p1))), .second, .val (.ref b), .unset] [])) tgt
      refine XS.iconst X7.here hx rfl (hb hby at_31) ?_
      show Steps p.tables e below (T7.setTop (mkF m 32 #[.val (.int p0), .val (.int p1), .val (.int (own_k p1)), .val (.double (own_mk p0 (own_k p1))), .second, .val (.ref b), .unset] [(.int (0 : Int32))])) tgt
      refine XS.istore X7.here hx rfl (hb hby at_32) rfl (l' := #[.val (.int p0), .val (.int p1), .val (.int (own_k p1)), .val (.double (own_mk p0 (own_k p1))), .second, .val (.ref b), .val (.int (0 : Int32))]) rfl ?_
      show Steps p.tables e below (T7.setTop (mkF m 34 #[.val (.int p0), .val (.int p1), .val (.int (own_k p1)), .val (.double (own_mk p0 (own_k p1))), .second, .val (.ref b), .val (.int (0 : Int32))] [])) tgt
      refine XS.aload X7.here hx rfl (hb hby at_34) rfl rfl ?_
      exact kont)
    obtain ⟨cq11, kq11, q11a, q11b, q11c⟩ := isOf hZ rfl EA
    obtain ⟨_, _, ⟨T11, L11, k11, n11⟩, -, X11, ⟨Lc11, hQ11, l11, y11, z11⟩, st11⟩ := X7.virtualBack hx (y := (⟨"com/example/turnwise/turnwise/script/Value$Number", "isTrue", "()Z"⟩ : MethodName)) (z := (⟨"com/example/turnwise/turnwise/script/Value$Number", "isTrue", "()Z"⟩ : MethodName)) hown (mvT hZ (hw _ (List.mem_of_getElem? (i := 22) rfl))) (mvT hZ (hw _ (List.mem_of_getElem? (i := 23) rfl))) (notFace_of_selects (args := #[]) (mvT hZ (hw _ (List.mem_of_getElem? (i := 25) rfl)))) (mvT hZ (hw _ (List.mem_of_getElem? (i := 25) rfl))) (mvT hZ (hw _ (List.mem_of_getElem? (i := 24) rfl))) (by decide) (backOf (W := 0) (rmT0 l Z a0 hw [] b (own_mk p0 (own_k p1)) T7.heap n0 z8 FA (own_zero hz (own_k p1))) hZ (hw _ (List.mem_of_getElem? (i := 26) rfl)) (hw _ (List.mem_of_getElem? (i := 8) rfl)) (by decide) (by decide)) q11a q11c (g := (mkF m 36 #[.val (.int p0), .val (.int p1), .val (.int (own_k p1)), .val (.double (own_mk p0 (own_k p1))), .second, .val (.ref b), .val (.int (0 : Int32))] [(.ref b)])) rfl (by rw [hml]; rfl) (Steps.refl _) (argsL := []) (rest := []) (lenOf pd_6 rfl) rfl (by show 2 * 0 + _ ≤ _; exact Nat.le_of_eq rfl) (hb hby at_36) (fun _ _ => ⟨rfl, rfl, (by decide : 1 + 0 ≤ _), (by decide : 1 + 0 ≤ _)⟩)
    dsimp only [Pt.U, Pt.locs, Pt.cells, Pt.slots] at X11 l11 y11 z11 st11 hQ11
    subst l11 y11 z11
    obtain ⟨rfl, N11q, e11⟩ := hQ11
    have N11 := Fr.app N7 N11q
    have go11 : ∀ tgt, Steps p.tables e below (T11.setTop (mkF m 39 #[.val (.int p0), .val (.int p1), .val (.int (own_k p1)), .val (.double (own_mk p0 (own_k p1))), .second, .val (.ref b), .val (.int (0 : Int32))] [(.int (0 : Int32))])) tgt → Steps p.tables e below E0 tgt := fun tgt kont => go10 tgt (st11.trans kont)
    have go12 : ∀ tgt, Steps p.tables e below (T11.setTop (mkF m 49 #[.val (.int p0), .val (.int p1), .val (.int (own_k p1)), .val (.double (own_mk p0 (own_k p1))), .second, .val (.ref b), .val (.int (0 : Int32))] [(.int (1 : Int32))])) tgt → Steps p.tables e below E0 tgt := fun tgt kont => go11 tgt (by
      show Steps p.tables e below (T11.setTop (mkF m 39 #[.val (.int p0), .val (.int p1), .val (.int (own_k p1)), .val (.double (own_mk p0 (own_k p1))), .second, .val (.ref b), .val (.int (0 : Int32))] [(.int (0 : Int32))])) tgt
      refine XS.iload X11.here hx rfl (hb hby at_39) rfl ?_
      show Steps p.tables e below (T11.setTop (mkF m 41 #[.val (.int p0), .val (.int p1), .val (.int (own_k p1)), .val (.double (own_mk p0 (own_k p1))), .second, .val (.ref b), .val (.int (0 : Int32))] [(.int (0 : Int32)), (.int (0 : Int32))])) tgt
      refine XS.icmpNo X11.here hx rfl (hb hby at_41) rfl (teq rfl).2 ?_
      show Steps p.tables e below (T11.setTop (mkF m 44 #[.val (.int p0), .val (.int p1), .val (.int (own_k p1)), .val (.double (own_mk p0 (own_k p1))), .second, .val (.ref b), .val (.int (0 : Int32))] [])) tgt
      refine XS.iconst X11.here hx rfl (hb hby at_44) ?_
      show Steps p.tables e below (T11.setTop (mkF m 45 #[.val (.int p0), .val (.int p1), .val (.int (own_k p1)), .val (.double (own_mk p0 (own_k p1))), .second, .val (.ref b), .val (.int (0 : Int32))] [(.int (1 : Int32))])) tgt
      refine XS.goto X11.here hx rfl (pc0 := 45) (pc' := 49) rfl (hb hby at_45) (by decide) (by decide) ?_
      exact kont)
    obtain ⟨fs, hr, hrun, hended, hW, hsame⟩ := X11.leave (v := some (.int (1 : Int32))) (fun h => by rw [Bd.returns] at h; cases h)
    refine ⟨_, _, go12 _ ?_, hrun, hended, _, _, rfl, ?_, ⟨_, rfl⟩, hW, hsame.mono (by decide) (by decide)⟩
    · show Steps p.tables e below (T11.setTop (mkF m 49 #[.val (.int p0), .val (.int p1), .val (.int (own_k p1)), .val (.double (own_mk p0 (own_k p1))), .second, .val (.ref b), .val (.int (0 : Int32))] [(.int (1 : Int32))])) _
      exact retN X11 hx (t := .boolean) Bd.returns (by simp) (hb hby at_49) hr
    · show QL Z p0 p1 h0 n0 _ T11.heap _
      rw [e11]
      exact ⟨rfl, N11⟩
  · have go13 : ∀ tgt, Steps p.tables e below (T7.setTop (mkF m 36 #[.val (.int p0), .val (.int p1), .val (.int (own_k p1)), .val (.double (own_mk p0 (own_k p1))), .second, .val (.ref b), .val (.int (1 : Int32))] [(.ref b)])) tgt → Steps p.tables e below E0 tgt := fun tgt kont => go9 tgt (by
      show Steps p.tables e below (T7.setTop (mkF m 24 #[.val (.int p0), .val (.int p1), .val (.int (own_k p1)), .val (.double (own_mk p0 (own_k p1))), .second, .val (.ref b), .unset] [(.int p0)])) tgt
      refine XS.ifNo X7.here hx rfl (hb hby at_24) rfl ((if0 _ _).trans (feq hz).1) ?_
      show Steps p.tables e below (T7.setTop (mkF m 27 #[.val (.int p0), .val (.int p1), .val (.int (own_k p1)), .val (.double (own_mk p0 (own_k p1))), .second, .val (.ref b), .unset] [])) tgt
      refine XS.iconst X7.here hx rfl (hb hby at_27) ?_
      show Steps p.tables e below (T7.setTop (mkF m 28 #[.val (.int p0), .val (.int p1), .val (.int (own_k p1)), .val (.double (own_mk p0 (own_k p1))), .second, .val (.ref b), .unset] [(.int (1 : Int32))])) tgt
      refine XS.goto X7.here hx rfl (pc0 := 28) (pc' := 32) rfl (hb hby at_28) (by decide) (by decide) ?_
      show Steps p.tables e below (T7.setTop (mkF m 32 #[.val (.int p0), .val (.int p1), .val (.int (own_k p1)), .val (.double (own_mk p0 (own_k p1))), .second, .val (.ref b), .unset] [(.int (1 : Int32))])) tgt
      refine XS.istore X7.here hx rfl (hb hby at_32) rfl (l' := #[.val (.int p0), .val (.int p1), .val (.int (own_k p1)), .val (.double (own_mk p0 (own_k p1))), .second, .val (.ref b), .val (.int (1 : Int32))]) rfl ?_
      show Steps p.tables e below (T7.setTop (mkF m 34 #[.val (.int p0), .val (.int p1), .val (.int (own_k p1)), .val (.double (own_mk p0 (own_k p1))), .second, .val (.ref b), .val (.int (1 : Int32))] [])) tgt
      refine XS.aload X7.here hx rfl (hb hby at_34) rfl rfl ?_
      exact kont)
    obtain ⟨cq14, kq14, q14a, q14b, q14c⟩ := isOf hZ rfl EA
    obtain ⟨_, _, ⟨T14, L14, k14, n14⟩, -, X14, ⟨Lc14, hQ14, l14, y14, z14⟩, st14⟩ := X7.virtualBack hx (y := (⟨"com/example/turnwise/turnwise/script/Value$Number", "isTrue", "()Z"⟩ : MethodName)) (z := (⟨"com/example/turnwise/turnwise/script/Value$Number", "isTrue", "()Z"⟩ : MethodName)) hown (mvT hZ (hw _ (List.mem_of_getElem? (i := 22) rfl))) (mvT hZ (hw _ (List.mem_of_getElem? (i := 23) rfl))) (notFace_of_selects (args := #[]) (mvT hZ (hw _ (List.mem_of_getElem? (i := 25) rfl)))) (mvT hZ (hw _ (List.mem_of_getElem? (i := 25) rfl))) (mvT hZ (hw _ (List.mem_of_getElem? (i := 24) rfl))) (by decide) (backOf (W := 0) (rmT1 l Z a0 hw [] b (own_mk p0 (own_k p1)) T7.heap n0 z8 FA (own_nonzero hz (own_k p1))) hZ (hw _ (List.mem_of_getElem? (i := 26) rfl)) (hw _ (List.mem_of_getElem? (i := 8) rfl)) (by decide) (by decide)) q14a q14c (g := (mkF m 36 #[.val (.int p0), .val (.int p1), .val (.int (own_k p1)), .val (.double (own_mk p0 (own_k p1))), .second, .val (.ref b), .val (.int (1 : Int32))] [(.ref b)])) rfl (by rw [hml]; rfl) (Steps.refl _) (argsL := []) (rest := []) (lenOf pd_6 rfl) rfl (by show 2 * 0 + _ ≤ _; exact Nat.le_of_eq rfl) (hb hby at_36) (fun _ _ => ⟨rfl, rfl, (by decide : 1 + 0 ≤ _), (by decide : 1 + 0 ≤ _)⟩)
    dsimp only [Pt.U, Pt.locs, Pt.cells, Pt.slots] at X14 l14 y14 z14 st14 hQ14
    subst l14 y14 z14
    obtain ⟨rfl, N14q, e14⟩ := hQ14
    have N14 := Fr.app N7 N14q
    have go14 : ∀ tgt, Steps p.tables e below (T14.setTop (mkF m 39 #[.val (.int p0), .val (.int p1), .val (.int (own_k p1)), .val (.double (own_mk p0 (own_k p1))), .second, .val (.ref b), .val (.int (1 : Int32))] [(.int (1 : Int32))])) tgt → Steps p.tables e below E0 tgt := fun tgt kont => go13 tgt (st14.trans kont)
    have go15 : ∀ tgt, Steps p.tables e below (T14.setTop (mkF m 49 #[.val (.int p0), .val (.int p1), .val (.int (own_k p1)), .val (.double (own_mk p0 (own_k p1))), .second, .val (.ref b), .val (.int (1 : Int32))] [(.int (1 : Int32))])) tgt → Steps p.tables e below E0 tgt := fun tgt kont => go14 tgt (by
      show Steps p.tables e below (T14.setTop (mkF m 39 #[.val (.int p0), .val (.int p1), .val (.int (own_k p1)), .val (.double (own_mk p0 (own_k p1))), .second, .val (.ref b), .val (.int (1 : Int32))] [(.int (1 : Int32))])) tgt
      refine XS.iload X14.here hx rfl (hb hby at_39) rfl ?_
      show Steps p.tables e below (T14.setTop (mkF m 41 #[.val (.int p0), .val (.int p1), .val (.int (own_k p1)), .val (.double (own_mk p0 (own_k p1))), .second, .val (.ref b), .val (.int (1 : Int32))] [(.int (1 : Int32)), (.int (1 : Int32))])) tgt
      refine XS.icmpNo X14.here hx rfl (hb hby at_41) rfl (teq rfl).2 ?_
      show Steps p.tables e below (T14.setTop (mkF m 44 #[.val (.int p0), .val (.int p1), .val (.int (own_k p1)), .val (.double (own_mk p0 (own_k p1))), .second, .val (.ref b), .val (.int (1 : Int32))] [])) tgt
      refine XS.iconst X14.here hx rfl (hb hby at_44) ?_
      show Steps p.tables e below (T14.setTop (mkF m 45 #[.val (.int p0), .val (.int p1), .val (.int (own_k p1)), .val (.double (own_mk p0 (own_k p1))), .second, .val (.ref b), .val (.int (1 : Int32))] [(.int (1 : Int32))])) tgt
      refine XS.goto X14.here hx rfl (pc0 := 45) (pc' := 49) rfl (hb hby at_45) (by decide) (by decide) ?_
      exact kont)
    obtain ⟨fs, hr, hrun, hended, hW, hsame⟩ := X14.leave (v := some (.int (1 : Int32))) (fun h => by rw [Bd.returns] at h; cases h)
    refine ⟨_, _, go15 _ ?_, hrun, hended, _, _, rfl, ?_, ⟨_, rfl⟩, hW, hsame.mono (by decide) (by decide)⟩
    · show Steps p.tables e below (T14.setTop (mkF m 49 #[.val (.int p0), .val (.int p1), .val (.int (own_k p1)), .val (.double (own_mk p0 (own_k p1))), .second, .val (.ref b), .val (.int (1 : Int32))] [(.int (1 : Int32))])) _
      exact retN X14 hx (t := .boolean) Bd.returns (by simp) (hb hby at_49) hr
    · show QL Z p0 p1 h0 n0 _ T14.heap _
      rw [e14]
      exact ⟨rfl, N14⟩
set_option maxRecDepth 65536 in
set_option maxHeartbeats 40000000 in
theorem comes_1 {Post : Tables → Env → Array Value → State → Outcome → State → Prop} (hpost : ∀ tb e args s v u, (limb_1_1.after args s (.returned v) u = true ∧ limb_1_2.after args s (.returned v) u = true ∧ True) → FrameEnd s (.returned v) u (Jvm.fieldLocs frame_1_writes args s ++ Jvm.arrayLocs frame_1_arrays args s ++ Jvm.staticLocs frame_1_statics s) 16 128 → Post tb e args s (.returned v) u) :
    ArmFor flags0 classFile x code maxLocals ret World_1 tables_1 room_1 Calls_1 rest_1 Pre_1 Post := by
  intro l hfl _ _ p e ha hc hk s m args below hf hA hF happ hP
  obtain ⟨hcalls, hrest, hpre⟩ := hP
  obtain ⟨-, -, -, hnamed, -, -, -, hat⟩ := (Spec.applies_iff hf).mp happ
  obtain ⟨hg, hn⟩ := and_e (Cond.before_iff.mp (show (Jvm.Cond.and given_1 narrow_1).before args s = true from hpre))
  obtain ⟨h1, r0⟩ := and_e hg
  obtain ⟨t0, r1⟩ := and_e r0
  have t1 := r1
  obtain ⟨w0, w1, rfl⟩ : ∃ w0 w1 : Value, args = #[w0, w1] := by
    have hs : args.size = 2 := by simpa [Cond.value, given_1] using h1
    obtain ⟨L⟩ := args
    match L, hs with
    | [w0, w1], _ => exact ⟨w0, w1, rfl⟩
  have hw := fun d (hd : d ∈ tables_1) => atoms_spec (ws := Jvm.Cond.code x code maxLocals ret :: tables_1) hat d (List.mem_cons_of_mem _ hd)
  have hfit : Fit s := fun {y c} hc i hi => by
    obtain ⟨ha, rfl⟩ := Array.getElem?_eq_some_iff.mp hc
    have q := List.all_eq_true.mp ((Array.all_eq_true_iff_forall_mem.mp hF) _ (Array.getElem_mem ha)) i (List.mem_range.mpr hi)
    simpa [Array.getElem?_eq_getElem hi] using q
  obtain ⟨i0, e0⟩ := is_v t0
  obtain rfl : w0 = (.int i0) := Option.some.inj e0
  obtain ⟨i1, e1⟩ := is_v t1
  obtain rfl : w1 = (.int i1) := Option.some.inj e1
  obtain ⟨n, o, h1, h2, h3, _, L, rfl, ⟨rfl, N⟩, hq⟩ := rmL l s _ hw tables_1 i0 i1 s.heap s.heap.size (Nat.le_refl _)  p e ha hc hk s m _ below hf ((Spec.applies_iff_loose hf).mp happ).1 ⟨rfl, State.Warmed39.refl s, rfl⟩ trivial
  refine ⟨n, _, h1, h2, h3, hpost _ _ _ _ _ _ ⟨Cond.after_iff.mpr rfl, Cond.after_iff.mpr (eq_i res_at (Term.int_eval (1)) rfl), trivial⟩ ⟨hq.1, hq.2.1, (hq.2.2.sift fun y hy => Or.inr (N y hy)).mono (by decide) (by decide)⟩⟩
theorem main_1_1 : Claimed_1_1 := comes_1 fun _ _ _ _ _ _ h hF => ⟨h.1, hF⟩
theorem main_1_2 : Claimed_1_2 := comes_1 fun _ _ _ _ _ _ h hF => ⟨h.2.1, hF⟩
end Jvm.Pilot.@@N@@
namespace Jvm.Pilot.@@N@@
open Jvm Jvm.ClassFile Sem Op Lib Jvm.Free Jvm.Stand Jvm.Pilot.@@N@@.Jvm.D
/-! MADE BY PROGRAM (witnessworld.py) out of the Statement's table words and the real class files: 11 classes; the members and pool entries that the words name. The judged class is class 1, her method 2. -/
namespace start1
open Jvm.ClassFile
def u (s : String) : CpInfo := .utf8 (stringToUtf16 s)
/-- a pool by its gaps: so many unusable entries, then the entry; so many at the end -/
def gap : Nat → List CpInfo → List CpInfo
  | 0, r => r
  | n + 1, r => .unusable :: gap n r
def poolList (es : List (Nat × CpInfo)) (last : Nat) : List CpInfo := es.foldr (fun e r => gap e.1 (e.2 :: r)) (gap last [])
def pool (es : List (Nat × CpInfo)) (last : Nat) : Array CpInfo := ⟨poolList es last⟩
def fileOf (pool : Array CpInfo) (this : Nat) (attrs : Array Attribute := #[]) (ms : Array MethodInfo := #[]) (fl : Nat := 33) (sup : Nat := 0) (ifs : Array Nat := #[]) (fds : Array FieldInfo := #[]) : ClassFile where
  minorVersion := 0
  majorVersion := 65
  constantPool := pool
  accessFlags := fl
  thisClass := this
  superClass := sup
  interfaces := ifs
  fields := fds
  methods := ms
  attributes := attrs
def plain (name : String) (sup : Option ClassId) : Class where
  name := name
  kind := .ordinary
  loader := none
  accessFlags := 33
  super := sup
  interfaces := #[]
  cf := none
  fields := #[]
  methods := #[]
  instanceTypes := #[]
  staticTypes := #[]
  resolved := #[]
  callSites := []
  init := .initialized
  statics := none
  mirror := none

def pool0 : Array CpInfo := pool [(5, u "<init>"), (0, u "()V"), (1, .class_ 10), (1, u "java/lang/Object")] 113

def k0c0 : Code := { maxStack := 0, maxLocals := 1, code := object_method_1_code, exceptionTable := #[], attributes := #[] }
def k0m0 : Method := { name := "<init>", desc := "()V", sig := { parameters := [], returnType := none }, accessFlags := 1, code := some k0c0 }
/-- java/lang/Object -/
def k0 : Class := { plain "java/lang/Object" none with
  accessFlags := 33
  interfaces := #[]
  cf := some (fileOf pool0 8 #[] #[{ accessFlags := 1, nameIndex := 5, descriptorIndex := 6, attributes := #[] }] 33 0 #[] #[])
  fields := #[]
  methods := #[k0m0]
  instanceTypes := #[]
  staticTypes := #[]
  resolved := Array.replicate 124 none
  statics := none }

def pool1 : Array CpInfo := pool [(2, .class_ 4), (1, u "java/lang/Object"), (0, u "<init>"), (0, u "()V"), (0, .double 4652218415073722368), (1, .double 118622047889322841), (1, .double 9094988921128908188), (1, .integer 2147483647), (0, .methodref 15 16), (0, .class_ 17), (0, .nameAndType 18 19), (0, u "com/example/turnwise/turnwise/script/NumberIsTruePinLaw"), (0, u "make"), (0, u "(II)D"), (0, .class_ 21), (0, u "com/example/turnwise/turnwise/script/Value$Number"), (0, .methodref 20 23), (0, .nameAndType 5 24), (0, u "(D)V"), (0, .methodref 20 26), (0, .nameAndType 27 28), (0, u "isTrue"), (0, u "()Z"), (3, u "law"), (0, u "(II)Z")] 6

def k1m0 : Method := { name := "<init>", desc := "()V", sig := { parameters := [], returnType := none }, accessFlags := 2, code := none }
def k1c1 : Code := { maxStack := 4, maxLocals := 4, code := method_2_code, exceptionTable := #[], attributes := #[] }
def k1m1 : Method := { name := "make", desc := "(II)D", sig := { parameters := [.int, .int], returnType := some .double }, accessFlags := 10, code := some k1c1 }
def k1c2 : Code := { maxStack := 4, maxLocals := 7, code := code, exceptionTable := #[], attributes := #[] }
def k1m2 : Method := { name := "law", desc := "(II)Z", sig := { parameters := [.int, .int], returnType := some .boolean }, accessFlags := 9, code := some k1c2 }
/-- com/example/turnwise/turnwise/script/NumberIsTruePinLaw -/
def k1 : Class := { plain "com/example/turnwise/turnwise/script/NumberIsTruePinLaw" (some 0) with
  accessFlags := 49
  interfaces := #[]
  cf := some (fileOf pool1 15 #[] #[{ accessFlags := 2, nameIndex := 5, descriptorIndex := 6, attributes := #[] }, { accessFlags := 10, nameIndex := 18, descriptorIndex := 19, attributes := #[] }, { accessFlags := 9, nameIndex := 32, descriptorIndex := 33, attributes := #[] }] 49 2 #[] #[])
  fields := #[]
  methods := #[k1m0, k1m1, k1m2]
  instanceTypes := #[]
  staticTypes := #[]
  resolved := Array.replicate 40 none
  statics := none }

def pool2 : Array CpInfo := pool [(1, .methodref 2 3), (0, .class_ 4), (0, .nameAndType 5 6), (0, u "java/lang/Object"), (0, u "<init>"), (0, u "()V"), (0, .class_ 8), (0, u "java/lang/Record")] 13

def k2c0 : Code := { maxStack := 1, maxLocals := 1, code := jdk_30_method_1_code, exceptionTable := #[], attributes := #[] }
def k2m0 : Method := { name := "<init>", desc := "()V", sig := { parameters := [], returnType := none }, accessFlags := 4, code := some k2c0 }
/-- java/lang/Record -/
def k2 : Class := { plain "java/lang/Record" (some 0) with
  accessFlags := 1057
  interfaces := #[]
  cf := some (fileOf pool2 7 #[] #[{ accessFlags := 4, nameIndex := 5, descriptorIndex := 6, attributes := #[] }] 1057 2 #[] #[])
  fields := #[]
  methods := #[k2m0]
  instanceTypes := #[]
  staticTypes := #[]
  resolved := Array.replicate 22 none
  statics := none }

def pool3 : Array CpInfo := pool [(1, .class_ 2), (0, u "com/example/turnwise/turnwise/script/Value$Number"), (5, .class_ 10), (1, u "com/example/turnwise/turnwise/script/Value"), (0, u "ZERO"), (0, u "Lcom/example/turnwise/turnwise/script/Value;"), (0, .class_ 14), (0, u "java/lang/Object"), (13, .class_ 29), (0, u "com/example/turnwise/turnwise/script/Value$Bool"), (0, .class_ 31), (0, u "com/example/turnwise/turnwise/script/Value$Text")] 5

/-- com/example/turnwise/turnwise/script/Value -/
def k3 : Class := { plain "com/example/turnwise/turnwise/script/Value" (some 0) with
  accessFlags := 1537
  interfaces := #[]
  cf := some (fileOf pool3 8 #[.nestMembers #[28, 30, 1]] #[] 1537 13 #[] #[{ accessFlags := 25, nameIndex := 11, descriptorIndex := 12, attributes := #[] }])
  fields := #[{ name := "ZERO", type := (.object "com/example/turnwise/turnwise/script/Value"), accessFlags := 25, slot := 0, constantValue := 0 }]
  methods := #[]
  instanceTypes := #[]
  staticTypes := #[(.object "com/example/turnwise/turnwise/script/Value")]
  resolved := Array.replicate 37 none
  statics := none }

def pool4 : Array CpInfo := pool [(1, .methodref 2 3), (0, .class_ 4), (0, .nameAndType 5 6), (0, u "java/lang/Record"), (0, u "<init>"), (0, u "()V"), (0, .fieldref 8 9), (0, .class_ 10), (0, .nameAndType 11 12), (0, u "com/example/turnwise/turnwise/script/Value$Number"), (0, u "value"), (0, u "D"), (27, u "(D)V"), (45, .class_ 87), (0, u "com/example/turnwise/turnwise/script/Value"), (0, u "MOST_DIGITS"), (0, u "I"), (5, u "isTrue"), (0, u "()Z")] 28

def k4c0 : Code := { maxStack := 3, maxLocals := 3, code := prog_73_method_1_code, exceptionTable := #[], attributes := #[] }
def k4m0 : Method := { name := "<init>", desc := "(D)V", sig := { parameters := [.double], returnType := none }, accessFlags := 1, code := some k4c0 }
def k4c1 : Code := { maxStack := 4, maxLocals := 1, code := prog_73_method_2_code, exceptionTable := #[], attributes := #[] }
def k4m1 : Method := { name := "isTrue", desc := "()Z", sig := { parameters := [], returnType := some .boolean }, accessFlags := 1, code := some k4c1 }
/-- com/example/turnwise/turnwise/script/Value$Number -/
def k4 : Class := { plain "com/example/turnwise/turnwise/script/Value$Number" (some 2) with
  accessFlags := 49
  interfaces := #[3]
  cf := some (fileOf pool4 8 #[.nestHost 86] #[{ accessFlags := 1, nameIndex := 5, descriptorIndex := 40, attributes := #[] }, { accessFlags := 1, nameIndex := 95, descriptorIndex := 96, attributes := #[] }] 49 2 #[86] #[{ accessFlags := 18, nameIndex := 11, descriptorIndex := 12, attributes := #[] }, { accessFlags := 26, nameIndex := 88, descriptorIndex := 89, attributes := #[] }])
  fields := #[{ name := "value", type := .double, accessFlags := 18, slot := 0, constantValue := 0 }, { name := "MOST_DIGITS", type := .int, accessFlags := 26, slot := 0, constantValue := 0 }]
  methods := #[k4m0, k4m1]
  instanceTypes := #[.double]
  staticTypes := #[.int]
  resolved := Array.replicate 125 none
  statics := none }

def pool5 : Array CpInfo := pool [(1, u "java/lang/Cloneable"), (0, .class_ 1), (0, u "java/lang/Object"), (0, .class_ 3)] 3

/-- java/lang/Cloneable -/
def k5 : Class := { plain "java/lang/Cloneable" (some 0) with
  accessFlags := 1537
  interfaces := #[]
  cf := some (fileOf pool5 2 #[] #[] 1537 4 #[] #[])
  fields := #[]
  methods := #[]
  instanceTypes := #[]
  staticTypes := #[]
  resolved := Array.replicate 8 none
  statics := none }

def pool6 : Array CpInfo := pool [(1, u "java/io/Serializable"), (0, .class_ 1), (0, u "java/lang/Object"), (0, .class_ 3)] 3

/-- java/io/Serializable -/
def k6 : Class := { plain "java/io/Serializable" (some 0) with
  accessFlags := 1537
  interfaces := #[]
  cf := some (fileOf pool6 2 #[] #[] 1537 4 #[] #[])
  fields := #[]
  methods := #[]
  instanceTypes := #[]
  staticTypes := #[]
  resolved := Array.replicate 8 none
  statics := none }

/-- the primitive byte -/
def k7 : Class := { plain "byte" none with kind := .primitive 'B', accessFlags := 0x411 }
/-- [B -/
def k8 : Class := { plain "[B" (some 0) with kind := .array 7 .byte, interfaces := #[5, 6], accessFlags := 1041 }

/-- the primitive int -/
def k9 : Class := { plain "int" none with kind := .primitive 'I', accessFlags := 0x411 }
/-- [I -/
def k10 : Class := { plain "[I" (some 0) with kind := .array 9 .int, interfaces := #[5, 6], accessFlags := 1041 }

def heap : Heap := #[]
def classes : Array Class := #[k0, k1, k2, k3, k4, k5, k6, k7, k8, k9, k10]
def interned : List (Array UInt16 × Addr) := []
def slotsUsed : Nat := 0
def theMethod : MethodId := ⟨1, 2⟩
def args0 : Array Value := #[.int 5, .int 7]
def aboutOver (below : List Frame) : State where
  vm := { classes := classes, interned := interned.toArray }
  heap := heap
  slotsUsed := slotsUsed
  threads := #[{ frames := .invoking theMethod args0 :: below }]
def below0 : List Frame := [.native { method := ⟨0, 0⟩, args := #[] }]
def about1 : State := aboutOver below0
def p0 : Program := .bare "" "" ""
def e0 : Env := launch0.env 0 0 0
theorem w_frames : about1.frames = Frame.invoking theMethod args0 :: below0 := rfl
set_option maxRecDepth 65536 in
theorem w_args : argsFit about1.vm theMethod args0 = true := by decide +kernel
set_option maxRecDepth 65536 in
theorem w_heap : heapFits about1 = true := by decide +kernel
set_option maxRecDepth 65536 in
theorem w_runnable : about1.curStatus? = some .runnable := by decide +kernel
set_option maxRecDepth 65536 in
theorem w_alone : about1.alone = true := by decide +kernel
set_option maxRecDepth 65536 in
theorem w_named : about1.methodNamed? x = some theMethod := by decide +kernel
set_option maxRecDepth 65536 in
theorem w_hears : about1.hears theMethod below0 = true := by decide +kernel
set_option maxRecDepth 65536 in
theorem w_ripe : about1.ripe theMethod args0 below0 = true := by decide +kernel
theorem w_running : about1.status = .running := rfl
set_option maxRecDepth 65536 in
theorem w_room : about1.hasRoom e0.platform room_1 = true :=
  launch0.hasRoom_least _ room_1 (by decide +kernel) (by decide +kernel) (by decide +kernel) (by decide +kernel) (by decide +kernel) (by decide +kernel)
theorem allAtoms_all (ts : List Jvm.Cond) (a : Array Jvm.Value) (st : Jvm.State) : (allAtoms ts).before a st = ts.all (fun c => c.before a st) := by
  induction ts with
  | nil => rfl
  | cons c t ih =>
    show (Jvm.Cond.and c (allAtoms t)).before a st = _
    rw [Jvm.Cond.before_and, ih, List.all_cons]
def words1 : List Jvm.Cond := Jvm.Cond.code x code maxLocals ret :: tables_1
/-- a 'code' word, met by the world's own term for the bytes: nothing is compared byte by byte -/
theorem code_word {y : MethodName} {bytes : ByteArray} {mx : Nat} {rt : Option FieldType} {a : Array Value} {s : State} {m : MethodId} {meth : Method} {c : Code} (h1 : s.methodNamed? y = some m) (h2 : s.vm.method? m = some meth) (h3 : meth.code = some c) (h4 : c.code = bytes)
    (h5 : (c.maxLocals == mx && c.exceptionTable.isEmpty && decide (c.maxStack ≤ mostOperands) && decide (meth.sig.returnType = rt) && !meth.locks && decide (parseMethodDescriptor y.desc = some meth.sig)) = true) : (Jvm.Cond.code y bytes mx rt).before a s = true := by
  simp only [Bool.and_eq_true, beq_iff_eq, Bool.not_eq_true', decide_eq_true_eq] at h5
  obtain ⟨⟨⟨⟨⟨g1, g2⟩, g3⟩, g4⟩, g5⟩, g6⟩ := h5
  simp [Cond.before, Cond.holds, Cond.value, h1, h2, h3, h4, g1, g2, g3, g4, g5, g6]
def isCode : Jvm.Cond → Bool
  | .code _ _ _ _ => true
  | _ => false
theorem all_split {L : List Jvm.Cond} {P : Jvm.Cond → Bool} (h1 : L.all (fun c => isCode c || P c) = true) (h2 : ∀ c ∈ L.filter isCode, P c = true) : L.all P = true := by
  refine List.all_eq_true.mpr fun c hc => ?_
  have h := List.all_eq_true.mp h1 c hc
  rcases Bool.eq_false_or_eq_true (isCode c) with hi | hi
  · exact h2 c (List.mem_filter.mpr ⟨hc, hi⟩)
  · simpa [hi] using h
set_option maxRecDepth 65536 in
theorem w_c0 : (Jvm.Cond.code x code maxLocals ret).before args0 about1 = true := code_word (m := ⟨1, 2⟩) (meth := k1m2) (c := k1c2) (by decide +kernel) rfl rfl rfl (by decide +kernel)
set_option maxRecDepth 65536 in
theorem w_c1 : (Jvm.Cond.code ({ cls := "com/example/turnwise/turnwise/script/NumberIsTruePinLaw", name := "make", desc := "(II)D" } : Jvm.MethodName) method_2_code (4 : Nat) (Option.some Jvm.ClassFile.FieldType.double)).before args0 about1 = true := code_word (m := ⟨1, 1⟩) (meth := k1m1) (c := k1c1) (by decide +kernel) rfl rfl rfl (by decide +kernel)
set_option maxRecDepth 65536 in
theorem w_c2 : (Jvm.Cond.code ({ cls := "com/example/turnwise/turnwise/script/Value$Number", name := "<init>", desc := "(D)V" } : Jvm.MethodName) prog_73_method_1_code (3 : Nat) (Option.none : Option Jvm.ClassFile.FieldType)).before args0 about1 = true := code_word (m := ⟨4, 0⟩) (meth := k4m0) (c := k4c0) (by decide +kernel) rfl rfl rfl (by decide +kernel)
set_option maxRecDepth 65536 in
theorem w_c3 : (Jvm.Cond.code ({ cls := "java/lang/Record", name := "<init>", desc := "()V" } : Jvm.MethodName) jdk_30_method_1_code (1 : Nat) (Option.none : Option Jvm.ClassFile.FieldType)).before args0 about1 = true := code_word (m := ⟨2, 0⟩) (meth := k2m0) (c := k2c0) (by decide +kernel) rfl rfl rfl (by decide +kernel)
set_option maxRecDepth 65536 in
theorem w_c4 : (Jvm.Cond.code ({ cls := "java/lang/Object", name := "<init>", desc := "()V" } : Jvm.MethodName) object_method_1_code (1 : Nat) (Option.none : Option Jvm.ClassFile.FieldType)).before args0 about1 = true := code_word (m := ⟨0, 0⟩) (meth := k0m0) (c := k0c0) (by decide +kernel) rfl rfl rfl (by decide +kernel)
set_option maxRecDepth 65536 in
theorem w_c5 : (Jvm.Cond.code ({ cls := "com/example/turnwise/turnwise/script/Value$Number", name := "isTrue", desc := "()Z" } : Jvm.MethodName) prog_73_method_2_code (1 : Nat) (Option.some Jvm.ClassFile.FieldType.boolean)).before args0 about1 = true := code_word (m := ⟨4, 1⟩) (meth := k4m1) (c := k4c1) (by decide +kernel) rfl rfl rfl (by decide +kernel)
def codes1 : List Jvm.Cond := [Jvm.Cond.code x code maxLocals ret, Jvm.Cond.code ({ cls := "com/example/turnwise/turnwise/script/NumberIsTruePinLaw", name := "make", desc := "(II)D" } : Jvm.MethodName) method_2_code (4 : Nat) (Option.some Jvm.ClassFile.FieldType.double), Jvm.Cond.code ({ cls := "com/example/turnwise/turnwise/script/Value$Number", name := "<init>", desc := "(D)V" } : Jvm.MethodName) prog_73_method_1_code (3 : Nat) (Option.none : Option Jvm.ClassFile.FieldType), Jvm.Cond.code ({ cls := "java/lang/Record", name := "<init>", desc := "()V" } : Jvm.MethodName) jdk_30_method_1_code (1 : Nat) (Option.none : Option Jvm.ClassFile.FieldType), Jvm.Cond.code ({ cls := "java/lang/Object", name := "<init>", desc := "()V" } : Jvm.MethodName) object_method_1_code (1 : Nat) (Option.none : Option Jvm.ClassFile.FieldType), Jvm.Cond.code ({ cls := "com/example/turnwise/turnwise/script/Value$Number", name := "isTrue", desc := "()Z" } : Jvm.MethodName) prog_73_method_2_code (1 : Nat) (Option.some Jvm.ClassFile.FieldType.boolean)]
set_option maxRecDepth 65536 in
theorem codes_eq : words1.filter isCode = codes1 := rfl
theorem w_codes : ∀ c ∈ words1.filter isCode, c.before args0 about1 = true := by
  rw [codes_eq]
  intro c hc
  simp only [codes1, List.mem_cons, List.not_mem_nil, or_false] at hc
  rcases hc with rfl | rfl | rfl | rfl | rfl | rfl
  · exact w_c0
  · exact w_c1
  · exact w_c2
  · exact w_c3
  · exact w_c4
  · exact w_c5
set_option maxRecDepth 65536 in
theorem w_t1 : (words1.take 24).all (fun c => isCode c || c.before args0 about1) = true := by decide +kernel
set_option maxRecDepth 65536 in
theorem w_t2 : (words1.drop 24).all (fun c => isCode c || c.before args0 about1) = true := by decide +kernel
theorem w_tables : (allAtoms (Jvm.Cond.code x code maxLocals ret :: tables_1)).before args0 about1 = true := by
  rw [allAtoms_all]
  show words1.all (fun c => c.before args0 about1) = true
  refine all_split ?_ w_codes
  rw [← List.take_append_drop 24 words1, List.all_append, w_t1, w_t2]
  rfl
set_option maxRecDepth 65536 in
theorem w_case : (Jvm.Cond.and given_1 narrow_1).before args0 about1 = true := by decide +kernel
theorem w_applies : (headSpec (Jvm.Cond.code x code maxLocals ret :: tables_1) room_1).applies x e0.platform about1 = true :=
  (Spec.applies_iff w_frames).mpr ⟨w_running, w_runnable, w_alone, w_named, w_hears, w_ripe, w_room, w_tables⟩
theorem atStart : AtStart classFile x code maxLocals ret World_1 tables_1 room_1 Calls_1 rest_1 Pre_1 launch0 p0 e0 about1 theMethod args0 below0 :=
  ⟨lists_1, trivial, launch0.admits_env _ _ _, launch0.least_env, fairChoices_fair.cas, fairChoices_fair.clock, w_frames, w_args, w_heap, w_applies, trivial, trivial, w_case⟩
end start1
theorem witness_1 : WitnessClaimed_1 := ⟨start1.p0, start1.e0, start1.about1, start1.theMethod, start1.args0, start1.below0, start1.atStart⟩
end Jvm.Pilot.@@N@@
