import JvmDerived
import JvmDerived.Pilot.@@N@@Statement
import JvmDerived.Pilot.@@N@@Code
set_option linter.unusedVariables false
set_option linter.unusedSimpArgs false
namespace Jvm.Pilot.@@N@@
open Jvm Jvm.ClassFile Sem Op Lib Jvm.Free Jvm.Stand Jvm.LawKit Jvm.RoadKit Bundle Jvm.Pilot.@@N@@.Jvm.D
theorem own_mvMN {Z s : State} {a0 args : Array Value} {own host : String} {index : Nat} {y : MethodName} (hZ : Z.Warmed39 s.vm) (w : (Jvm.Cond.methodLinkNest own index y host).before a0 Z = true) : (Jvm.Cond.methodLinkNest own index y host).before args s = true := (Cond.methodLinkNest_wide hZ w :)
theorem own_cat1 {v : Value} (h : v.isRef = true) : v.category = 1 := by cases v <;> simp [Value.isRef] at h <;> rfl
theorem own_fit {v : Value} {t : FieldType} (h : v.isRef = true) (ht : t.isReference = true) : fits t v = true := by
  cases t <;> first | (cases ht; done) | (cases v <;> simp [Value.isRef] at h <;> rfl)
theorem own_nar {v : Value} {t : FieldType} (h : v.isRef = true) (ht : t.isReference = true) : narrow t v = v := by
  cases t <;> first | (cases ht; done) | (cases v <;> simp [Value.isRef] at h <;> rfl)
def own_hi (q1 : Int64) : Int64 := (q1 >>> ((32 : Int32) &&& 0x3f).toInt64)
def own_lo (q1 : Int64) : Int64 := (q1 &&& (4294967295 : Int64))
def own_z2 (q1 : Int64) (q2 : Int64) : Int64 := ((own_lo q1) * (own_lo q2))
def own_t (q1 : Int64) (q2 : Int64) : Int64 := (((own_hi q1) * (own_lo q2)) + (((own_z2 q1 q2).toUInt64 >>> ((32 : Int32) &&& 0x3f).toInt64.toUInt64).toInt64))
def own_z1 (q1 : Int64) (q2 : Int64) : Int64 := (((own_t q1 q2) &&& (4294967295 : Int64)) + ((own_lo q1) * (own_hi q2)))
def own_mh (q1 : Int64) (q2 : Int64) : Int64 := ((((own_hi q1) * (own_hi q2)) + ((own_t q1 q2) >>> ((32 : Int32) &&& 0x3f).toInt64)) + ((own_z1 q1 q2) >>> ((32 : Int32) &&& 0x3f).toInt64))
theorem dMH_0 : decode jdk_29_method_45_code 0 = .ok (.lload_n 0, 1) := by decide +kernel
theorem dMH_1 : decode jdk_29_method_45_code 1 = .ok (.bipush 32, 2) := by decide +kernel
theorem dMH_3 : decode jdk_29_method_45_code 3 = .ok (.lshr, 1) := by decide +kernel
theorem dMH_4 : decode jdk_29_method_45_code 4 = .ok (.lstore 4, 2) := by decide +kernel
theorem dMH_6 : decode jdk_29_method_45_code 6 = .ok (.lload_n 0, 1) := by decide +kernel
theorem dMH_7 : decode jdk_29_method_45_code 7 = .ok (.ldc2_w 138, 3) := by decide +kernel
theorem dMH_10 : decode jdk_29_method_45_code 10 = .ok (.land, 1) := by decide +kernel
theorem dMH_11 : decode jdk_29_method_45_code 11 = .ok (.lstore 6, 2) := by decide +kernel
theorem dMH_13 : decode jdk_29_method_45_code 13 = .ok (.lload_n 2, 1) := by decide +kernel
theorem dMH_14 : decode jdk_29_method_45_code 14 = .ok (.bipush 32, 2) := by decide +kernel
theorem dMH_16 : decode jdk_29_method_45_code 16 = .ok (.lshr, 1) := by decide +kernel
theorem dMH_17 : decode jdk_29_method_45_code 17 = .ok (.lstore 8, 2) := by decide +kernel
theorem dMH_19 : decode jdk_29_method_45_code 19 = .ok (.lload_n 2, 1) := by decide +kernel
theorem dMH_20 : decode jdk_29_method_45_code 20 = .ok (.ldc2_w 138, 3) := by decide +kernel
theorem dMH_23 : decode jdk_29_method_45_code 23 = .ok (.land, 1) := by decide +kernel
theorem dMH_24 : decode jdk_29_method_45_code 24 = .ok (.lstore 10, 2) := by decide +kernel
theorem dMH_26 : decode jdk_29_method_45_code 26 = .ok (.lload 6, 2) := by decide +kernel
theorem dMH_28 : decode jdk_29_method_45_code 28 = .ok (.lload 10, 2) := by decide +kernel
theorem dMH_30 : decode jdk_29_method_45_code 30 = .ok (.lmul, 1) := by decide +kernel
theorem dMH_31 : decode jdk_29_method_45_code 31 = .ok (.lstore 12, 2) := by decide +kernel
theorem dMH_33 : decode jdk_29_method_45_code 33 = .ok (.lload 4, 2) := by decide +kernel
theorem dMH_35 : decode jdk_29_method_45_code 35 = .ok (.lload 10, 2) := by decide +kernel
theorem dMH_37 : decode jdk_29_method_45_code 37 = .ok (.lmul, 1) := by decide +kernel
theorem dMH_38 : decode jdk_29_method_45_code 38 = .ok (.lload 12, 2) := by decide +kernel
theorem dMH_40 : decode jdk_29_method_45_code 40 = .ok (.bipush 32, 2) := by decide +kernel
theorem dMH_42 : decode jdk_29_method_45_code 42 = .ok (.lushr, 1) := by decide +kernel
theorem dMH_43 : decode jdk_29_method_45_code 43 = .ok (.ladd, 1) := by decide +kernel
theorem dMH_44 : decode jdk_29_method_45_code 44 = .ok (.lstore 14, 2) := by decide +kernel
theorem dMH_46 : decode jdk_29_method_45_code 46 = .ok (.lload 14, 2) := by decide +kernel
theorem dMH_48 : decode jdk_29_method_45_code 48 = .ok (.ldc2_w 138, 3) := by decide +kernel
theorem dMH_51 : decode jdk_29_method_45_code 51 = .ok (.land, 1) := by decide +kernel
theorem dMH_52 : decode jdk_29_method_45_code 52 = .ok (.lstore 16, 2) := by decide +kernel
theorem dMH_54 : decode jdk_29_method_45_code 54 = .ok (.lload 14, 2) := by decide +kernel
theorem dMH_56 : decode jdk_29_method_45_code 56 = .ok (.bipush 32, 2) := by decide +kernel
theorem dMH_58 : decode jdk_29_method_45_code 58 = .ok (.lshr, 1) := by decide +kernel
theorem dMH_59 : decode jdk_29_method_45_code 59 = .ok (.lstore 18, 2) := by decide +kernel
theorem dMH_61 : decode jdk_29_method_45_code 61 = .ok (.lload 16, 2) := by decide +kernel
theorem dMH_63 : decode jdk_29_method_45_code 63 = .ok (.lload 6, 2) := by decide +kernel
theorem dMH_65 : decode jdk_29_method_45_code 65 = .ok (.lload 8, 2) := by decide +kernel
theorem dMH_67 : decode jdk_29_method_45_code 67 = .ok (.lmul, 1) := by decide +kernel
theorem dMH_68 : decode jdk_29_method_45_code 68 = .ok (.ladd, 1) := by decide +kernel
theorem dMH_69 : decode jdk_29_method_45_code 69 = .ok (.lstore 16, 2) := by decide +kernel
theorem dMH_71 : decode jdk_29_method_45_code 71 = .ok (.lload 4, 2) := by decide +kernel
theorem dMH_73 : decode jdk_29_method_45_code 73 = .ok (.lload 8, 2) := by decide +kernel
theorem dMH_75 : decode jdk_29_method_45_code 75 = .ok (.lmul, 1) := by decide +kernel
theorem dMH_76 : decode jdk_29_method_45_code 76 = .ok (.lload 18, 2) := by decide +kernel
theorem dMH_78 : decode jdk_29_method_45_code 78 = .ok (.ladd, 1) := by decide +kernel
theorem dMH_79 : decode jdk_29_method_45_code 79 = .ok (.lload 16, 2) := by decide +kernel
theorem dMH_81 : decode jdk_29_method_45_code 81 = .ok (.bipush 32, 2) := by decide +kernel
theorem dMH_83 : decode jdk_29_method_45_code 83 = .ok (.lshr, 1) := by decide +kernel
theorem dMH_84 : decode jdk_29_method_45_code 84 = .ok (.ladd, 1) := by decide +kernel
theorem dMH_85 : decode jdk_29_method_45_code 85 = .ok (.lreturn, 1) := by decide +kernel
theorem ef_MH (m : MethodId) (x0 : Int64) (x1 : Int64) : entryFrame m #[(.long x0), (.long x1)] 20 = mkF m 0 #[.val (.long x0), .second, .val (.long x1), .second, .unset, .unset, .unset, .unset, .unset, .unset, .unset, .unset, .unset, .unset, .unset, .unset, .unset, .unset, .unset, .unset] [] := by first | (simp [entryFrame, mkF, argsToLocals, Value.category, maxLocals]; done) | rfl
def QMH (Z : State) (q1 : Int64) (q2 : Int64) (h0 : Heap) (n0 : Nat) (v : Option Value) (h : Heap) (L : List Loc) : Prop := v = some (.long (own_mh q1 q2)) ∧ Fr n0 L ∧ h = h0
set_option maxRecDepth 65536 in
set_option maxHeartbeats 40000000 in
theorem rmMH (l : Launch) (Z : State) (a0 : Array Value) (hw : ∀ d ∈ tables_1, d.before a0 Z = true) (ws : List Jvm.Cond) (q1 : Int64) (q2 : Int64) (h0 : Heap) (n0 : Nat) (Z0 : n0 ≤ h0.size) :
    MetFree l (⟨"java/lang/Math", "multiplyHigh", "(JJ)J"⟩ : MethodName) (head1 (Jvm.Cond.code (⟨"java/lang/Math", "multiplyHigh", "(JJ)J"⟩ : MethodName) jdk_29_method_45_code 20 (some .long) :: ws) ({ frames := 0, cells := 0, slots := 0, locals := 0 } : Room)) (fun as_ U => as_ = #[(.long q1), (.long q2)] ∧ Z.Warmed39 U.vm ∧ U.heap = h0) (fun _ _ _ _ _ => True) (fun _ U o U' => ∃ v L, o = .returned v ∧ QMH Z q1 q2 h0 n0 v U'.heap L ∧ FrameEnd U o U' L ({ frames := 0, cells := 0, slots := 0, locals := 0 } : Room).cells ({ frames := 0, cells := 0, slots := 0, locals := 0 } : Room).slots) := by
  refine MetFree.of_bodySF (by decide +kernel) hisR ?_
  intro p e s m args below meth c s₁ Bd hml0 hP hK
  obtain ⟨rfl, hZ, hh⟩ := hP
  have hx := Bd.exec
  have hby := Bd.bytes
  have hml : c.maxLocals = 20 := hml0
  have hown : s.vm.findClass "java/lang/Math" = some m.cls := findClass_of_methodNamed Bd.named
  have hnm := (name_of_methodNamed Bd.named Bd.method).1
  have X0 : Stand p l e ({ frames := 0, cells := 0, slots := 0, locals := 0 } : Room) s m #[(.long q1), (.long q2)] below meth c s₁ [] 0 0 := Stand.of_body Bd
  have e0 : s₁.heap = h0 := by rw [← hh, Bd.state]; rfl
  have N0 := Fr.nil n0
  obtain ⟨E0, hE0⟩ : ∃ z, z = s₁.setTop (entryFrame m #[(.long q1), (.long q2)] 20) := ⟨_, rfl⟩
  rw [← hE0]
  have go0 : ∀ tgt, Steps p.tables e below (s₁.setTop (mkF m 0 #[.val (.long q1), .second, .val (.long q2), .second, .unset, .unset, .unset, .unset, .unset, .unset, .unset, .unset, .unset, .unset, .unset, .unset, .unset, .unset, .unset, .unset] [])) tgt → Steps p.tables e below E0 tgt := fun tgt kont => by rw [hE0]; exact castTop (ef_MH m q1 q2) kont
  have go1 : ∀ tgt, Steps p.tables e below (s₁.setTop (mkF m 85 #[.val (.long q1), .second, .val (.long q2), .second, .val (.long (own_hi q1)), .second, .val (.long (own_lo q1)), .second, .val (.long (own_hi q2)), .second, .val (.long (own_lo q2)), .second, .val (.long (own_z2 q1 q2)), .second, .val (.long (own_t q1 q2)), .second, .val (.long (own_z1 q1 q2)), .second, .val (.long ((own_t q1 q2) >>> ((32 : Int32) &&& 0x3f).toInt64)), .second] [(.long (own_mh q1 q2))])) tgt → Steps p.tables e below E0 tgt := fun tgt kont => go0 tgt (by
    show Steps p.tables e below (s₁.setTop (mkF m 0 #[.val (.long q1), .second, .val (.long q2), .second, .unset, .unset, .unset, .unset, .unset, .unset, .unset, .unset, .unset, .unset, .unset, .unset, .unset, .unset, .unset, .unset] [])) tgt
    refine XS.lloadN X0.here hx rfl (hb hby dMH_0) rfl ?_
    show Steps p.tables e below (s₁.setTop (mkF m 1 #[.val (.long q1), .second, .val (.long q2), .second, .unset, .unset, .unset, .unset, .unset, .unset, .unset, .unset, .unset, .unset, .unset, .unset, .unset, .unset, .unset, .unset] [(.long q1)])) tgt
    refine XS.bipush X0.here hx rfl (hb hby dMH_1) ?_
    show Steps p.tables e below (s₁.setTop (mkF m 3 #[.val (.long q1), .second, .val (.long q2), .second, .unset, .unset, .unset, .unset, .unset, .unset, .unset, .unset, .unset, .unset, .unset, .unset, .unset, .unset, .unset, .unset] [(.int (32 : Int32)), (.long q1)])) tgt
    refine XS.lshr X0.here hx rfl (hb hby dMH_3) rfl ?_
    show Steps p.tables e below (s₁.setTop (mkF m 4 #[.val (.long q1), .second, .val (.long q2), .second, .unset, .unset, .unset, .unset, .unset, .unset, .unset, .unset, .unset, .unset, .unset, .unset, .unset, .unset, .unset, .unset] [(.long (own_hi q1))])) tgt
    refine XS.lstore X0.here hx rfl (hb hby dMH_4) rfl (l' := #[.val (.long q1), .second, .val (.long q2), .second, .val (.long (own_hi q1)), .second, .unset, .unset, .unset, .unset, .unset, .unset, .unset, .unset, .unset, .unset, .unset, .unset, .unset, .unset]) rfl ?_
    show Steps p.tables e below (s₁.setTop (mkF m 6 #[.val (.long q1), .second, .val (.long q2), .second, .val (.long (own_hi q1)), .second, .unset, .unset, .unset, .unset, .unset, .unset, .unset, .unset, .unset, .unset, .unset, .unset, .unset, .unset] [])) tgt
    refine XS.lloadN X0.here hx rfl (hb hby dMH_6) rfl ?_
    show Steps p.tables e below (s₁.setTop (mkF m 7 #[.val (.long q1), .second, .val (.long q2), .second, .val (.long (own_hi q1)), .second, .unset, .unset, .unset, .unset, .unset, .unset, .unset, .unset, .unset, .unset, .unset, .unset, .unset, .unset] [(.long q1)])) tgt
    refine X0.ldc2Long hx hown (mvT hZ (hw _ (List.mem_of_getElem? (i := 50) rfl))) (g := (mkF m 7 #[.val (.long q1), .second, .val (.long q2), .second, .val (.long (own_hi q1)), .second, .unset, .unset, .unset, .unset, .unset, .unset, .unset, .unset, .unset, .unset, .unset, .unset, .unset, .unset] [(.long q1)])) rfl (hb hby dMH_7) _ ?_
    show Steps p.tables e below (s₁.setTop (mkF m 10 #[.val (.long q1), .second, .val (.long q2), .second, .val (.long (own_hi q1)), .second, .unset, .unset, .unset, .unset, .unset, .unset, .unset, .unset, .unset, .unset, .unset, .unset, .unset, .unset] [(.long (4294967295 : Int64)), (.long q1)])) tgt
    refine XS.land X0.here hx rfl (hb hby dMH_10) rfl ?_
    show Steps p.tables e below (s₁.setTop (mkF m 11 #[.val (.long q1), .second, .val (.long q2), .second, .val (.long (own_hi q1)), .second, .unset, .unset, .unset, .unset, .unset, .unset, .unset, .unset, .unset, .unset, .unset, .unset, .unset, .unset] [(.long (own_lo q1))])) tgt
    refine XS.lstore X0.here hx rfl (hb hby dMH_11) rfl (l' := #[.val (.long q1), .second, .val (.long q2), .second, .val (.long (own_hi q1)), .second, .val (.long (own_lo q1)), .second, .unset, .unset, .unset, .unset, .unset, .unset, .unset, .unset, .unset, .unset, .unset, .unset]) rfl ?_
    show Steps p.tables e below (s₁.setTop (mkF m 13 #[.val (.long q1), .second, .val (.long q2), .second, .val (.long (own_hi q1)), .second, .val (.long (own_lo q1)), .second, .unset, .unset, .unset, .unset, .unset, .unset, .unset, .unset, .unset, .unset, .unset, .unset] [])) tgt
    refine XS.lloadN X0.here hx rfl (hb hby dMH_13) rfl ?_
    show Steps p.tables e below (s₁.setTop (mkF m 14 #[.val (.long q1), .second, .val (.long q2), .second, .val (.long (own_hi q1)), .second, .val (.long (own_lo q1)), .second, .unset, .unset, .unset, .unset, .unset, .unset, .unset, .unset, .unset, .unset, .unset, .unset] [(.long q2)])) tgt
    refine XS.bipush X0.here hx rfl (hb hby dMH_14) ?_
    show Steps p.tables e below (s₁.setTop (mkF m 16 #[.val (.long q1), .second, .val (.long q2), .second, .val (.long (own_hi q1)), .second, .val (.long (own_lo q1)), .second, .unset, .unset, .unset, .unset, .unset, .unset, .unset, .unset, .unset, .unset, .unset, .unset] [(.int (32 : Int32)), (.long q2)])) tgt
    refine XS.lshr X0.here hx rfl (hb hby dMH_16) rfl ?_
    show Steps p.tables e below (s₁.setTop (mkF m 17 #[.val (.long q1), .second, .val (.long q2), .second, .val (.long (own_hi q1)), .second, .val (.long (own_lo q1)), .second, .unset, .unset, .unset, .unset, .unset, .unset, .unset, .unset, .unset, .unset, .unset, .unset] [(.long (own_hi q2))])) tgt
    refine XS.lstore X0.here hx rfl (hb hby dMH_17) rfl (l' := #[.val (.long q1), .second, .val (.long q2), .second, .val (.long (own_hi q1)), .second, .val (.long (own_lo q1)), .second, .val (.long (own_hi q2)), .second, .unset, .unset, .unset, .unset, .unset, .unset, .unset, .unset, .unset, .unset]) rfl ?_
    show Steps p.tables e below (s₁.setTop (mkF m 19 #[.val (.long q1), .second, .val (.long q2), .second, .val (.long (own_hi q1)), .second, .val (.long (own_lo q1)), .second, .val (.long (own_hi q2)), .second, .unset, .unset, .unset, .unset, .unset, .unset, .unset, .unset, .unset, .unset] [])) tgt
    refine XS.lloadN X0.here hx rfl (hb hby dMH_19) rfl ?_
    show Steps p.tables e below (s₁.setTop (mkF m 20 #[.val (.long q1), .second, .val (.long q2), .second, .val (.long (own_hi q1)), .second, .val (.long (own_lo q1)), .second, .val (.long (own_hi q2)), .second, .unset, .unset, .unset, .unset, .unset, .unset, .unset, .unset, .unset, .unset] [(.long q2)])) tgt
    refine X0.ldc2Long hx hown (mvT hZ (hw _ (List.mem_of_getElem? (i := 50) rfl))) (g := (mkF m 20 #[.val (.long q1), .second, .val (.long q2), .second, .val (.long (own_hi q1)), .second, .val (.long (own_lo q1)), .second, .val (.long (own_hi q2)), .second, .unset, .unset, .unset, .unset, .unset, .unset, .unset, .unset, .unset, .unset] [(.long q2)])) rfl (hb hby dMH_20) _ ?_
    show Steps p.tables e below (s₁.setTop (mkF m 23 #[.val (.long q1), .second, .val (.long q2), .second, .val (.long (own_hi q1)), .second, .val (.long (own_lo q1)), .second, .val (.long (own_hi q2)), .second, .unset, .unset, .unset, .unset, .unset, .unset, .unset, .unset, .unset, .unset] [(.long (4294967295 : Int64)), (.long q2)])) tgt
    refine XS.land X0.here hx rfl (hb hby dMH_23) rfl ?_
    show Steps p.tables e below (s₁.setTop (mkF m 24 #[.val (.long q1), .second, .val (.long q2), .second, .val (.long (own_hi q1)), .second, .val (.long (own_lo q1)), .second, .val (.long (own_hi q2)), .second, .unset, .unset, .unset, .unset, .unset, .unset, .unset, .unset, .unset, .unset] [(.long (own_lo q2))])) tgt
    refine XS.lstore X0.here hx rfl (hb hby dMH_24) rfl (l' := #[.val (.long q1), .second, .val (.long q2), .second, .val (.long (own_hi q1)), .second, .val (.long (own_lo q1)), .second, .val (.long (own_hi q2)), .second, .val (.long (own_lo q2)), .second, .unset, .unset, .unset, .unset, .unset, .unset, .unset, .unset]) rfl ?_
    show Steps p.tables e below (s₁.setTop (mkF m 26 #[.val (.long q1), .second, .val (.long q2), .second, .val (.long (own_hi q1)), .second, .val (.long (own_lo q1)), .second, .val (.long (own_hi q2)), .second, .val (.long (own_lo q2)), .second, .unset, .unset, .unset, .unset, .unset, .unset, .unset, .unset] [])) tgt
    refine XS.lload X0.here hx rfl (hb hby dMH_26) rfl ?_
    show Steps p.tables e below (s₁.setTop (mkF m 28 #[.val (.long q1), .second, .val (.long q2), .second, .val (.long (own_hi q1)), .second, .val (.long (own_lo q1)), .second, .val (.long (own_hi q2)), .second, .val (.long (own_lo q2)), .second, .unset, .unset, .unset, .unset, .unset, .unset, .unset, .unset] [(.long (own_lo q1))])) tgt
    refine XS.lload X0.here hx rfl (hb hby dMH_28) rfl ?_
    show Steps p.tables e below (s₁.setTop (mkF m 30 #[.val (.long q1), .second, .val (.long q2), .second, .val (.long (own_hi q1)), .second, .val (.long (own_lo q1)), .second, .val (.long (own_hi q2)), .second, .val (.long (own_lo q2)), .second, .unset, .unset, .unset, .unset, .unset, .unset, .unset, .unset] [(.long (own_lo q2)), (.long (own_lo q1))])) tgt
    refine XS.lmul X0.here hx rfl (hb hby dMH_30) rfl ?_
    show Steps p.tables e below (s₁.setTop (mkF m 31 #[.val (.long q1), .second, .val (.long q2), .second, .val (.long (own_hi q1)), .second, .val (.long (own_lo q1)), .second, .val (.long (own_hi q2)), .second, .val (.long (own_lo q2)), .second, .unset, .unset, .unset, .unset, .unset, .unset, .unset, .unset] [(.long (own_z2 q1 q2))])) tgt
    refine XS.lstore X0.here hx rfl (hb hby dMH_31) rfl (l' := #[.val (.long q1), .second, .val (.long q2), .second, .val (.long (own_hi q1)), .second, .val (.long (own_lo q1)), .second, .val (.long (own_hi q2)), .second, .val (.long (own_lo q2)), .second, .val (.long (own_z2 q1 q2)), .second, .unset, .unset, .unset, .unset, .unset, .unset]) rfl ?_
    show Steps p.tables e below (s₁.setTop (mkF m 33 #[.val (.long q1), .second, .val (.long q2), .second, .val (.long (own_hi q1)), .second, .val (.long (own_lo q1)), .second, .val (.long (own_hi q2)), .second, .val (.long (own_lo q2)), .second, .val (.long (own_z2 q1 q2)), .second, .unset, .unset, .unset, .unset, .unset, .unset] [])) tgt
    refine XS.lload X0.here hx rfl (hb hby dMH_33) rfl ?_
    show Steps p.tables e below (s₁.setTop (mkF m 35 #[.val (.long q1), .second, .val (.long q2), .second, .val (.long (own_hi q1)), .second, .val (.long (own_lo q1)), .second, .val (.long (own_hi q2)), .second, .val (.long (own_lo q2)), .second, .val (.long (own_z2 q1 q2)), .second, .unset, .unset, .unset, .unset, .unset, .unset] [(.long (own_hi q1))])) tgt
    refine XS.lload X0.here hx rfl (hb hby dMH_35) rfl ?_
    show Steps p.tables e below (s₁.setTop (mkF m 37 #[.val (.long q1), .second, .val (.long q2), .second, .val (.long (own_hi q1)), .second, .val (.long (own_lo q1)), .second, .val (.long (own_hi q2)), .second, .val (.long (own_lo q2)), .second, .val (.long (own_z2 q1 q2)), .second, .unset, .unset, .unset, .unset, .unset, .unset] [(.long (own_lo q2)), (.long (own_hi q1))])) tgt
    refine XS.lmul X0.here hx rfl (hb hby dMH_37) rfl ?_
    show Steps p.tables e below (s₁.setTop (mkF m 38 #[.val (.long q1), .second, .val (.long q2), .second, .val (.long (own_hi q1)), .second, .val (.long (own_lo q1)), .second, .val (.long (own_hi q2)), .second, .val (.long (own_lo q2)), .second, .val (.long (own_z2 q1 q2)), .second, .unset, .unset, .unset, .unset, .unset, .unset] [(.long ((own_hi q1) * (own_lo q2)))])) tgt
    refine XS.lload X0.here hx rfl (hb hby dMH_38) rfl ?_
    show Steps p.tables e below (s₁.setTop (mkF m 40 #[.val (.long q1), .second, .val (.long q2), .second, .val (.long (own_hi q1)), .second, .val (.long (own_lo q1)), .second, .val (.long (own_hi q2)), .second, .val (.long (own_lo q2)), .second, .val (.long (own_z2 q1 q2)), .second, .unset, .unset, .unset, .unset, .unset, .unset] [(.long (own_z2 q1 q2)), (.long ((own_hi q1) * (own_lo q2)))])) tgt
    refine XS.bipush X0.here hx rfl (hb hby dMH_40) ?_
    show Steps p.tables e below (s₁.setTop (mkF m 42 #[.val (.long q1), .second, .val (.long q2), .second, .val (.long (own_hi q1)), .second, .val (.long (own_lo q1)), .second, .val (.long (own_hi q2)), .second, .val (.long (own_lo q2)), .second, .val (.long (own_z2 q1 q2)), .second, .unset, .unset, .unset, .unset, .unset, .unset] [(.int (32 : Int32)), (.long (own_z2 q1 q2)), (.long ((own_hi q1) * (own_lo q2)))])) tgt
    refine XS.lushr X0.here hx rfl (hb hby dMH_42) rfl ?_
    show Steps p.tables e below (s₁.setTop (mkF m 43 #[.val (.long q1), .second, .val (.long q2), .second, .val (.long (own_hi q1)), .second, .val (.long (own_lo q1)), .second, .val (.long (own_hi q2)), .second, .val (.long (own_lo q2)), .second, .val (.long (own_z2 q1 q2)), .second, .unset, .unset, .unset, .unset, .unset, .unset] [(.long (((own_z2 q1 q2).toUInt64 >>> ((32 : Int32) &&& 0x3f).toInt64.toUInt64).toInt64)), (.long ((own_hi q1) * (own_lo q2)))])) tgt
    refine XS.ladd X0.here hx rfl (hb hby dMH_43) rfl ?_
    show Steps p.tables e below (s₁.setTop (mkF m 44 #[.val (.long q1), .second, .val (.long q2), .second, .val (.long (own_hi q1)), .second, .val (.long (own_lo q1)), .second, .val (.long (own_hi q2)), .second, .val (.long (own_lo q2)), .second, .val (.long (own_z2 q1 q2)), .second, .unset, .unset, .unset, .unset, .unset, .unset] [(.long (own_t q1 q2))])) tgt
    refine XS.lstore X0.here hx rfl (hb hby dMH_44) rfl (l' := #[.val (.long q1), .second, .val (.long q2), .second, .val (.long (own_hi q1)), .second, .val (.long (own_lo q1)), .second, .val (.long (own_hi q2)), .second, .val (.long (own_lo q2)), .second, .val (.long (own_z2 q1 q2)), .second, .val (.long (own_t q1 q2)), .second, .unset, .unset, .unset, .unset]) rfl ?_
    show Steps p.tables e below (s₁.setTop (mkF m 46 #[.val (.long q1), .second, .val (.long q2), .second, .val (.long (own_hi q1)), .second, .val (.long (own_lo q1)), .second, .val (.long (own_hi q2)), .second, .val (.long (own_lo q2)), .second, .val (.long (own_z2 q1 q2)), .second, .val (.long (own_t q1 q2)), .second, .unset, .unset, .unset, .unset] [])) tgt
    refine XS.lload X0.here hx rfl (hb hby dMH_46) rfl ?_
    show Steps p.tables e below (s₁.setTop (mkF m 48 #[.val (.long q1), .second, .val (.long q2), .second, .val (.long (own_hi q1)), .second, .val (.long (own_lo q1)), .second, .val (.long (own_hi q2)), .second, .val (.long (own_lo q2)), .second, .val (.long (own_z2 q1 q2)), .second, .val (.long (own_t q1 q2)), .second, .unset, .unset, .unset, .unset] [(.long (own_t q1 q2))])) tgt
    refine X0.ldc2Long hx hown (mvT hZ (hw _ (List.mem_of_getElem? (i := 50) rfl))) (g := (mkF m 48 #[.val (.long q1), .second, .val (.long q2), .second, .val (.long (own_hi q1)), .second, .val (.long (own_lo q1)), .second, .val (.long (own_hi q2)), .second, .val (.long (own_lo q2)), .second, .val (.long (own_z2 q1 q2)), .second, .val (.long (own_t q1 q2)), .second, .unset, .unset, .unset, .unset] [(.long (own_t q1 q2))])) rfl (hb hby dMH_48) _ ?_
    show Steps p.tables e below (s₁.setTop (mkF m 51 #[.val (.long q1), .second, .val (.long q2), .second, .val (.long (own_hi q1)), .second, .val (.long (own_lo q1)), .second, .val (.long (own_hi q2)), .second, .val (.long (own_lo q2)), .second, .val (.long (own_z2 q1 q2)), .second, .val (.long (own_t q1 q2)), .second, .unset, .unset, .unset, .unset] [(.long (4294967295 : Int64)), (.long (own_t q1 q2))])) tgt
    refine XS.land X0.here hx rfl (hb hby dMH_51) rfl ?_
    show Steps p.tables e below (s₁.setTop (mkF m 52 #[.val (.long q1), .second, .val (.long q2), .second, .val (.long (own_hi q1)), .second, .val (.long (own_lo q1)), .second, .val (.long (own_hi q2)), .second, .val (.long (own_lo q2)), .second, .val (.long (own_z2 q1 q2)), .second, .val (.long (own_t q1 q2)), .second, .unset, .unset, .unset, .unset] [(.long ((own_t q1 q2) &&& (4294967295 : Int64)))])) tgt
    refine XS.lstore X0.here hx rfl (hb hby dMH_52) rfl (l' := #[.val (.long q1), .second, .val (.long q2), .second, .val (.long (own_hi q1)), .second, .val (.long (own_lo q1)), .second, .val (.long (own_hi q2)), .second, .val (.long (own_lo q2)), .second, .val (.long (own_z2 q1 q2)), .second, .val (.long (own_t q1 q2)), .second, .val (.long ((own_t q1 q2) &&& (4294967295 : Int64))), .second, .unset, .unset]) rfl ?_
    show Steps p.tables e below (s₁.setTop (mkF m 54 #[.val (.long q1), .second, .val (.long q2), .second, .val (.long (own_hi q1)), .second, .val (.long (own_lo q1)), .second, .val (.long (own_hi q2)), .second, .val (.long (own_lo q2)), .second, .val (.long (own_z2 q1 q2)), .second, .val (.long (own_t q1 q2)), .second, .val (.long ((own_t q1 q2) &&& (4294967295 : Int64))), .second, .unset, .unset] [])) tgt
    refine XS.lload X0.here hx rfl (hb hby dMH_54) rfl ?_
    show Steps p.tables e below (s₁.setTop (mkF m 56 #[.val (.long q1), .second, .val (.long q2), .second, .val (.long (own_hi q1)), .second, .val (.long (own_lo q1)), .second, .val (.long (own_hi q2)), .second, .val (.long (own_lo q2)), .second, .val (.long (own_z2 q1 q2)), .second, .val (.long (own_t q1 q2)), .second, .val (.long ((own_t q1 q2) &&& (4294967295 : Int64))), .second, .unset, .unset] [(.long (own_t q1 q2))])) tgt
    refine XS.bipush X0.here hx rfl (hb hby dMH_56) ?_
    show Steps p.tables e below (s₁.setTop (mkF m 58 #[.val (.long q1), .second, .val (.long q2), .second, .val (.long (own_hi q1)), .second, .val (.long (own_lo q1)), .second, .val (.long (own_hi q2)), .second, .val (.long (own_lo q2)), .second, .val (.long (own_z2 q1 q2)), .second, .val (.long (own_t q1 q2)), .second, .val (.long ((own_t q1 q2) &&& (4294967295 : Int64))), .second, .unset, .unset] [(.int (32 : Int32)), (.long (own_t q1 q2))])) tgt
    refine XS.lshr X0.here hx rfl (hb hby dMH_58) rfl ?_
    show Steps p.tables e below (s₁.setTop (mkF m 59 #[.val (.long q1), .second, .val (.long q2), .second, .val (.long (own_hi q1)), .second, .val (.long (own_lo q1)), .second, .val (.long (own_hi q2)), .second, .val (.long (own_lo q2)), .second, .val (.long (own_z2 q1 q2)), .second, .val (.long (own_t q1 q2)), .second, .val (.long ((own_t q1 q2) &&& (4294967295 : Int64))), .second, .unset, .unset] [(.long ((own_t q1 q2) >>> ((32 : Int32) &&& 0x3f).toInt64))])) tgt
    refine XS.lstore X0.here hx rfl (hb hby dMH_59) rfl (l' := #[.val (.long q1), .second, .val (.long q2), .second, .val (.long (own_hi q1)), .second, .val (.long (own_lo q1)), .second, .val (.long (own_hi q2)), .second, .val (.long (own_lo q2)), .second, .val (.long (own_z2 q1 q2)), .second, .val (.long (own_t q1 q2)), .second, .val (.long ((own_t q1 q2) &&& (4294967295 : Int64))), .second, .val (.long ((own_t q1 q2) >>> ((32 : Int32) &&& 0x3f).toInt64)), .second]) rfl ?_
    show Steps p.tables e below (s₁.setTop (mkF m 61 #[.val (.long q1), .second, .val (.long q2), .second, .val (.long (own_hi q1)), .second, .val (.long (own_lo q1)), .second, .val (.long (own_hi q2)), .second, .val (.long (own_lo q2)), .second, .val (.long (own_z2 q1 q2)), .second, .val (.long (own_t q1 q2)), .second, .val (.long ((own_t q1 q2) &&& (4294967295 : Int64))), .second, .val (.long ((own_t q1 q2) >>> ((32 : Int32) &&& 0x3f).toInt64)), .second] [])) tgt
    refine XS.lload X0.here hx rfl (hb hby dMH_61) rfl ?_
    show Steps p.tables e below (s₁.setTop (mkF m 63 #[.val (.long q1), .second, .val (.long q2), .second, .val (.long (own_hi q1)), .second, .val (.long (own_lo q1)), .second, .val (.long (own_hi q2)), .second, .val (.long (own_lo q2)), .second, .val (.long (own_z2 q1 q2)), .second, .val (.long (own_t q1 q2)), .second, .val (.long ((own_t q1 q2) &&& (4294967295 : Int64))), .second, .val (.long ((own_t q1 q2) >>> ((32 : Int32) &&& 0x3f).toInt64)), .second] [(.long ((own_t q1 q2) &&& (4294967295 : Int64)))])) tgt
    refine XS.lload X0.here hx rfl (hb hby dMH_63) rfl ?_
    show Steps p.tables e below (s₁.setTop (mkF m 65 #[.val (.long q1), .second, .val (.long q2), .second, .val (.long (own_hi q1)), .second, .val (.long (own_lo q1)), .second, .val (.long (own_hi q2)), .second, .val (.long (own_lo q2)), .second, .val (.long (own_z2 q1 q2)), .second, .val (.long (own_t q1 q2)), .second, .val (.long ((own_t q1 q2) &&& (4294967295 : Int64))), .second, .val (.long ((own_t q1 q2) >>> ((32 : Int32) &&& 0x3f).toInt64)), .second] [(.long (own_lo q1)), (.long ((own_t q1 q2) &&& (4294967295 : Int64)))])) tgt
    refine XS.lload X0.here hx rfl (hb hby dMH_65) rfl ?_
    show Steps p.tables e below (s₁.setTop (mkF m 67 #[.val (.long q1), .second, .val (.long q2), .second, .val (.long (own_hi q1)), .second, .val (.long (own_lo q1)), .second, .val (.long (own_hi q2)), .second, .val (.long (own_lo q2)), .second, .val (.long (own_z2 q1 q2)), .second, .val (.long (own_t q1 q2)), .second, .val (.long ((own_t q1 q2) &&& (4294967295 : Int64))), .second, .val (.long ((own_t q1 q2) >>> ((32 : Int32) &&& 0x3f).toInt64)), .second] [(.long (own_hi q2)), (.long (own_lo q1)), (.long ((own_t q1 q2) &&& (4294967295 : Int64)))])) tgt
    refine XS.lmul X0.here hx rfl (hb hby dMH_67) rfl ?_
    show Steps p.tables e below (s₁.setTop (mkF m 68 #[.val (.long q1), .second, .val (.long q2), .second, .val (.long (own_hi q1)), .second, .val (.long (own_lo q1)), .second, .val (.long (own_hi q2)), .second, .val (.long (own_lo q2)), .second, .val (.long (own_z2 q1 q2)), .second, .val (.long (own_t q1 q2)), .second, .val (.long ((own_t q1 q2) &&& (4294967295 : Int64))), .second, .val (.long ((own_t q1 q2) >>> ((32 : Int32) &&& 0x3f).toInt64)), .second] [(.long ((own_lo q1) * (own_hi q2))), (.long ((own_t q1 q2) &&& (4294967295 : Int64)))])) tgt
    refine XS.ladd X0.here hx rfl (hb hby dMH_68) rfl ?_
    show Steps p.tables e below (s₁.setTop (mkF m 69 #[.val (.long q1), .second, .val (.long q2), .second, .val (.long (own_hi q1)), .second, .val (.long (own_lo q1)), .second, .val (.long (own_hi q2)), .second, .val (.long (own_lo q2)), .second, .val (.long (own_z2 q1 q2)), .second, .val (.long (own_t q1 q2)), .second, .val (.long ((own_t q1 q2) &&& (4294967295 : Int64))), .second, .val (.long ((own_t q1 q2) >>> ((32 : Int32) &&& 0x3f).toInt64)), .second] [(.long (own_z1 q1 q2))])) tgt
    refine XS.lstore X0.here hx rfl (hb hby dMH_69) rfl (l' := #[.val (.long q1), .second, .val (.long q2), .second, .val (.long (own_hi q1)), .second, .val (.long (own_lo q1)), .second, .val (.long (own_hi q2)), .second, .val (.long (own_lo q2)), .second, .val (.long (own_z2 q1 q2)), .second, .val (.long (own_t q1 q2)), .second, .val (.long (own_z1 q1 q2)), .second, .val (.long ((own_t q1 q2) >>> ((32 : Int32) &&& 0x3f).toInt64)), .second]) rfl ?_
    show Steps p.tables e below (s₁.setTop (mkF m 71 #[.val (.long q1), .second, .val (.long q2), .second, .val (.long (own_hi q1)), .second, .val (.long (own_lo q1)), .second, .val (.long (own_hi q2)), .second, .val (.long (own_lo q2)), .second, .val (.long (own_z2 q1 q2)), .second, .val (.long (own_t q1 q2)), .second, .val (.long (own_z1 q1 q2)), .second, .val (.long ((own_t q1 q2) >>> ((32 : Int32) &&& 0x3f).toInt64)), .second] [])) tgt
    refine XS.lload X0.here hx rfl (hb hby dMH_71) rfl ?_
    show Steps p.tables e below (s₁.setTop (mkF m 73 #[.val (.long q1), .second, .val (.long q2), .second, .val (.long (own_hi q1)), .second, .val (.long (own_lo q1)), .second, .val (.long (own_hi q2)), .second, .val (.long (own_lo q2)), .second, .val (.long (own_z2 q1 q2)), .second, .val (.long (own_t q1 q2)), .second, .val (.long (own_z1 q1 q2)), .second, .val (.long ((own_t q1 q2) >>> ((32 : Int32) &&& 0x3f).toInt64)), .second] [(.long (own_hi q1))])) tgt
    refine XS.lload X0.here hx rfl (hb hby dMH_73) rfl ?_
    show Steps p.tables e below (s₁.setTop (mkF m 75 #[.val (.long q1), .second, .val (.long q2), .second, .val (.long (own_hi q1)), .second, .val (.long (own_lo q1)), .second, .val (.long (own_hi q2)), .second, .val (.long (own_lo q2)), .second, .val (.long (own_z2 q1 q2)), .second, .val (.long (own_t q1 q2)), .second, .val (.long (own_z1 q1 q2)), .second, .val (.long ((own_t q1 q2) >>> ((32 : Int32) &&& 0x3f).toInt64)), .second] [(.long (own_hi q2)), (.long (own_hi q1))])) tgt
    refine XS.lmul X0.here hx rfl (hb hby dMH_75) rfl ?_
    show Steps p.tables e below (s₁.setTop (mkF m 76 #[.val (.long q1), .second, .val (.long q2), .second, .val (.long (own_hi q1)), .second, .val (.long (own_lo q1)), .second, .val (.long (own_hi q2)), .second, .val (.long (own_lo q2)), .second, .val (.long (own_z2 q1 q2)), .second, .val (.long (own_t q1 q2)), .second, .val (.long (own_z1 q1 q2)), .second, .val (.long ((own_t q1 q2) >>> ((32 : Int32) &&& 0x3f).toInt64)), .second] [(.long ((own_hi q1) * (own_hi q2)))])) tgt
    refine XS.lload X0.here hx rfl (hb hby dMH_76) rfl ?_
    show Steps p.tables e below (s₁.setTop (mkF m 78 #[.val (.long q1), .second, .val (.long q2), .second, .val (.long (own_hi q1)), .second, .val (.long (own_lo q1)), .second, .val (.long (own_hi q2)), .second, .val (.long (own_lo q2)), .second, .val (.long (own_z2 q1 q2)), .second, .val (.long (own_t q1 q2)), .second, .val (.long (own_z1 q1 q2)), .second, .val (.long ((own_t q1 q2) >>> ((32 : Int32) &&& 0x3f).toInt64)), .second] [(.long ((own_t q1 q2) >>> ((32 : Int32) &&& 0x3f).toInt64)), (.long ((own_hi q1) * (own_hi q2)))])) tgt
    refine XS.ladd X0.here hx rfl (hb hby dMH_78) rfl ?_
    show Steps p.tables e below (s₁.setTop (mkF m 79 #[.val (.long q1), .second, .val (.long q2), .second, .val (.long (own_hi q1)), .second, .val (.long (own_lo q1)), .second, .val (.long (own_hi q2)), .second, .val (.long (own_lo q2)), .second, .val (.long (own_z2 q1 q2)), .second, .val (.long (own_t q1 q2)), .second, .val (.long (own_z1 q1 q2)), .second, .val (.long ((own_t q1 q2) >>> ((32 : Int32) &&& 0x3f).toInt64)), .second] [(.long (((own_hi q1) * (own_hi q2)) + ((own_t q1 q2) >>> ((32 : Int32) &&& 0x3f).toInt64)))])) tgt
    refine XS.lload X0.here hx rfl (hb hby dMH_79) rfl ?_
    show Steps p.tables e below (s₁.setTop (mkF m 81 #[.val (.long q1), .second, .val (.long q2), .second, .val (.long (own_hi q1)), .second, .val (.long (own_lo q1)), .second, .val (.long (own_hi q2)), .second, .val (.long (own_lo q2)), .second, .val (.long (own_z2 q1 q2)), .second, .val (.long (own_t q1 q2)), .second, .val (.long (own_z1 q1 q2)), .second, .val (.long ((own_t q1 q2) >>> ((32 : Int32) &&& 0x3f).toInt64)), .second] [(.long (own_z1 q1 q2)), (.long (((own_hi q1) * (own_hi q2)) + ((own_t q1 q2) >>> ((32 : Int32) &&& 0x3f).toInt64)))])) tgt
    refine XS.bipush X0.here hx rfl (hb hby dMH_81) ?_
    show Steps p.tables e below (s₁.setTop (mkF m 83 #[.val (.long q1), .second, .val (.long q2), .second, .val (.long (own_hi q1)), .second, .val (.long (own_lo q1)), .second, .val (.long (own_hi q2)), .second, .val (.long (own_lo q2)), .second, .val (.long (own_z2 q1 q2)), .second, .val (.long (own_t q1 q2)), .second, .val (.long (own_z1 q1 q2)), .second, .val (.long ((own_t q1 q2) >>> ((32 : Int32) &&& 0x3f).toInt64)), .second] [(.int (32 : Int32)), (.long (own_z1 q1 q2)), (.long (((own_hi q1) * (own_hi q2)) + ((own_t q1 q2) >>> ((32 : Int32) &&& 0x3f).toInt64)))])) tgt
    refine XS.lshr X0.here hx rfl (hb hby dMH_83) rfl ?_
    show Steps p.tables e below (s₁.setTop (mkF m 84 #[.val (.long q1), .second, .val (.long q2), .second, .val (.long (own_hi q1)), .second, .val (.long (own_lo q1)), .second, .val (.long (own_hi q2)), .second, .val (.long (own_lo q2)), .second, .val (.long (own_z2 q1 q2)), .second, .val (.long (own_t q1 q2)), .second, .val (.long (own_z1 q1 q2)), .second, .val (.long ((own_t q1 q2) >>> ((32 : Int32) &&& 0x3f).toInt64)), .second] [(.long ((own_z1 q1 q2) >>> ((32 : Int32) &&& 0x3f).toInt64)), (.long (((own_hi q1) * (own_hi q2)) + ((own_t q1 q2) >>> ((32 : Int32) &&& 0x3f).toInt64)))])) tgt
    refine XS.ladd X0.here hx rfl (hb hby dMH_84) rfl ?_
    exact kont)
  obtain ⟨fs, hr, hrun, hended, hW, hsame⟩ := X0.leave (v := some (.long (own_mh q1 q2))) (fun h => by rw [Bd.returns] at h; cases h)
  refine ⟨_, _, go1 _ ?_, hrun, hended, _, _, rfl, ?_, ⟨_, rfl⟩, hW, hsame.mono (by decide) (by decide)⟩
  · show Steps p.tables e below (s₁.setTop (mkF m 85 #[.val (.long q1), .second, .val (.long q2), .second, .val (.long (own_hi q1)), .second, .val (.long (own_lo q1)), .second, .val (.long (own_hi q2)), .second, .val (.long (own_lo q2)), .second, .val (.long (own_z2 q1 q2)), .second, .val (.long (own_t q1 q2)), .second, .val (.long (own_z1 q1 q2)), .second, .val (.long ((own_t q1 q2) >>> ((32 : Int32) &&& 0x3f).toInt64)), .second] [(.long (own_mh q1 q2))])) _
    exact retOut X0 hx Bd.returns rfl (Or.inr (Or.inl ⟨rfl, rfl, _, rfl⟩)) (hb hby dMH_85) hr
  · show QMH Z q1 q2 h0 n0 _ s₁.heap _
    rw [e0]
    exact ⟨rfl, N0, rfl⟩
def own_dq (q1 : Int64) (q2 : Int64) : Int64 := ((((q1.toUInt64 >>> ((1 : Int32) &&& 0x3f).toInt64.toUInt64).toInt64) / q2) <<< ((1 : Int32) &&& 0x3f).toInt64)
def own_dr (q1 : Int64) (q2 : Int64) : Int64 := (q1 - ((own_dq q1 q2) * q2))
def own_du (q1 : Int64) (q2 : Int64) : Int64 := ((own_dq q1 q2) + ((((own_dr q1 q2) ||| (((own_dr q1 q2) - q2) ^^^ (-1 : Int64))).toUInt64 >>> ((63 : Int32) &&& 0x3f).toInt64.toUInt64).toInt64))
theorem pn_0 : plainName "java/lang/Long" = true := by first | (simp [plainName, overriddenIn]; done) | decide +kernel
theorem dDU_0 : decode jdk_35_method_44_code 0 = .ok (.lload_n 2, 1) := by decide +kernel
theorem dDU_1 : decode jdk_35_method_44_code 1 = .ok (.lconst 0, 1) := by decide +kernel
theorem dDU_2 : decode jdk_35_method_44_code 2 = .ok (.lcmp, 1) := by decide +kernel
theorem dDU_3 : decode jdk_35_method_44_code 3 = .ok (.ifCond .lt 38, 3) := by decide +kernel
theorem dDU_6 : decode jdk_35_method_44_code 6 = .ok (.lload_n 0, 1) := by decide +kernel
theorem dDU_7 : decode jdk_35_method_44_code 7 = .ok (.iconst 1, 1) := by decide +kernel
theorem dDU_8 : decode jdk_35_method_44_code 8 = .ok (.lushr, 1) := by decide +kernel
theorem dDU_9 : decode jdk_35_method_44_code 9 = .ok (.lload_n 2, 1) := by decide +kernel
theorem dDU_10 : decode jdk_35_method_44_code 10 = .ok (.ldiv, 1) := by decide +kernel
theorem dDU_11 : decode jdk_35_method_44_code 11 = .ok (.iconst 1, 1) := by decide +kernel
theorem dDU_12 : decode jdk_35_method_44_code 12 = .ok (.lshl, 1) := by decide +kernel
theorem dDU_13 : decode jdk_35_method_44_code 13 = .ok (.lstore 4, 2) := by decide +kernel
theorem dDU_15 : decode jdk_35_method_44_code 15 = .ok (.lload_n 0, 1) := by decide +kernel
theorem dDU_16 : decode jdk_35_method_44_code 16 = .ok (.lload 4, 2) := by decide +kernel
theorem dDU_18 : decode jdk_35_method_44_code 18 = .ok (.lload_n 2, 1) := by decide +kernel
theorem dDU_19 : decode jdk_35_method_44_code 19 = .ok (.lmul, 1) := by decide +kernel
theorem dDU_20 : decode jdk_35_method_44_code 20 = .ok (.lsub, 1) := by decide +kernel
theorem dDU_21 : decode jdk_35_method_44_code 21 = .ok (.lstore 6, 2) := by decide +kernel
theorem dDU_23 : decode jdk_35_method_44_code 23 = .ok (.lload 4, 2) := by decide +kernel
theorem dDU_25 : decode jdk_35_method_44_code 25 = .ok (.lload 6, 2) := by decide +kernel
theorem dDU_27 : decode jdk_35_method_44_code 27 = .ok (.lload 6, 2) := by decide +kernel
theorem dDU_29 : decode jdk_35_method_44_code 29 = .ok (.lload_n 2, 1) := by decide +kernel
theorem dDU_30 : decode jdk_35_method_44_code 30 = .ok (.lsub, 1) := by decide +kernel
theorem dDU_31 : decode jdk_35_method_44_code 31 = .ok (.ldc2_w 306, 3) := by decide +kernel
theorem dDU_34 : decode jdk_35_method_44_code 34 = .ok (.lxor, 1) := by decide +kernel
theorem dDU_35 : decode jdk_35_method_44_code 35 = .ok (.lor, 1) := by decide +kernel
theorem dDU_36 : decode jdk_35_method_44_code 36 = .ok (.bipush 63, 2) := by decide +kernel
theorem dDU_38 : decode jdk_35_method_44_code 38 = .ok (.lushr, 1) := by decide +kernel
theorem dDU_39 : decode jdk_35_method_44_code 39 = .ok (.ladd, 1) := by decide +kernel
theorem dDU_40 : decode jdk_35_method_44_code 40 = .ok (.lreturn, 1) := by decide +kernel
theorem ef_DU (m : MethodId) (x0 : Int64) (x1 : Int64) : entryFrame m #[(.long x0), (.long x1)] 8 = mkF m 0 #[.val (.long x0), .second, .val (.long x1), .second, .unset, .unset, .unset, .unset] [] := by first | (simp [entryFrame, mkF, argsToLocals, Value.category, maxLocals]; done) | rfl
def QDU (Z : State) (q1 : Int64) (q2 : Int64) (h0 : Heap) (n0 : Nat) (v : Option Value) (h : Heap) (L : List Loc) : Prop := v = some (.long (own_du q1 q2)) ∧ Fr n0 L ∧ h = h0
set_option maxRecDepth 65536 in
set_option maxHeartbeats 40000000 in
theorem rmDU (l : Launch) (Z : State) (a0 : Array Value) (hw : ∀ d ∈ tables_1, d.before a0 Z = true) (ws : List Jvm.Cond) (q1 : Int64) (q2 : Int64) (h0 : Heap) (n0 : Nat) (Z0 : n0 ≤ h0.size) (hc3 : ¬ (lcmpW q2 (0 : Int64)) < (0 : Int32)) (hnz : ¬ q2 = (0 : Int64)) :
    MetFree l (⟨"java/lang/Long", "divideUnsigned", "(JJ)J"⟩ : MethodName) (head1 (Jvm.Cond.code (⟨"java/lang/Long", "divideUnsigned", "(JJ)J"⟩ : MethodName) jdk_35_method_44_code 8 (some .long) :: ws) ({ frames := 0, cells := 0, slots := 0, locals := 0 } : Room)) (fun as_ U => as_ = #[(.long q1), (.long q2)] ∧ Z.Warmed39 U.vm ∧ U.heap = h0) (fun _ _ _ _ _ => True) (fun _ U o U' => ∃ v L, o = .returned v ∧ QDU Z q1 q2 h0 n0 v U'.heap L ∧ FrameEnd U o U' L ({ frames := 0, cells := 0, slots := 0, locals := 0 } : Room).cells ({ frames := 0, cells := 0, slots := 0, locals := 0 } : Room).slots) := by
  refine MetFree.of_bodySF (plainFor_of_name pn_0) hisR ?_
  intro p e s m args below meth c s₁ Bd hml0 hP hK
  obtain ⟨rfl, hZ, hh⟩ := hP
  have hx := Bd.exec
  have hby := Bd.bytes
  have hml : c.maxLocals = 8 := hml0
  have hown : s.vm.findClass "java/lang/Long" = some m.cls := findClass_of_methodNamed Bd.named
  have hnm := (name_of_methodNamed Bd.named Bd.method).1
  have X0 : Stand p l e ({ frames := 0, cells := 0, slots := 0, locals := 0 } : Room) s m #[(.long q1), (.long q2)] below meth c s₁ [] 0 0 := Stand.of_body Bd
  have e0 : s₁.heap = h0 := by rw [← hh, Bd.state]; rfl
  have N0 := Fr.nil n0
  obtain ⟨E0, hE0⟩ : ∃ z, z = s₁.setTop (entryFrame m #[(.long q1), (.long q2)] 8) := ⟨_, rfl⟩
  rw [← hE0]
  have go0 : ∀ tgt, Steps p.tables e below (s₁.setTop (mkF m 0 #[.val (.long q1), .second, .val (.long q2), .second, .unset, .unset, .unset, .unset] [])) tgt → Steps p.tables e below E0 tgt := fun tgt kont => by rw [hE0]; exact castTop (ef_DU m q1 q2) kont
  have go1 : ∀ tgt, Steps p.tables e below (s₁.setTop (mkF m 40 #[.val (.long q1), .second, .val (.long q2), .second, .val (.long (own_dq q1 q2)), .second, .val (.long (own_dr q1 q2)), .second] [(.long (own_du q1 q2))])) tgt → Steps p.tables e below E0 tgt := fun tgt kont => go0 tgt (by
    show Steps p.tables e below (s₁.setTop (mkF m 0 #[.val (.long q1), .second, .val (.long q2), .second, .unset, .unset, .unset, .unset] [])) tgt
    refine XS.lloadN X0.here hx rfl (hb hby dDU_0) rfl ?_
    show Steps p.tables e below (s₁.setTop (mkF m 1 #[.val (.long q1), .second, .val (.long q2), .second, .unset, .unset, .unset, .unset] [(.long q2)])) tgt
    refine XS.lconst X0.here hx rfl (hb hby dDU_1) ?_
    show Steps p.tables e below (s₁.setTop (mkF m 2 #[.val (.long q1), .second, .val (.long q2), .second, .unset, .unset, .unset, .unset] [(.long (0 : Int64)), (.long q2)])) tgt
    refine XS.lcmp X0.here hx rfl (hb hby dDU_2) rfl ?_
    show Steps p.tables e below (s₁.setTop (mkF m 3 #[.val (.long q1), .second, .val (.long q2), .second, .unset, .unset, .unset, .unset] [(.int (lcmpW q2 (0 : Int64)))])) tgt
    refine XS.ifNo X0.here hx rfl (hb hby dDU_3) rfl ((if0 _ _).trans (flt hc3).1) ?_
    show Steps p.tables e below (s₁.setTop (mkF m 6 #[.val (.long q1), .second, .val (.long q2), .second, .unset, .unset, .unset, .unset] [])) tgt
    refine XS.lloadN X0.here hx rfl (hb hby dDU_6) rfl ?_
    show Steps p.tables e below (s₁.setTop (mkF m 7 #[.val (.long q1), .second, .val (.long q2), .second, .unset, .unset, .unset, .unset] [(.long q1)])) tgt
    refine XS.iconst X0.here hx rfl (hb hby dDU_7) ?_
    show Steps p.tables e below (s₁.setTop (mkF m 8 #[.val (.long q1), .second, .val (.long q2), .second, .unset, .unset, .unset, .unset] [(.int (1 : Int32)), (.long q1)])) tgt
    refine XS.lushr X0.here hx rfl (hb hby dDU_8) rfl ?_
    show Steps p.tables e below (s₁.setTop (mkF m 9 #[.val (.long q1), .second, .val (.long q2), .second, .unset, .unset, .unset, .unset] [(.long ((q1.toUInt64 >>> ((1 : Int32) &&& 0x3f).toInt64.toUInt64).toInt64))])) tgt
    refine XS.lloadN X0.here hx rfl (hb hby dDU_9) rfl ?_
    show Steps p.tables e below (s₁.setTop (mkF m 10 #[.val (.long q1), .second, .val (.long q2), .second, .unset, .unset, .unset, .unset] [(.long q2), (.long ((q1.toUInt64 >>> ((1 : Int32) &&& 0x3f).toInt64.toUInt64).toInt64))])) tgt
    refine XS.ldiv X0.here hx rfl (hb hby dDU_10) rfl hnz ?_
    show Steps p.tables e below (s₁.setTop (mkF m 11 #[.val (.long q1), .second, .val (.long q2), .second, .unset, .unset, .unset, .unset] [(.long (((q1.toUInt64 >>> ((1 : Int32) &&& 0x3f).toInt64.toUInt64).toInt64) / q2))])) tgt
    refine XS.iconst X0.here hx rfl (hb hby dDU_11) ?_
    show Steps p.tables e below (s₁.setTop (mkF m 12 #[.val (.long q1), .second, .val (.long q2), .second, .unset, .unset, .unset, .unset] [(.int (1 : Int32)), (.long (((q1.toUInt64 >>> ((1 : Int32) &&& 0x3f).toInt64.toUInt64).toInt64) / q2))])) tgt
    refine XS.lshl X0.here hx rfl (hb hby dDU_12) rfl ?_
    show Steps p.tables e below (s₁.setTop (mkF m 13 #[.val (.long q1), .second, .val (.long q2), .second, .unset, .unset, .unset, .unset] [(.long (own_dq q1 q2))])) tgt
    refine XS.lstore X0.here hx rfl (hb hby dDU_13) rfl (l' := #[.val (.long q1), .second, .val (.long q2), .second, .val (.long (own_dq q1 q2)), .second, .unset, .unset]) rfl ?_
    show Steps p.tables e below (s₁.setTop (mkF m 15 #[.val (.long q1), .second, .val (.long q2), .second, .val (.long (own_dq q1 q2)), .second, .unset, .unset] [])) tgt
    refine XS.lloadN X0.here hx rfl (hb hby dDU_15) rfl ?_
    show Steps p.tables e below (s₁.setTop (mkF m 16 #[.val (.long q1), .second, .val (.long q2), .second, .val (.long (own_dq q1 q2)), .second, .unset, .unset] [(.long q1)])) tgt
    refine XS.lload X0.here hx rfl (hb hby dDU_16) rfl ?_
    show Steps p.tables e below (s₁.setTop (mkF m 18 #[.val (.long q1), .second, .val (.long q2), .second, .val (.long (own_dq q1 q2)), .second, .unset, .unset] [(.long (own_dq q1 q2)), (.long q1)])) tgt
    refine XS.lloadN X0.here hx rfl (hb hby dDU_18) rfl ?_
    show Steps p.tables e below (s₁.setTop (mkF m 19 #[.val (.long q1), .second, .val (.long q2), .second, .val (.long (own_dq q1 q2)), .second, .unset, .unset] [(.long q2), (.long (own_dq q1 q2)), (.long q1)])) tgt
    refine XS.lmul X0.here hx rfl (hb hby dDU_19) rfl ?_
    show Steps p.tables e below (s₁.setTop (mkF m 20 #[.val (.long q1), .second, .val (.long q2), .second, .val (.long (own_dq q1 q2)), .second, .unset, .unset] [(.long ((own_dq q1 q2) * q2)), (.long q1)])) tgt
    refine XS.lsub X0.here hx rfl (hb hby dDU_20) rfl ?_
    show Steps p.tables e below (s₁.setTop (mkF m 21 #[.val (.long q1), .second, .val (.long q2), .second, .val (.long (own_dq q1 q2)), .second, .unset, .unset] [(.long (own_dr q1 q2))])) tgt
    refine XS.lstore X0.here hx rfl (hb hby dDU_21) rfl (l' := #[.val (.long q1), .second, .val (.long q2), .second, .val (.long (own_dq q1 q2)), .second, .val (.long (own_dr q1 q2)), .second]) rfl ?_
    show Steps p.tables e below (s₁.setTop (mkF m 23 #[.val (.long q1), .second, .val (.long q2), .second, .val (.long (own_dq q1 q2)), .second, .val (.long (own_dr q1 q2)), .second] [])) tgt
    refine XS.lload X0.here hx rfl (hb hby dDU_23) rfl ?_
    show Steps p.tables e below (s₁.setTop (mkF m 25 #[.val (.long q1), .second, .val (.long q2), .second, .val (.long (own_dq q1 q2)), .second, .val (.long (own_dr q1 q2)), .second] [(.long (own_dq q1 q2))])) tgt
    refine XS.lload X0.here hx rfl (hb hby dDU_25) rfl ?_
    show Steps p.tables e below (s₁.setTop (mkF m 27 #[.val (.long q1), .second, .val (.long q2), .second, .val (.long (own_dq q1 q2)), .second, .val (.long (own_dr q1 q2)), .second] [(.long (own_dr q1 q2)), (.long (own_dq q1 q2))])) tgt
    refine XS.lload X0.here hx rfl (hb hby dDU_27) rfl ?_
    show Steps p.tables e below (s₁.setTop (mkF m 29 #[.val (.long q1), .second, .val (.long q2), .second, .val (.long (own_dq q1 q2)), .second, .val (.long (own_dr q1 q2)), .second] [(.long (own_dr q1 q2)), (.long (own_dr q1 q2)), (.long (own_dq q1 q2))])) tgt
    refine XS.lloadN X0.here hx rfl (hb hby dDU_29) rfl ?_
    show Steps p.tables e below (s₁.setTop (mkF m 30 #[.val (.long q1), .second, .val (.long q2), .second, .val (.long (own_dq q1 q2)), .second, .val (.long (own_dr q1 q2)), .second] [(.long q2), (.long (own_dr q1 q2)), (.long (own_dr q1 q2)), (.long (own_dq q1 q2))])) tgt
    refine XS.lsub X0.here hx rfl (hb hby dDU_30) rfl ?_
    show Steps p.tables e below (s₁.setTop (mkF m 31 #[.val (.long q1), .second, .val (.long q2), .second, .val (.long (own_dq q1 q2)), .second, .val (.long (own_dr q1 q2)), .second] [(.long ((own_dr q1 q2) - q2)), (.long (own_dr q1 q2)), (.long (own_dq q1 q2))])) tgt
    refine X0.ldc2Long hx hown (mvT hZ (hw _ (List.mem_of_getElem? (i := 17) rfl))) (g := (mkF m 31 #[.val (.long q1), .second, .val (.long q2), .second, .val (.long (own_dq q1 q2)), .second, .val (.long (own_dr q1 q2)), .second] [(.long ((own_dr q1 q2) - q2)), (.long (own_dr q1 q2)), (.long (own_dq q1 q2))])) rfl (hb hby dDU_31) _ ?_
    show Steps p.tables e below (s₁.setTop (mkF m 34 #[.val (.long q1), .second, .val (.long q2), .second, .val (.long (own_dq q1 q2)), .second, .val (.long (own_dr q1 q2)), .second] [(.long (-1 : Int64)), (.long ((own_dr q1 q2) - q2)), (.long (own_dr q1 q2)), (.long (own_dq q1 q2))])) tgt
    refine XS.lxor X0.here hx rfl (hb hby dDU_34) rfl ?_
    show Steps p.tables e below (s₁.setTop (mkF m 35 #[.val (.long q1), .second, .val (.long q2), .second, .val (.long (own_dq q1 q2)), .second, .val (.long (own_dr q1 q2)), .second] [(.long (((own_dr q1 q2) - q2) ^^^ (-1 : Int64))), (.long (own_dr q1 q2)), (.long (own_dq q1 q2))])) tgt
    refine XS.lor X0.here hx rfl (hb hby dDU_35) rfl ?_
    show Steps p.tables e below (s₁.setTop (mkF m 36 #[.val (.long q1), .second, .val (.long q2), .second, .val (.long (own_dq q1 q2)), .second, .val (.long (own_dr q1 q2)), .second] [(.long ((own_dr q1 q2) ||| (((own_dr q1 q2) - q2) ^^^ (-1 : Int64)))), (.long (own_dq q1 q2))])) tgt
    refine XS.bipush X0.here hx rfl (hb hby dDU_36) ?_
    show Steps p.tables e below (s₁.setTop (mkF m 38 #[.val (.long q1), .second, .val (.long q2), .second, .val (.long (own_dq q1 q2)), .second, .val (.long (own_dr q1 q2)), .second] [(.int (63 : Int32)), (.long ((own_dr q1 q2) ||| (((own_dr q1 q2) - q2) ^^^ (-1 : Int64)))), (.long (own_dq q1 q2))])) tgt
    refine XS.lushr X0.here hx rfl (hb hby dDU_38) rfl ?_
    show Steps p.tables e below (s₁.setTop (mkF m 39 #[.val (.long q1), .second, .val (.long q2), .second, .val (.long (own_dq q1 q2)), .second, .val (.long (own_dr q1 q2)), .second] [(.long ((((own_dr q1 q2) ||| (((own_dr q1 q2) - q2) ^^^ (-1 : Int64))).toUInt64 >>> ((63 : Int32) &&& 0x3f).toInt64.toUInt64).toInt64)), (.long (own_dq q1 q2))])) tgt
    refine XS.ladd X0.here hx rfl (hb hby dDU_39) rfl ?_
    exact kont)
  obtain ⟨fs, hr, hrun, hended, hW, hsame⟩ := X0.leave (v := some (.long (own_du q1 q2))) (fun h => by rw [Bd.returns] at h; cases h)
  refine ⟨_, _, go1 _ ?_, hrun, hended, _, _, rfl, ?_, ⟨_, rfl⟩, hW, hsame.mono (by decide) (by decide)⟩
  · show Steps p.tables e below (s₁.setTop (mkF m 40 #[.val (.long q1), .second, .val (.long q2), .second, .val (.long (own_dq q1 q2)), .second, .val (.long (own_dr q1 q2)), .second] [(.long (own_du q1 q2))])) _
    exact retOut X0 hx Bd.returns rfl (Or.inr (Or.inl ⟨rfl, rfl, _, rfl⟩)) (hb hby dDU_40) hr
  · show QDU Z q1 q2 h0 n0 _ s₁.heap _
    rw [e0]
    exact ⟨rfl, N0, rfl⟩
def own_rf (q1 : Int64) (q2 : Int64) : Int64 := ((q1 &&& (9223372036854775807 : Int64)) - ((q1 &&& (9223372036854775807 : Int64)) / q2) * q2)
theorem pn_1 : plainName "com/example/keys_to_bits/keystobits/hash/WalkNextPinLaw" = true := by first | (simp [plainName, overriddenIn]; done) | decide +kernel
theorem dRF_0 : decode method_2_code 0 = .ok (.lload_n 0, 1) := by decide +kernel
theorem dRF_1 : decode method_2_code 1 = .ok (.ldc2_w 9, 3) := by decide +kernel
theorem dRF_4 : decode method_2_code 4 = .ok (.land, 1) := by decide +kernel
theorem dRF_5 : decode method_2_code 5 = .ok (.lload_n 2, 1) := by decide +kernel
theorem dRF_6 : decode method_2_code 6 = .ok (.lrem, 1) := by decide +kernel
theorem dRF_7 : decode method_2_code 7 = .ok (.lreturn, 1) := by decide +kernel
theorem ef_RF (m : MethodId) (x0 : Int64) (x1 : Int64) : entryFrame m #[(.long x0), (.long x1)] 4 = mkF m 0 #[.val (.long x0), .second, .val (.long x1), .second] [] := by first | (simp [entryFrame, mkF, argsToLocals, Value.category, maxLocals]; done) | rfl
def QRF (Z : State) (q1 : Int64) (q2 : Int64) (h0 : Heap) (n0 : Nat) (v : Option Value) (h : Heap) (L : List Loc) : Prop := v = some (.long (own_rf q1 q2)) ∧ Fr n0 L ∧ h = h0
set_option maxRecDepth 65536 in
set_option maxHeartbeats 40000000 in
theorem rmRF (l : Launch) (Z : State) (a0 : Array Value) (hw : ∀ d ∈ tables_1, d.before a0 Z = true) (ws : List Jvm.Cond) (q1 : Int64) (q2 : Int64) (h0 : Heap) (n0 : Nat) (Z0 : n0 ≤ h0.size) (hnz : ¬ q2 = (0 : Int64)) :
    MetFree l (⟨"com/example/keys_to_bits/keystobits/hash/WalkNextPinLaw", "ref", "(JJ)J"⟩ : MethodName) (head1 (Jvm.Cond.code (⟨"com/example/keys_to_bits/keystobits/hash/WalkNextPinLaw", "ref", "(JJ)J"⟩ : MethodName) method_2_code 4 (some .long) :: ws) ({ frames := 0, cells := 0, slots := 0, locals := 0 } : Room)) (fun as_ U => as_ = #[(.long q1), (.long q2)] ∧ Z.Warmed39 U.vm ∧ U.heap = h0) (fun _ _ _ _ _ => True) (fun _ U o U' => ∃ v L, o = .returned v ∧ QRF Z q1 q2 h0 n0 v U'.heap L ∧ FrameEnd U o U' L ({ frames := 0, cells := 0, slots := 0, locals := 0 } : Room).cells ({ frames := 0, cells := 0, slots := 0, locals := 0 } : Room).slots) := by
  refine MetFree.of_bodySF (plainFor_of_name pn_1) hisR ?_
  intro p e s m args below meth c s₁ Bd hml0 hP hK
  obtain ⟨rfl, hZ, hh⟩ := hP
  have hx := Bd.exec
  have hby := Bd.bytes
  have hml : c.maxLocals = 4 := hml0
  have hown : s.vm.findClass "com/example/keys_to_bits/keystobits/hash/WalkNextPinLaw" = some m.cls := findClass_of_methodNamed Bd.named
  have hnm := (name_of_methodNamed Bd.named Bd.method).1
  have X0 : Stand p l e ({ frames := 0, cells := 0, slots := 0, locals := 0 } : Room) s m #[(.long q1), (.long q2)] below meth c s₁ [] 0 0 := Stand.of_body Bd
  have e0 : s₁.heap = h0 := by rw [← hh, Bd.state]; rfl
  have N0 := Fr.nil n0
  obtain ⟨E0, hE0⟩ : ∃ z, z = s₁.setTop (entryFrame m #[(.long q1), (.long q2)] 4) := ⟨_, rfl⟩
  rw [← hE0]
  have go0 : ∀ tgt, Steps p.tables e below (s₁.setTop (mkF m 0 #[.val (.long q1), .second, .val (.long q2), .second] [])) tgt → Steps p.tables e below E0 tgt := fun tgt kont => by rw [hE0]; exact castTop (ef_RF m q1 q2) kont
  have go1 : ∀ tgt, Steps p.tables e below (s₁.setTop (mkF m 7 #[.val (.long q1), .second, .val (.long q2), .second] [(.long (own_rf q1 q2))])) tgt → Steps p.tables e below E0 tgt := fun tgt kont => go0 tgt (by
    show Steps p.tables e below (s₁.setTop (mkF m 0 #[.val (.long q1), .second, .val (.long q2), .second] [])) tgt
    refine XS.lloadN X0.here hx rfl (hb hby dRF_0) rfl ?_
    show Steps p.tables e below (s₁.setTop (mkF m 1 #[.val (.long q1), .second, .val (.long q2), .second] [(.long q1)])) tgt
    refine X0.ldc2Long hx hown (mvT hZ (hw _ (List.mem_of_getElem? (i := 0) rfl))) (g := (mkF m 1 #[.val (.long q1), .second, .val (.long q2), .second] [(.long q1)])) rfl (hb hby dRF_1) _ ?_
    show Steps p.tables e below (s₁.setTop (mkF m 4 #[.val (.long q1), .second, .val (.long q2), .second] [(.long (9223372036854775807 : Int64)), (.long q1)])) tgt
    refine XS.land X0.here hx rfl (hb hby dRF_4) rfl ?_
    show Steps p.tables e below (s₁.setTop (mkF m 5 #[.val (.long q1), .second, .val (.long q2), .second] [(.long (q1 &&& (9223372036854775807 : Int64)))])) tgt
    refine XS.lloadN X0.here hx rfl (hb hby dRF_5) rfl ?_
    show Steps p.tables e below (s₁.setTop (mkF m 6 #[.val (.long q1), .second, .val (.long q2), .second] [(.long q2), (.long (q1 &&& (9223372036854775807 : Int64)))])) tgt
    refine XS.lrem X0.here hx rfl (hb hby dRF_6) rfl hnz ?_
    exact kont)
  obtain ⟨fs, hr, hrun, hended, hW, hsame⟩ := X0.leave (v := some (.long (own_rf q1 q2))) (fun h => by rw [Bd.returns] at h; cases h)
  refine ⟨_, _, go1 _ ?_, hrun, hended, _, _, rfl, ?_, ⟨_, rfl⟩, hW, hsame.mono (by decide) (by decide)⟩
  · show Steps p.tables e below (s₁.setTop (mkF m 7 #[.val (.long q1), .second, .val (.long q2), .second] [(.long (own_rf q1 q2))])) _
    exact retOut X0 hx Bd.returns rfl (Or.inr (Or.inl ⟨rfl, rfl, _, rfl⟩)) (hb hby dRF_7) hr
  · show QRF Z q1 q2 h0 n0 _ s₁.heap _
    rw [e0]
    exact ⟨rfl, N0, rfl⟩
theorem pd_2 : parseMethodDescriptor "(JJ)J" = some ⟨[.long, .long], some .long⟩ := by decide +kernel
def own_rq (q1 : Int64) (q3 : Int64) : Int64 := ((own_mh q1 q3) + ((q3 >>> ((63 : Int32) &&& 0x3f).toInt64) &&& q1))
def own_rr (q1 : Int64) (q2 : Int64) (q3 : Int64) : Int64 := (q1 - ((own_rq q1 q3) * q2))
def own_rd (q1 : Int64) (q2 : Int64) (q3 : Int64) : Int64 := ((own_rr q1 q2 q3) - (q2 &&& (((q2 - (1 : Int64)) - (own_rr q1 q2 q3)) >>> ((63 : Int32) &&& 0x3f).toInt64)))
theorem pn_3 : plainName "com/example/keys_to_bits/keystobits/hash/CellRange" = true := by first | (simp [plainName, overriddenIn]; done) | decide +kernel
theorem dRD_0 : decode prog_12_method_4_code 0 = .ok (.lload_n 0, 1) := by decide +kernel
theorem dRD_1 : decode prog_12_method_4_code 1 = .ok (.lload 4, 2) := by decide +kernel
theorem dRD_3 : decode prog_12_method_4_code 3 = .ok (.invokestatic 37, 3) := by decide +kernel
theorem dRD_6 : decode prog_12_method_4_code 6 = .ok (.lload 4, 2) := by decide +kernel
theorem dRD_8 : decode prog_12_method_4_code 8 = .ok (.bipush 63, 2) := by decide +kernel
theorem dRD_10 : decode prog_12_method_4_code 10 = .ok (.lshr, 1) := by decide +kernel
theorem dRD_11 : decode prog_12_method_4_code 11 = .ok (.lload_n 0, 1) := by decide +kernel
theorem dRD_12 : decode prog_12_method_4_code 12 = .ok (.land, 1) := by decide +kernel
theorem dRD_13 : decode prog_12_method_4_code 13 = .ok (.ladd, 1) := by decide +kernel
theorem dRD_14 : decode prog_12_method_4_code 14 = .ok (.lstore 6, 2) := by decide +kernel
theorem dRD_16 : decode prog_12_method_4_code 16 = .ok (.lload_n 0, 1) := by decide +kernel
theorem dRD_17 : decode prog_12_method_4_code 17 = .ok (.lload 6, 2) := by decide +kernel
theorem dRD_19 : decode prog_12_method_4_code 19 = .ok (.lload_n 2, 1) := by decide +kernel
theorem dRD_20 : decode prog_12_method_4_code 20 = .ok (.lmul, 1) := by decide +kernel
theorem dRD_21 : decode prog_12_method_4_code 21 = .ok (.lsub, 1) := by decide +kernel
theorem dRD_22 : decode prog_12_method_4_code 22 = .ok (.lstore 8, 2) := by decide +kernel
theorem dRD_24 : decode prog_12_method_4_code 24 = .ok (.lload 8, 2) := by decide +kernel
theorem dRD_26 : decode prog_12_method_4_code 26 = .ok (.lload_n 2, 1) := by decide +kernel
theorem dRD_27 : decode prog_12_method_4_code 27 = .ok (.lload_n 2, 1) := by decide +kernel
theorem dRD_28 : decode prog_12_method_4_code 28 = .ok (.lconst 1, 1) := by decide +kernel
theorem dRD_29 : decode prog_12_method_4_code 29 = .ok (.lsub, 1) := by decide +kernel
theorem dRD_30 : decode prog_12_method_4_code 30 = .ok (.lload 8, 2) := by decide +kernel
theorem dRD_32 : decode prog_12_method_4_code 32 = .ok (.lsub, 1) := by decide +kernel
theorem dRD_33 : decode prog_12_method_4_code 33 = .ok (.bipush 63, 2) := by decide +kernel
theorem dRD_35 : decode prog_12_method_4_code 35 = .ok (.lshr, 1) := by decide +kernel
theorem dRD_36 : decode prog_12_method_4_code 36 = .ok (.land, 1) := by decide +kernel
theorem dRD_37 : decode prog_12_method_4_code 37 = .ok (.lsub, 1) := by decide +kernel
theorem dRD_38 : decode prog_12_method_4_code 38 = .ok (.lreturn, 1) := by decide +kernel
theorem ef_RD (m : MethodId) (x0 : Int64) (x1 : Int64) (x2 : Int64) : entryFrame m #[(.long x0), (.long x1), (.long x2)] 10 = mkF m 0 #[.val (.long x0), .second, .val (.long x1), .second, .val (.long x2), .second, .unset, .unset, .unset, .unset] [] := by first | (simp [entryFrame, mkF, argsToLocals, Value.category, maxLocals]; done) | rfl
def QRD (Z : State) (q1 : Int64) (q2 : Int64) (q3 : Int64) (h0 : Heap) (n0 : Nat) (v : Option Value) (h : Heap) (L : List Loc) : Prop := v = some (.long (own_rd q1 q2 q3)) ∧ Fr n0 L ∧ h = h0
set_option maxRecDepth 65536 in
set_option maxHeartbeats 40000000 in
theorem rmRD (l : Launch) (Z : State) (a0 : Array Value) (hw : ∀ d ∈ tables_1, d.before a0 Z = true) (ws : List Jvm.Cond) (q1 : Int64) (q2 : Int64) (q3 : Int64) (h0 : Heap) (n0 : Nat) (Z0 : n0 ≤ h0.size) :
    MetFree l (⟨"com/example/keys_to_bits/keystobits/hash/CellRange", "reduce", "(JJJ)J"⟩ : MethodName) (head1 (Jvm.Cond.code (⟨"com/example/keys_to_bits/keystobits/hash/CellRange", "reduce", "(JJJ)J"⟩ : MethodName) prog_12_method_4_code 10 (some .long) :: ws) ({ frames := 1, cells := 0, slots := 0, locals := 31 } : Room)) (fun as_ U => as_ = #[(.long q1), (.long q2), (.long q3)] ∧ Z.Warmed39 U.vm ∧ U.heap = h0) (fun _ _ _ _ _ => True) (fun _ U o U' => ∃ v L, o = .returned v ∧ QRD Z q1 q2 q3 h0 n0 v U'.heap L ∧ FrameEnd U o U' L ({ frames := 1, cells := 0, slots := 0, locals := 31 } : Room).cells ({ frames := 1, cells := 0, slots := 0, locals := 31 } : Room).slots) := by
  refine MetFree.of_bodySF (plainFor_of_name pn_3) hisR ?_
  intro p e s m args below meth c s₁ Bd hml0 hP hK
  obtain ⟨rfl, hZ, hh⟩ := hP
  have hx := Bd.exec
  have hby := Bd.bytes
  have hml : c.maxLocals = 10 := hml0
  have hown : s.vm.findClass "com/example/keys_to_bits/keystobits/hash/CellRange" = some m.cls := findClass_of_methodNamed Bd.named
  have hnm := (name_of_methodNamed Bd.named Bd.method).1
  have X0 : Stand p l e ({ frames := 1, cells := 0, slots := 0, locals := 31 } : Room) s m #[(.long q1), (.long q2), (.long q3)] below meth c s₁ [] 0 0 := Stand.of_body Bd
  have e0 : s₁.heap = h0 := by rw [← hh, Bd.state]; rfl
  have N0 := Fr.nil n0
  obtain ⟨E0, hE0⟩ : ∃ z, z = s₁.setTop (entryFrame m #[(.long q1), (.long q2), (.long q3)] 10) := ⟨_, rfl⟩
  rw [← hE0]
  have go0 : ∀ tgt, Steps p.tables e below (s₁.setTop (mkF m 0 #[.val (.long q1), .second, .val (.long q2), .second, .val (.long q3), .second, .unset, .unset, .unset, .unset] [])) tgt → Steps p.tables e below E0 tgt := fun tgt kont => by rw [hE0]; exact castTop (ef_RD m q1 q2 q3) kont
  have go1 : ∀ tgt, Steps p.tables e below (s₁.setTop (mkF m 3 #[.val (.long q1), .second, .val (.long q2), .second, .val (.long q3), .second, .unset, .unset, .unset, .unset] [(.long q3), (.long q1)])) tgt → Steps p.tables e below E0 tgt := fun tgt kont => go0 tgt (by
    show Steps p.tables e below (s₁.setTop (mkF m 0 #[.val (.long q1), .second, .val (.long q2), .second, .val (.long q3), .second, .unset, .unset, .unset, .unset] [])) tgt
    refine XS.lloadN X0.here hx rfl (hb hby dRD_0) rfl ?_
    show Steps p.tables e below (s₁.setTop (mkF m 1 #[.val (.long q1), .second, .val (.long q2), .second, .val (.long q3), .second, .unset, .unset, .unset, .unset] [(.long q1)])) tgt
    refine XS.lload X0.here hx rfl (hb hby dRD_1) rfl ?_
    exact kont)
  obtain ⟨_, _, ⟨T2, L2, k2, n2⟩, -, X2, ⟨Lc2, hQ2, l2, y2, z2⟩, st2⟩ := Jvm.LawKit.callS X0 hx (y := (⟨"java/lang/Math", "multiplyHigh", "(JJ)J"⟩ : MethodName)) hown (mvT hZ (hw _ (List.mem_of_getElem? (i := 46) rfl))) (mvT hZ (hw _ (List.mem_of_getElem? (i := 47) rfl))) (mvT hZ (hw _ (List.mem_of_getElem? (i := 48) rfl))) (mvT hZ (hw _ (List.mem_of_getElem? (i := 49) rfl))) (by decide) (backOf (W := 0) (rmMH l Z a0 hw [] q1 q3 h0 n0 Z0 ) hZ (hw _ (List.mem_of_getElem? (i := 49) rfl)) (hw _ (List.mem_of_getElem? (i := 48) rfl)) (by decide) (by decide)) (g := (mkF m 3 #[.val (.long q1), .second, .val (.long q2), .second, .val (.long q3), .second, .unset, .unset, .unset, .unset] [(.long q3), (.long q1)])) rfl (by rw [hml]; rfl) (argsL := [(.long q1), (.long q3)]) (rest := []) (lenOf pd_2 rfl) rfl (by show 2 * 0 + _ ≤ _; exact Nat.le_of_eq rfl) (hb hby dRD_3) (fun _ _ => ⟨rfl, e0, (by decide : 0 + 0 ≤ _), (by decide : 0 + 0 ≤ _)⟩)
  dsimp only [Pt.U, Pt.locs, Pt.cells, Pt.slots] at X2 l2 y2 z2 st2 hQ2
  subst l2 y2 z2
  obtain ⟨rfl, N2q, e2⟩ := hQ2
  have N2 := Fr.app N0 N2q
  have go2 : ∀ tgt, Steps p.tables e below (T2.setTop (mkF m 6 #[.val (.long q1), .second, .val (.long q2), .second, .val (.long q3), .second, .unset, .unset, .unset, .unset] [(.long (own_mh q1 q3))])) tgt → Steps p.tables e below E0 tgt := fun tgt kont => go1 tgt (st2 tgt kont)
  have go3 : ∀ tgt, Steps p.tables e below (T2.setTop (mkF m 38 #[.val (.long q1), .second, .val (.long q2), .second, .val (.long q3), .second, .val (.long (own_rq q1 q3)), .second, .val (.long (own_rr q1 q2 q3)), .second] [(.long (own_rd q1 q2 q3))])) tgt → Steps p.tables e below E0 tgt := fun tgt kont => go2 tgt (by
    show Steps p.tables e below (T2.setTop (mkF m 6 #[.val (.long q1), .second, .val (.long q2), .second, .val (.long q3), .second, .unset, .unset, .unset, .unset] [(.long (own_mh q1 q3))])) tgt
    refine XS.lload X2.here hx rfl (hb hby dRD_6) rfl ?_
    show Steps p.tables e below (T2.setTop (mkF m 8 #[.val (.long q1), .second, .val (.long q2), .second, .val (.long q3), .second, .unset, .unset, .unset, .unset] [(.long q3), (.long (own_mh q1 q3))])) tgt
    refine XS.bipush X2.here hx rfl (hb hby dRD_8) ?_
    show Steps p.tables e below (T2.setTop (mkF m 10 #[.val (.long q1), .second, .val (.long q2), .second, .val (.long q3), .second, .unset, .unset, .unset, .unset] [(.int (63 : Int32)), (.long q3), (.long (own_mh q1 q3))])) tgt
    refine XS.lshr X2.here hx rfl (hb hby dRD_10) rfl ?_
    show Steps p.tables e below (T2.setTop (mkF m 11 #[.val (.long q1), .second, .val (.long q2), .second, .val (.long q3), .second, .unset, .unset, .unset, .unset] [(.long (q3 >>> ((63 : Int32) &&& 0x3f).toInt64)), (.long (own_mh q1 q3))])) tgt
    refine XS.lloadN X2.here hx rfl (hb hby dRD_11) rfl ?_
    show Steps p.tables e below (T2.setTop (mkF m 12 #[.val (.long q1), .second, .val (.long q2), .second, .val (.long q3), .second, .unset, .unset, .unset, .unset] [(.long q1), (.long (q3 >>> ((63 : Int32) &&& 0x3f).toInt64)), (.long (own_mh q1 q3))])) tgt
    refine XS.land X2.here hx rfl (hb hby dRD_12) rfl ?_
    show Steps p.tables e below (T2.setTop (mkF m 13 #[.val (.long q1), .second, .val (.long q2), .second, .val (.long q3), .second, .unset, .unset, .unset, .unset] [(.long ((q3 >>> ((63 : Int32) &&& 0x3f).toInt64) &&& q1)), (.long (own_mh q1 q3))])) tgt
    refine XS.ladd X2.here hx rfl (hb hby dRD_13) rfl ?_
    show Steps p.tables e below (T2.setTop (mkF m 14 #[.val (.long q1), .second, .val (.long q2), .second, .val (.long q3), .second, .unset, .unset, .unset, .unset] [(.long (own_rq q1 q3))])) tgt
    refine XS.lstore X2.here hx rfl (hb hby dRD_14) rfl (l' := #[.val (.long q1), .second, .val (.long q2), .second, .val (.long q3), .second, .val (.long (own_rq q1 q3)), .second, .unset, .unset]) rfl ?_
    show Steps p.tables e below (T2.setTop (mkF m 16 #[.val (.long q1), .second, .val (.long q2), .second, .val (.long q3), .second, .val (.long (own_rq q1 q3)), .second, .unset, .unset] [])) tgt
    refine XS.lloadN X2.here hx rfl (hb hby dRD_16) rfl ?_
    show Steps p.tables e below (T2.setTop (mkF m 17 #[.val (.long q1), .second, .val (.long q2), .second, .val (.long q3), .second, .val (.long (own_rq q1 q3)), .second, .unset, .unset] [(.long q1)])) tgt
    refine XS.lload X2.here hx rfl (hb hby dRD_17) rfl ?_
    show Steps p.tables e below (T2.setTop (mkF m 19 #[.val (.long q1), .second, .val (.long q2), .second, .val (.long q3), .second, .val (.long (own_rq q1 q3)), .second, .unset, .unset] [(.long (own_rq q1 q3)), (.long q1)])) tgt
    refine XS.lloadN X2.here hx rfl (hb hby dRD_19) rfl ?_
    show Steps p.tables e below (T2.setTop (mkF m 20 #[.val (.long q1), .second, .val (.long q2), .second, .val (.long q3), .second, .val (.long (own_rq q1 q3)), .second, .unset, .unset] [(.long q2), (.long (own_rq q1 q3)), (.long q1)])) tgt
    refine XS.lmul X2.here hx rfl (hb hby dRD_20) rfl ?_
    show Steps p.tables e below (T2.setTop (mkF m 21 #[.val (.long q1), .second, .val (.long q2), .second, .val (.long q3), .second, .val (.long (own_rq q1 q3)), .second, .unset, .unset] [(.long ((own_rq q1 q3) * q2)), (.long q1)])) tgt
    refine XS.lsub X2.here hx rfl (hb hby dRD_21) rfl ?_
    show Steps p.tables e below (T2.setTop (mkF m 22 #[.val (.long q1), .second, .val (.long q2), .second, .val (.long q3), .second, .val (.long (own_rq q1 q3)), .second, .unset, .unset] [(.long (own_rr q1 q2 q3))])) tgt
    refine XS.lstore X2.here hx rfl (hb hby dRD_22) rfl (l' := #[.val (.long q1), .second, .val (.long q2), .second, .val (.long q3), .second, .val (.long (own_rq q1 q3)), .second, .val (.long (own_rr q1 q2 q3)), .second]) rfl ?_
    show Steps p.tables e below (T2.setTop (mkF m 24 #[.val (.long q1), .second, .val (.long q2), .second, .val (.long q3), .second, .val (.long (own_rq q1 q3)), .second, .val (.long (own_rr q1 q2 q3)), .second] [])) tgt
    refine XS.lload X2.here hx rfl (hb hby dRD_24) rfl ?_
    show Steps p.tables e below (T2.setTop (mkF m 26 #[.val (.long q1), .second, .val (.long q2), .second, .val (.long q3), .second, .val (.long (own_rq q1 q3)), .second, .val (.long (own_rr q1 q2 q3)), .second] [(.long (own_rr q1 q2 q3))])) tgt
    refine XS.lloadN X2.here hx rfl (hb hby dRD_26) rfl ?_
    show Steps p.tables e below (T2.setTop (mkF m 27 #[.val (.long q1), .second, .val (.long q2), .second, .val (.long q3), .second, .val (.long (own_rq q1 q3)), .second, .val (.long (own_rr q1 q2 q3)), .second] [(.long q2), (.long (own_rr q1 q2 q3))])) tgt
    refine XS.lloadN X2.here hx rfl (hb hby dRD_27) rfl ?_
    show Steps p.tables e below (T2.setTop (mkF m 28 #[.val (.long q1), .second, .val (.long q2), .second, .val (.long q3), .second, .val (.long (own_rq q1 q3)), .second, .val (.long (own_rr q1 q2 q3)), .second] [(.long q2), (.long q2), (.long (own_rr q1 q2 q3))])) tgt
    refine XS.lconst X2.here hx rfl (hb hby dRD_28) ?_
    show Steps p.tables e below (T2.setTop (mkF m 29 #[.val (.long q1), .second, .val (.long q2), .second, .val (.long q3), .second, .val (.long (own_rq q1 q3)), .second, .val (.long (own_rr q1 q2 q3)), .second] [(.long (1 : Int64)), (.long q2), (.long q2), (.long (own_rr q1 q2 q3))])) tgt
    refine XS.lsub X2.here hx rfl (hb hby dRD_29) rfl ?_
    show Steps p.tables e below (T2.setTop (mkF m 30 #[.val (.long q1), .second, .val (.long q2), .second, .val (.long q3), .second, .val (.long (own_rq q1 q3)), .second, .val (.long (own_rr q1 q2 q3)), .second] [(.long (q2 - (1 : Int64))), (.long q2), (.long (own_rr q1 q2 q3))])) tgt
    refine XS.lload X2.here hx rfl (hb hby dRD_30) rfl ?_
    show Steps p.tables e below (T2.setTop (mkF m 32 #[.val (.long q1), .second, .val (.long q2), .second, .val (.long q3), .second, .val (.long (own_rq q1 q3)), .second, .val (.long (own_rr q1 q2 q3)), .second] [(.long (own_rr q1 q2 q3)), (.long (q2 - (1 : Int64))), (.long q2), (.long (own_rr q1 q2 q3))])) tgt
    refine XS.lsub X2.here hx rfl (hb hby dRD_32) rfl ?_
    show Steps p.tables e below (T2.setTop (mkF m 33 #[.val (.long q1), .second, .val (.long q2), .second, .val (.long q3), .second, .val (.long (own_rq q1 q3)), .second, .val (.long (own_rr q1 q2 q3)), .second] [(.long ((q2 - (1 : Int64)) - (own_rr q1 q2 q3))), (.long q2), (.long (own_rr q1 q2 q3))])) tgt
    refine XS.bipush X2.here hx rfl (hb hby dRD_33) ?_
    show Steps p.tables e below (T2.setTop (mkF m 35 #[.val (.long q1), .second, .val (.long q2), .second, .val (.long q3), .second, .val (.long (own_rq q1 q3)), .second, .val (.long (own_rr q1 q2 q3)), .second] [(.int (63 : Int32)), (.long ((q2 - (1 : Int64)) - (own_rr q1 q2 q3))), (.long q2), (.long (own_rr q1 q2 q3))])) tgt
    refine XS.lshr X2.here hx rfl (hb hby dRD_35) rfl ?_
    show Steps p.tables e below (T2.setTop (mkF m 36 #[.val (.long q1), .second, .val (.long q2), .second, .val (.long q3), .second, .val (.long (own_rq q1 q3)), .second, .val (.long (own_rr q1 q2 q3)), .second] [(.long (((q2 - (1 : Int64)) - (own_rr q1 q2 q3)) >>> ((63 : Int32) &&& 0x3f).toInt64)), (.long q2), (.long (own_rr q1 q2 q3))])) tgt
    refine XS.land X2.here hx rfl (hb hby dRD_36) rfl ?_
    show Steps p.tables e below (T2.setTop (mkF m 37 #[.val (.long q1), .second, .val (.long q2), .second, .val (.long q3), .second, .val (.long (own_rq q1 q3)), .second, .val (.long (own_rr q1 q2 q3)), .second] [(.long (q2 &&& (((q2 - (1 : Int64)) - (own_rr q1 q2 q3)) >>> ((63 : Int32) &&& 0x3f).toInt64))), (.long (own_rr q1 q2 q3))])) tgt
    refine XS.lsub X2.here hx rfl (hb hby dRD_37) rfl ?_
    exact kont)
  obtain ⟨fs, hr, hrun, hended, hW, hsame⟩ := X2.leave (v := some (.long (own_rd q1 q2 q3))) (fun h => by rw [Bd.returns] at h; cases h)
  refine ⟨_, _, go3 _ ?_, hrun, hended, _, _, rfl, ?_, ⟨_, rfl⟩, hW, hsame.mono (by decide) (by decide)⟩
  · show Steps p.tables e below (T2.setTop (mkF m 38 #[.val (.long q1), .second, .val (.long q2), .second, .val (.long q3), .second, .val (.long (own_rq q1 q3)), .second, .val (.long (own_rr q1 q2 q3)), .second] [(.long (own_rd q1 q2 q3))])) _
    exact retOut X2 hx Bd.returns rfl (Or.inr (Or.inl ⟨rfl, rfl, _, rfl⟩)) (hb hby dRD_38) hr
  · show QRD Z q1 q2 q3 h0 n0 _ T2.heap _
    rw [e2]
    exact ⟨rfl, N2, rfl⟩
theorem pd_4 : parseMethodDescriptor "(JJJ)J" = some ⟨[.long, .long, .long], some .long⟩ := by decide +kernel
theorem pn_5 : plainName "com/example/keys_to_bits/keystobits/hash/CellRange$Walk" = true := by first | (simp [plainName, overriddenIn]; done) | decide +kernel
theorem dNX_0 : decode prog_13_method_2_code 0 = .ok (.aload_n 0, 1) := by decide +kernel
theorem dNX_1 : decode prog_13_method_2_code 1 = .ok (.getfield 23, 3) := by decide +kernel
theorem dNX_4 : decode prog_13_method_2_code 4 = .ok (.ldc2_w 28, 3) := by decide +kernel
theorem dNX_7 : decode prog_13_method_2_code 7 = .ok (.land, 1) := by decide +kernel
theorem dNX_8 : decode prog_13_method_2_code 8 = .ok (.aload_n 0, 1) := by decide +kernel
theorem dNX_9 : decode prog_13_method_2_code 9 = .ok (.getfield 13, 3) := by decide +kernel
theorem dNX_12 : decode prog_13_method_2_code 12 = .ok (.aload_n 0, 1) := by decide +kernel
theorem dNX_13 : decode prog_13_method_2_code 13 = .ok (.getfield 19, 3) := by decide +kernel
theorem dNX_16 : decode prog_13_method_2_code 16 = .ok (.invokestatic 30, 3) := by decide +kernel
theorem dNX_19 : decode prog_13_method_2_code 19 = .ok (.lstore_n 1, 1) := by decide +kernel
theorem dNX_20 : decode prog_13_method_2_code 20 = .ok (.aload_n 0, 1) := by decide +kernel
theorem dNX_21 : decode prog_13_method_2_code 21 = .ok (.dup, 1) := by decide +kernel
theorem dNX_22 : decode prog_13_method_2_code 22 = .ok (.getfield 23, 3) := by decide +kernel
theorem dNX_25 : decode prog_13_method_2_code 25 = .ok (.aload_n 0, 1) := by decide +kernel
theorem dNX_26 : decode prog_13_method_2_code 26 = .ok (.getfield 20, 3) := by decide +kernel
theorem dNX_29 : decode prog_13_method_2_code 29 = .ok (.ladd, 1) := by decide +kernel
theorem dNX_30 : decode prog_13_method_2_code 30 = .ok (.putfield 23, 3) := by decide +kernel
theorem dNX_33 : decode prog_13_method_2_code 33 = .ok (.lload_n 1, 1) := by decide +kernel
theorem dNX_34 : decode prog_13_method_2_code 34 = .ok (.lreturn, 1) := by decide +kernel
theorem ef_NX (m : MethodId) (x0 : Addr) : entryFrame m #[(.ref x0)] 3 = mkF m 0 #[.val (.ref x0), .unset, .unset] [] := by first | (simp [entryFrame, mkF, argsToLocals, Value.category, maxLocals]; done) | rfl
def QNX (Z : State) (a : Addr) (va : Int64) (sz : Int64) (rc : Int64) (sp : Int64) (h0 : Heap) (n0 : Nat) (v : Option Value) (h : Heap) (L : List Loc) : Prop := v = some (.long (own_rd (va &&& (9223372036854775807 : Int64)) sz rc)) ∧ Fr n0 L ∧ Keep h0 h [a] ∧ Exa Z h a "com/example/keys_to_bits/keystobits/hash/CellRange$Walk" ∧ Fld Z h a "com/example/keys_to_bits/keystobits/hash/CellRange$Walk" "value" "J" (.long (va + sp)) ∧ Fld Z h a "com/example/keys_to_bits/keystobits/hash/CellRange$Walk" "size" "J" (.long sz) ∧ Fld Z h a "com/example/keys_to_bits/keystobits/hash/CellRange$Walk" "reciprocal" "J" (.long rc) ∧ Fld Z h a "com/example/keys_to_bits/keystobits/hash/CellRange$Walk" "step" "J" (.long sp)
set_option maxRecDepth 65536 in
set_option maxHeartbeats 40000000 in
theorem rmNX (l : Launch) (Z : State) (a0 : Array Value) (hw : ∀ d ∈ tables_1, d.before a0 Z = true) (ws : List Jvm.Cond) (a : Addr) (va : Int64) (sz : Int64) (rc : Int64) (sp : Int64) (h0 : Heap) (n0 : Nat) (Z0 : n0 ≤ h0.size) (Ea : Exa Z h0 a "com/example/keys_to_bits/keystobits/hash/CellRange$Walk") (ga : n0 ≤ a) (Fvalue : Fld Z h0 a "com/example/keys_to_bits/keystobits/hash/CellRange$Walk" "value" "J" (.long va)) (Fsize : Fld Z h0 a "com/example/keys_to_bits/keystobits/hash/CellRange$Walk" "size" "J" (.long sz)) (Freciprocal : Fld Z h0 a "com/example/keys_to_bits/keystobits/hash/CellRange$Walk" "reciprocal" "J" (.long rc)) (Fstep : Fld Z h0 a "com/example/keys_to_bits/keystobits/hash/CellRange$Walk" "step" "J" (.long sp)) :
    MetFree l (⟨"com/example/keys_to_bits/keystobits/hash/CellRange$Walk", "next", "()J"⟩ : MethodName) (head1 (Jvm.Cond.code (⟨"com/example/keys_to_bits/keystobits/hash/CellRange$Walk", "next", "()J"⟩ : MethodName) prog_13_method_2_code 3 (some .long) :: ws) ({ frames := 2, cells := 0, slots := 0, locals := 52 } : Room)) (fun as_ U => as_ = #[(.ref a)] ∧ Z.Warmed39 U.vm ∧ U.heap = h0) (fun _ _ _ _ _ => True) (fun _ U o U' => ∃ v L, o = .returned v ∧ QNX Z a va sz rc sp h0 n0 v U'.heap L ∧ FrameEnd U o U' L ({ frames := 2, cells := 0, slots := 0, locals := 52 } : Room).cells ({ frames := 2, cells := 0, slots := 0, locals := 52 } : Room).slots) := by
  refine MetFree.of_bodySF (plainFor_of_name pn_5) hisR ?_
  intro p e s m args below meth c s₁ Bd hml0 hP hK
  obtain ⟨rfl, hZ, hh⟩ := hP
  have hx := Bd.exec
  have hby := Bd.bytes
  have hml : c.maxLocals = 3 := hml0
  have hown : s.vm.findClass "com/example/keys_to_bits/keystobits/hash/CellRange$Walk" = some m.cls := findClass_of_methodNamed Bd.named
  have hnm := (name_of_methodNamed Bd.named Bd.method).1
  have X0 : Stand p l e ({ frames := 2, cells := 0, slots := 0, locals := 52 } : Room) s m #[(.ref a)] below meth c s₁ [] 0 0 := Stand.of_body Bd
  have e0 : s₁.heap = h0 := by rw [← hh, Bd.state]; rfl
  have N0 := Fr.nil n0
  obtain ⟨E0, hE0⟩ : ∃ z, z = s₁.setTop (entryFrame m #[(.ref a)] 3) := ⟨_, rfl⟩
  rw [← hE0]
  have go0 : ∀ tgt, Steps p.tables e below (s₁.setTop (mkF m 0 #[.val (.ref a), .unset, .unset] [])) tgt → Steps p.tables e below E0 tgt := fun tgt kont => by rw [hE0]; exact castTop (ef_NX m a) kont
  have go1 : ∀ tgt, Steps p.tables e below (s₁.setTop (mkF m 1 #[.val (.ref a), .unset, .unset] [(.ref a)])) tgt → Steps p.tables e below E0 tgt := fun tgt kont => go0 tgt (by
    show Steps p.tables e below (s₁.setTop (mkF m 0 #[.val (.ref a), .unset, .unset] [])) tgt
    refine XS.aloadN X0.here hx rfl (hb hby dNX_0) rfl rfl ?_
    exact kont)
  obtain ⟨T2, X2, e2, st2⟩ := getF X0 hx hZ hown (host := "") (Or.inl (hw _ (List.mem_of_getElem? (i := 35) rfl))) Via.refl e0 Fvalue (g := (mkF m 1 #[.val (.ref a), .unset, .unset] [(.ref a)])) rfl rfl (hb hby dNX_1)
  have go2 : ∀ tgt, Steps p.tables e below (T2.setTop (mkF m 4 #[.val (.ref a), .unset, .unset] [(.long va)])) tgt → Steps p.tables e below E0 tgt := fun tgt kont => go1 tgt (st2 tgt kont)
  have go3 : ∀ tgt, Steps p.tables e below (T2.setTop (mkF m 9 #[.val (.ref a), .unset, .unset] [(.ref a), (.long (va &&& (9223372036854775807 : Int64)))])) tgt → Steps p.tables e below E0 tgt := fun tgt kont => go2 tgt (by
    show Steps p.tables e below (T2.setTop (mkF m 4 #[.val (.ref a), .unset, .unset] [(.long va)])) tgt
    refine X2.ldc2Long hx hown (mvT hZ (hw _ (List.mem_of_getElem? (i := 42) rfl))) (g := (mkF m 4 #[.val (.ref a), .unset, .unset] [(.long va)])) rfl (hb hby dNX_4) _ ?_
    show Steps p.tables e below (T2.setTop (mkF m 7 #[.val (.ref a), .unset, .unset] [(.long (9223372036854775807 : Int64)), (.long va)])) tgt
    refine XS.land X2.here hx rfl (hb hby dNX_7) rfl ?_
    show Steps p.tables e below (T2.setTop (mkF m 8 #[.val (.ref a), .unset, .unset] [(.long (va &&& (9223372036854775807 : Int64)))])) tgt
    refine XS.aloadN X2.here hx rfl (hb hby dNX_8) rfl rfl ?_
    exact kont)
  obtain ⟨T4, X4, e4, st4⟩ := getF X2 hx hZ hown (host := "") (Or.inl (hw _ (List.mem_of_getElem? (i := 28) rfl))) Via.refl e2 Fsize (g := (mkF m 9 #[.val (.ref a), .unset, .unset] [(.ref a), (.long (va &&& (9223372036854775807 : Int64)))])) rfl rfl (hb hby dNX_9)
  have go4 : ∀ tgt, Steps p.tables e below (T4.setTop (mkF m 12 #[.val (.ref a), .unset, .unset] [(.long sz), (.long (va &&& (9223372036854775807 : Int64)))])) tgt → Steps p.tables e below E0 tgt := fun tgt kont => go3 tgt (st4 tgt kont)
  have go5 : ∀ tgt, Steps p.tables e below (T4.setTop (mkF m 13 #[.val (.ref a), .unset, .unset] [(.ref a), (.long sz), (.long (va &&& (9223372036854775807 : Int64)))])) tgt → Steps p.tables e below E0 tgt := fun tgt kont => go4 tgt (by
    show Steps p.tables e below (T4.setTop (mkF m 12 #[.val (.ref a), .unset, .unset] [(.long sz), (.long (va &&& (9223372036854775807 : Int64)))])) tgt
    refine XS.aloadN X4.here hx rfl (hb hby dNX_12) rfl rfl ?_
    exact kont)
  obtain ⟨T6, X6, e6, st6⟩ := getF X4 hx hZ hown (host := "") (Or.inl (hw _ (List.mem_of_getElem? (i := 31) rfl))) Via.refl e4 Freciprocal (g := (mkF m 13 #[.val (.ref a), .unset, .unset] [(.ref a), (.long sz), (.long (va &&& (9223372036854775807 : Int64)))])) rfl rfl (hb hby dNX_13)
  have go6 : ∀ tgt, Steps p.tables e below (T6.setTop (mkF m 16 #[.val (.ref a), .unset, .unset] [(.long rc), (.long sz), (.long (va &&& (9223372036854775807 : Int64)))])) tgt → Steps p.tables e below E0 tgt := fun tgt kont => go5 tgt (st6 tgt kont)
  obtain ⟨_, _, ⟨T7, L7, k7, n7⟩, -, X7, ⟨Lc7, hQ7, l7, y7, z7⟩, st7⟩ := callSN X6 hx (y := (⟨"com/example/keys_to_bits/keystobits/hash/CellRange", "reduce", "(JJJ)J"⟩ : MethodName)) hown (own_mvMN hZ (hw _ (List.mem_of_getElem? (i := 43) rfl))) (mvT hZ (hw _ (List.mem_of_getElem? (i := 44) rfl))) (mvT hZ (hw _ (List.mem_of_getElem? (i := 3) rfl))) (mvT hZ (hw _ (List.mem_of_getElem? (i := 45) rfl))) (by decide) (backOf (W := 0) (rmRD l Z a0 hw [] (va &&& (9223372036854775807 : Int64)) sz rc h0 n0 Z0 ) hZ (hw _ (List.mem_of_getElem? (i := 45) rfl)) (hw _ (List.mem_of_getElem? (i := 3) rfl)) (by decide) (by decide)) (g := (mkF m 16 #[.val (.ref a), .unset, .unset] [(.long rc), (.long sz), (.long (va &&& (9223372036854775807 : Int64)))])) rfl (by rw [hml]; rfl) (argsL := [(.long (va &&& (9223372036854775807 : Int64))), (.long sz), (.long rc)]) (rest := []) (lenOf pd_4 rfl) rfl (by show 2 * 0 + _ ≤ _; exact Nat.le_of_eq rfl) (hb hby dNX_16) (fun _ _ => ⟨rfl, e6, (by decide : 0 + 0 ≤ _), (by decide : 0 + 0 ≤ _)⟩)
  dsimp only [Pt.U, Pt.locs, Pt.cells, Pt.slots] at X7 l7 y7 z7 st7 hQ7
  subst l7 y7 z7
  obtain ⟨rfl, N7q, e7⟩ := hQ7
  have N7 := Fr.app N0 N7q
  have go7 : ∀ tgt, Steps p.tables e below (T7.setTop (mkF m 19 #[.val (.ref a), .unset, .unset] [(.long (own_rd (va &&& (9223372036854775807 : Int64)) sz rc))])) tgt → Steps p.tables e below E0 tgt := fun tgt kont => go6 tgt (st7.trans kont)
  have go8 : ∀ tgt, Steps p.tables e below (T7.setTop (mkF m 22 #[.val (.ref a), .val (.long (own_rd (va &&& (9223372036854775807 : Int64)) sz rc)), .second] [(.ref a), (.ref a)])) tgt → Steps p.tables e below E0 tgt := fun tgt kont => go7 tgt (by
    show Steps p.tables e below (T7.setTop (mkF m 19 #[.val (.ref a), .unset, .unset] [(.long (own_rd (va &&& (9223372036854775807 : Int64)) sz rc))])) tgt
    refine XS.lstoreN X7.here hx rfl (hb hby dNX_19) rfl (l' := #[.val (.ref a), .val (.long (own_rd (va &&& (9223372036854775807 : Int64)) sz rc)), .second]) rfl ?_
    show Steps p.tables e below (T7.setTop (mkF m 20 #[.val (.ref a), .val (.long (own_rd (va &&& (9223372036854775807 : Int64)) sz rc)), .second] [])) tgt
    refine XS.aloadN X7.here hx rfl (hb hby dNX_20) rfl rfl ?_
    show Steps p.tables e below (T7.setTop (mkF m 21 #[.val (.ref a), .val (.long (own_rd (va &&& (9223372036854775807 : Int64)) sz rc)), .second] [(.ref a)])) tgt
    refine XS.dup X7.here hx rfl (hb hby dNX_21) rfl rfl ?_
    exact kont)
  obtain ⟨T9, X9, e9, st9⟩ := getF X7 hx hZ hown (host := "") (Or.inl (hw _ (List.mem_of_getElem? (i := 35) rfl))) Via.refl e7 Fvalue (g := (mkF m 22 #[.val (.ref a), .val (.long (own_rd (va &&& (9223372036854775807 : Int64)) sz rc)), .second] [(.ref a), (.ref a)])) rfl rfl (hb hby dNX_22)
  have go9 : ∀ tgt, Steps p.tables e below (T9.setTop (mkF m 25 #[.val (.ref a), .val (.long (own_rd (va &&& (9223372036854775807 : Int64)) sz rc)), .second] [(.long va), (.ref a)])) tgt → Steps p.tables e below E0 tgt := fun tgt kont => go8 tgt (st9 tgt kont)
  have go10 : ∀ tgt, Steps p.tables e below (T9.setTop (mkF m 26 #[.val (.ref a), .val (.long (own_rd (va &&& (9223372036854775807 : Int64)) sz rc)), .second] [(.ref a), (.long va), (.ref a)])) tgt → Steps p.tables e below E0 tgt := fun tgt kont => go9 tgt (by
    show Steps p.tables e below (T9.setTop (mkF m 25 #[.val (.ref a), .val (.long (own_rd (va &&& (9223372036854775807 : Int64)) sz rc)), .second] [(.long va), (.ref a)])) tgt
    refine XS.aloadN X9.here hx rfl (hb hby dNX_25) rfl rfl ?_
    exact kont)
  obtain ⟨T11, X11, e11, st11⟩ := getF X9 hx hZ hown (host := "") (Or.inl (hw _ (List.mem_of_getElem? (i := 33) rfl))) Via.refl e9 Fstep (g := (mkF m 26 #[.val (.ref a), .val (.long (own_rd (va &&& (9223372036854775807 : Int64)) sz rc)), .second] [(.ref a), (.long va), (.ref a)])) rfl rfl (hb hby dNX_26)
  have go11 : ∀ tgt, Steps p.tables e below (T11.setTop (mkF m 29 #[.val (.ref a), .val (.long (own_rd (va &&& (9223372036854775807 : Int64)) sz rc)), .second] [(.long sp), (.long va), (.ref a)])) tgt → Steps p.tables e below E0 tgt := fun tgt kont => go10 tgt (st11 tgt kont)
  have go12 : ∀ tgt, Steps p.tables e below (T11.setTop (mkF m 30 #[.val (.ref a), .val (.long (own_rd (va &&& (9223372036854775807 : Int64)) sz rc)), .second] [(.long (va + sp)), (.ref a)])) tgt → Steps p.tables e below E0 tgt := fun tgt kont => go11 tgt (by
    show Steps p.tables e below (T11.setTop (mkF m 29 #[.val (.ref a), .val (.long (own_rd (va &&& (9223372036854775807 : Int64)) sz rc)), .second] [(.long sp), (.long va), (.ref a)])) tgt
    refine XS.ladd X11.here hx rfl (hb hby dNX_29) rfl ?_
    exact kont)
  obtain ⟨T13, h13, X13, e13, W13, st13⟩ := putF X11 hx hZ hown (host := "") (Or.inl (hw _ (List.mem_of_getElem? (i := 35) rfl))) Via.refl e11 Fvalue Ea (Or.inl (hw _ (List.mem_of_getElem? (i := 36) rfl))) (hw _ (List.mem_of_getElem? (i := 21) rfl)) (ty := .long) (by decide) rfl rfl (g := (mkF m 30 #[.val (.ref a), .val (.long (own_rd (va &&& (9223372036854775807 : Int64)) sz rc)), .second] [(.long (va + sp)), (.ref a)])) rfl rfl (hb hby dNX_30)
  have z14 : n0 ≤ h13.size := Nat.le_trans Z0 (Keep.of_wr W13).1
  have K15 : Keep h0 h13 [a] := (Keep.refl h0 [a]).wr W13 (Or.inl (List.mem_of_getElem? (i := 0) rfl))
  have N13 := Fr.snoc X13 N7 ga
  have f16 : Fld Z h13 a "com/example/keys_to_bits/keystobits/hash/CellRange$Walk" "value" "J" (.long (va + sp)) := (Fvalue.same W13)
  have go13 : ∀ tgt, Steps p.tables e below (T13.setTop (mkF m 33 #[.val (.ref a), .val (.long (own_rd (va &&& (9223372036854775807 : Int64)) sz rc)), .second] [])) tgt → Steps p.tables e below E0 tgt := fun tgt kont => go12 tgt (st13 tgt kont)
  have f17 : Fld Z h13 a "com/example/keys_to_bits/keystobits/hash/CellRange$Walk" "size" "J" (.long sz) := (Fsize.other W13 (Or.inr (slot_ne (Or.inr (hw _ (List.mem_of_getElem? (i := 29) rfl))) (Or.inl (hw _ (List.mem_of_getElem? (i := 36) rfl))) (by decide) (t := .long) (t' := .long) (by decide) (by decide))))
  have f18 : Fld Z h13 a "com/example/keys_to_bits/keystobits/hash/CellRange$Walk" "reciprocal" "J" (.long rc) := (Freciprocal.other W13 (Or.inr (slot_ne (Or.inr (hw _ (List.mem_of_getElem? (i := 32) rfl))) (Or.inl (hw _ (List.mem_of_getElem? (i := 36) rfl))) (by decide) (t := .long) (t' := .long) (by decide) (by decide))))
  have f19 : Fld Z h13 a "com/example/keys_to_bits/keystobits/hash/CellRange$Walk" "step" "J" (.long sp) := (Fstep.other W13 (Or.inr (slot_ne (Or.inr (hw _ (List.mem_of_getElem? (i := 34) rfl))) (Or.inl (hw _ (List.mem_of_getElem? (i := 36) rfl))) (by decide) (t := .long) (t' := .long) (by decide) (by decide))))
  have f20 : Exa Z h13 a "com/example/keys_to_bits/keystobits/hash/CellRange$Walk" := (Ea.wr W13)
  have go21 : ∀ tgt, Steps p.tables e below (T13.setTop (mkF m 34 #[.val (.ref a), .val (.long (own_rd (va &&& (9223372036854775807 : Int64)) sz rc)), .second] [(.long (own_rd (va &&& (9223372036854775807 : Int64)) sz rc))])) tgt → Steps p.tables e below E0 tgt := fun tgt kont => go13 tgt (by
    show Steps p.tables e below (T13.setTop (mkF m 33 #[.val (.ref a), .val (.long (own_rd (va &&& (9223372036854775807 : Int64)) sz rc)), .second] [])) tgt
    refine XS.lloadN X13.here hx rfl (hb hby dNX_33) rfl ?_
    exact kont)
  obtain ⟨fs, hr, hrun, hended, hW, hsame⟩ := X13.leave (v := some (.long (own_rd (va &&& (9223372036854775807 : Int64)) sz rc))) (fun h => by rw [Bd.returns] at h; cases h)
  refine ⟨_, _, go21 _ ?_, hrun, hended, _, _, rfl, ?_, ⟨_, rfl⟩, hW, hsame.mono (by decide) (by decide)⟩
  · show Steps p.tables e below (T13.setTop (mkF m 34 #[.val (.ref a), .val (.long (own_rd (va &&& (9223372036854775807 : Int64)) sz rc)), .second] [(.long (own_rd (va &&& (9223372036854775807 : Int64)) sz rc))])) _
    exact retOut X13 hx Bd.returns rfl (Or.inr (Or.inl ⟨rfl, rfl, _, rfl⟩)) (hb hby dNX_34) hr
  · show QNX Z a va sz rc sp h0 n0 _ T13.heap _
    rw [e13]
    exact ⟨rfl, N13, K15, f20, f16, f17, f18, f19⟩
theorem dWI_0 : decode prog_13_method_1_code 0 = .ok (.aload_n 0, 1) := by decide +kernel
theorem dWI_1 : decode prog_13_method_1_code 1 = .ok (.invokespecial 1, 3) := by decide +kernel
theorem dWI_4 : decode prog_13_method_1_code 4 = .ok (.aload_n 0, 1) := by decide +kernel
theorem dWI_5 : decode prog_13_method_1_code 5 = .ok (.aload_n 1, 1) := by decide +kernel
theorem dWI_6 : decode prog_13_method_1_code 6 = .ok (.getfield 7, 3) := by decide +kernel
theorem dWI_9 : decode prog_13_method_1_code 9 = .ok (.putfield 13, 3) := by decide +kernel
theorem dWI_12 : decode prog_13_method_1_code 12 = .ok (.aload_n 0, 1) := by decide +kernel
theorem dWI_13 : decode prog_13_method_1_code 13 = .ok (.aload_n 1, 1) := by decide +kernel
theorem dWI_14 : decode prog_13_method_1_code 14 = .ok (.getfield 16, 3) := by decide +kernel
theorem dWI_17 : decode prog_13_method_1_code 17 = .ok (.putfield 19, 3) := by decide +kernel
theorem dWI_20 : decode prog_13_method_1_code 20 = .ok (.aload_n 0, 1) := by decide +kernel
theorem dWI_21 : decode prog_13_method_1_code 21 = .ok (.lload 4, 2) := by decide +kernel
theorem dWI_23 : decode prog_13_method_1_code 23 = .ok (.putfield 20, 3) := by decide +kernel
theorem dWI_26 : decode prog_13_method_1_code 26 = .ok (.aload_n 0, 1) := by decide +kernel
theorem dWI_27 : decode prog_13_method_1_code 27 = .ok (.lload_n 2, 1) := by decide +kernel
theorem dWI_28 : decode prog_13_method_1_code 28 = .ok (.putfield 23, 3) := by decide +kernel
theorem dWI_31 : decode prog_13_method_1_code 31 = .ok (.return_, 1) := by decide +kernel
theorem ef_WI (m : MethodId) (x0 : Addr) (x1 : Addr) (x2 : Int64) (x3 : Int64) : entryFrame m #[(.ref x0), (.ref x1), (.long x2), (.long x3)] 6 = mkF m 0 #[.val (.ref x0), .val (.ref x1), .val (.long x2), .second, .val (.long x3), .second] [] := by first | (simp [entryFrame, mkF, argsToLocals, Value.category, maxLocals]; done) | rfl
def QWI (Z : State) (a : Addr) (b : Addr) (h1 : Int64) (h2 : Int64) (sz : Int64) (rc : Int64) (h0 : Heap) (n0 : Nat) (v : Option Value) (h : Heap) (L : List Loc) : Prop := v = none ∧ Fr n0 L ∧ Keep h0 h [a] ∧ Exa Z h a "com/example/keys_to_bits/keystobits/hash/CellRange$Walk" ∧ Fld Z h a "com/example/keys_to_bits/keystobits/hash/CellRange$Walk" "value" "J" (.long h1) ∧ Fld Z h a "com/example/keys_to_bits/keystobits/hash/CellRange$Walk" "size" "J" (.long sz) ∧ Fld Z h a "com/example/keys_to_bits/keystobits/hash/CellRange$Walk" "reciprocal" "J" (.long rc) ∧ Fld Z h a "com/example/keys_to_bits/keystobits/hash/CellRange$Walk" "step" "J" (.long h2)
set_option maxRecDepth 65536 in
set_option maxHeartbeats 40000000 in
theorem rmWI (l : Launch) (Z : State) (a0 : Array Value) (hw : ∀ d ∈ tables_1, d.before a0 Z = true) (ws : List Jvm.Cond) (a : Addr) (b : Addr) (h1 : Int64) (h2 : Int64) (sz : Int64) (rc : Int64) (h0 : Heap) (n0 : Nat) (Z0 : n0 ≤ h0.size) (Ea : Exa Z h0 a "com/example/keys_to_bits/keystobits/hash/CellRange$Walk") (ga : n0 ≤ a) (Fvalue : Fld Z h0 a "com/example/keys_to_bits/keystobits/hash/CellRange$Walk" "value" "J" (.long (0 : Int64))) (Fsize : Fld Z h0 a "com/example/keys_to_bits/keystobits/hash/CellRange$Walk" "size" "J" (.long (0 : Int64))) (Freciprocal : Fld Z h0 a "com/example/keys_to_bits/keystobits/hash/CellRange$Walk" "reciprocal" "J" (.long (0 : Int64))) (Fstep : Fld Z h0 a "com/example/keys_to_bits/keystobits/hash/CellRange$Walk" "step" "J" (.long (0 : Int64))) (Eb : Exa Z h0 b "com/example/keys_to_bits/keystobits/hash/CellRange") (Bsize : Fld Z h0 b "com/example/keys_to_bits/keystobits/hash/CellRange" "size" "J" (.long sz)) (Brec : Fld Z h0 b "com/example/keys_to_bits/keystobits/hash/CellRange" "reciprocal" "J" (.long rc)) :
    MetFree l (⟨"com/example/keys_to_bits/keystobits/hash/CellRange$Walk", "<init>", "(Lcom/example/keys_to_bits/keystobits/hash/CellRange;JJ)V"⟩ : MethodName) (head1 (Jvm.Cond.code (⟨"com/example/keys_to_bits/keystobits/hash/CellRange$Walk", "<init>", "(Lcom/example/keys_to_bits/keystobits/hash/CellRange;JJ)V"⟩ : MethodName) prog_13_method_1_code 6 none :: ws) ({ frames := 1, cells := 0, slots := 0, locals := 12 } : Room)) (fun as_ U => as_ = #[(.ref a), (.ref b), (.long h1), (.long h2)] ∧ Z.Warmed39 U.vm ∧ U.heap = h0) (fun _ _ _ _ _ => True) (fun _ U o U' => ∃ v L, o = .returned v ∧ QWI Z a b h1 h2 sz rc h0 n0 v U'.heap L ∧ FrameEnd U o U' L ({ frames := 1, cells := 0, slots := 0, locals := 12 } : Room).cells ({ frames := 1, cells := 0, slots := 0, locals := 12 } : Room).slots) := by
  refine MetFree.of_bodySF (plainFor_of_name pn_5) hisR ?_
  intro p e s m args below meth c s₁ Bd hml0 hP hK
  obtain ⟨rfl, hZ, hh⟩ := hP
  have hx := Bd.exec
  have hby := Bd.bytes
  have hml : c.maxLocals = 6 := hml0
  have hown : s.vm.findClass "com/example/keys_to_bits/keystobits/hash/CellRange$Walk" = some m.cls := findClass_of_methodNamed Bd.named
  have hnm := (name_of_methodNamed Bd.named Bd.method).1
  have X0 : Stand p l e ({ frames := 1, cells := 0, slots := 0, locals := 12 } : Room) s m #[(.ref a), (.ref b), (.long h1), (.long h2)] below meth c s₁ [] 0 0 := Stand.of_body Bd
  have e0 : s₁.heap = h0 := by rw [← hh, Bd.state]; rfl
  have N0 := Fr.nil n0
  obtain ⟨E0, hE0⟩ : ∃ z, z = s₁.setTop (entryFrame m #[(.ref a), (.ref b), (.long h1), (.long h2)] 6) := ⟨_, rfl⟩
  rw [← hE0]
  have go0 : ∀ tgt, Steps p.tables e below (s₁.setTop (mkF m 0 #[.val (.ref a), .val (.ref b), .val (.long h1), .second, .val (.long h2), .second] [])) tgt → Steps p.tables e below E0 tgt := fun tgt kont => by rw [hE0]; exact castTop (ef_WI m a b h1 h2) kont
  have nab : b ≠ a := ne_exa Eb Ea (by decide)
  have go1 : ∀ tgt, Steps p.tables e below (s₁.setTop (mkF m 1 #[.val (.ref a), .val (.ref b), .val (.long h1), .second, .val (.long h2), .second] [(.ref a)])) tgt → Steps p.tables e below E0 tgt := fun tgt kont => go0 tgt (by
    show Steps p.tables e below (s₁.setTop (mkF m 0 #[.val (.ref a), .val (.ref b), .val (.long h1), .second, .val (.long h2), .second] [])) tgt
    refine XS.aloadN X0.here hx rfl (hb hby dWI_0) rfl rfl ?_
    exact kont)
  obtain ⟨T2, X2, e2, st2⟩ := initO X0 hx hZ hown (hw _ (List.mem_of_getElem? (i := 26) rfl)) (hw _ (List.mem_of_getElem? (i := 8) rfl)) (hw _ (List.mem_of_getElem? (i := 9) rfl)) e0 (g := (mkF m 1 #[.val (.ref a), .val (.ref b), .val (.long h1), .second, .val (.long h2), .second] [(.ref a)])) rfl (by rw [hml]; rfl) rfl (hb hby dWI_1) (by decide) (W := 0) (by show 2 * 0 + _ ≤ _; exact Nat.le_of_eq rfl) (by decide)
  have go2 : ∀ tgt, Steps p.tables e below (T2.setTop (mkF m 4 #[.val (.ref a), .val (.ref b), .val (.long h1), .second, .val (.long h2), .second] [])) tgt → Steps p.tables e below E0 tgt := fun tgt kont => go1 tgt (st2 tgt kont)
  have go3 : ∀ tgt, Steps p.tables e below (T2.setTop (mkF m 6 #[.val (.ref a), .val (.ref b), .val (.long h1), .second, .val (.long h2), .second] [(.ref b), (.ref a)])) tgt → Steps p.tables e below E0 tgt := fun tgt kont => go2 tgt (by
    show Steps p.tables e below (T2.setTop (mkF m 4 #[.val (.ref a), .val (.ref b), .val (.long h1), .second, .val (.long h2), .second] [])) tgt
    refine XS.aloadN X2.here hx rfl (hb hby dWI_4) rfl rfl ?_
    show Steps p.tables e below (T2.setTop (mkF m 5 #[.val (.ref a), .val (.ref b), .val (.long h1), .second, .val (.long h2), .second] [(.ref a)])) tgt
    refine XS.aloadN X2.here hx rfl (hb hby dWI_5) rfl rfl ?_
    exact kont)
  obtain ⟨T4, X4, e4, st4⟩ := getF X2 hx hZ hown (Or.inr (hw _ (List.mem_of_getElem? (i := 27) rfl))) Via.refl e2 Bsize (g := (mkF m 6 #[.val (.ref a), .val (.ref b), .val (.long h1), .second, .val (.long h2), .second] [(.ref b), (.ref a)])) rfl rfl (hb hby dWI_6)
  have go4 : ∀ tgt, Steps p.tables e below (T4.setTop (mkF m 9 #[.val (.ref a), .val (.ref b), .val (.long h1), .second, .val (.long h2), .second] [(.long sz), (.ref a)])) tgt → Steps p.tables e below E0 tgt := fun tgt kont => go3 tgt (st4 tgt kont)
  obtain ⟨T5, h5, X5, e5, W5, st5⟩ := putF X4 hx hZ hown (host := "") (Or.inl (hw _ (List.mem_of_getElem? (i := 28) rfl))) Via.refl e4 Fsize Ea (Or.inr ⟨(hw _ (List.mem_of_getElem? (i := 29) rfl)), rfl, hnm⟩) (hw _ (List.mem_of_getElem? (i := 21) rfl)) (ty := .long) (by decide) rfl rfl (g := (mkF m 9 #[.val (.ref a), .val (.ref b), .val (.long h1), .second, .val (.long h2), .second] [(.long sz), (.ref a)])) rfl rfl (hb hby dWI_9)
  have z6 : n0 ≤ h5.size := Nat.le_trans Z0 (Keep.of_wr W5).1
  have K7 : Keep h0 h5 [a] := (Keep.refl h0 [a]).wr W5 (Or.inl (List.mem_of_getElem? (i := 0) rfl))
  have N5 := Fr.snoc X5 N0 ga
  have f8 : Fld Z h5 a "com/example/keys_to_bits/keystobits/hash/CellRange$Walk" "size" "J" (.long sz) := (Fsize.same W5)
  have go5 : ∀ tgt, Steps p.tables e below (T5.setTop (mkF m 12 #[.val (.ref a), .val (.ref b), .val (.long h1), .second, .val (.long h2), .second] [])) tgt → Steps p.tables e below E0 tgt := fun tgt kont => go4 tgt (st5 tgt kont)
  have go9 : ∀ tgt, Steps p.tables e below (T5.setTop (mkF m 14 #[.val (.ref a), .val (.ref b), .val (.long h1), .second, .val (.long h2), .second] [(.ref b), (.ref a)])) tgt → Steps p.tables e below E0 tgt := fun tgt kont => go5 tgt (by
    show Steps p.tables e below (T5.setTop (mkF m 12 #[.val (.ref a), .val (.ref b), .val (.long h1), .second, .val (.long h2), .second] [])) tgt
    refine XS.aloadN X5.here hx rfl (hb hby dWI_12) rfl rfl ?_
    show Steps p.tables e below (T5.setTop (mkF m 13 #[.val (.ref a), .val (.ref b), .val (.long h1), .second, .val (.long h2), .second] [(.ref a)])) tgt
    refine XS.aloadN X5.here hx rfl (hb hby dWI_13) rfl rfl ?_
    exact kont)
  have f10 : Fld Z h5 b "com/example/keys_to_bits/keystobits/hash/CellRange" "reciprocal" "J" (.long rc) := (Brec.other W5 (Or.inl nab))
  obtain ⟨T11, X11, e11, st11⟩ := getF X5 hx hZ hown (Or.inr (hw _ (List.mem_of_getElem? (i := 30) rfl))) Via.refl e5 f10 (g := (mkF m 14 #[.val (.ref a), .val (.ref b), .val (.long h1), .second, .val (.long h2), .second] [(.ref b), (.ref a)])) rfl rfl (hb hby dWI_14)
  have go11 : ∀ tgt, Steps p.tables e below (T11.setTop (mkF m 17 #[.val (.ref a), .val (.ref b), .val (.long h1), .second, .val (.long h2), .second] [(.long rc), (.ref a)])) tgt → Steps p.tables e below E0 tgt := fun tgt kont => go9 tgt (st11 tgt kont)
  have f12 : Fld Z h5 a "com/example/keys_to_bits/keystobits/hash/CellRange$Walk" "reciprocal" "J" (.long (0 : Int64)) := (Freciprocal.other W5 (Or.inr (slot_ne (Or.inr (hw _ (List.mem_of_getElem? (i := 32) rfl))) (Or.inr (hw _ (List.mem_of_getElem? (i := 29) rfl))) (by decide) (t := .long) (t' := .long) (by decide) (by decide))))
  have f13 : Exa Z h5 a "com/example/keys_to_bits/keystobits/hash/CellRange$Walk" := (Ea.wr W5)
  obtain ⟨T14, h14, X14, e14, W14, st14⟩ := putF X11 hx hZ hown (host := "") (Or.inl (hw _ (List.mem_of_getElem? (i := 31) rfl))) Via.refl e11 f12 f13 (Or.inr ⟨(hw _ (List.mem_of_getElem? (i := 32) rfl)), rfl, hnm⟩) (hw _ (List.mem_of_getElem? (i := 21) rfl)) (ty := .long) (by decide) rfl rfl (g := (mkF m 17 #[.val (.ref a), .val (.ref b), .val (.long h1), .second, .val (.long h2), .second] [(.long rc), (.ref a)])) rfl rfl (hb hby dWI_17)
  have z15 : n0 ≤ h14.size := Nat.le_trans z6 (Keep.of_wr W14).1
  have K16 : Keep h0 h14 [a] := K7.wr W14 (Or.inl (List.mem_of_getElem? (i := 0) rfl))
  have N14 := Fr.snoc X14 N5 ga
  have f17 : Fld Z h14 a "com/example/keys_to_bits/keystobits/hash/CellRange$Walk" "reciprocal" "J" (.long rc) := (f12.same W14)
  have go14 : ∀ tgt, Steps p.tables e below (T14.setTop (mkF m 20 #[.val (.ref a), .val (.ref b), .val (.long h1), .second, .val (.long h2), .second] [])) tgt → Steps p.tables e below E0 tgt := fun tgt kont => go11 tgt (st14 tgt kont)
  have go18 : ∀ tgt, Steps p.tables e below (T14.setTop (mkF m 23 #[.val (.ref a), .val (.ref b), .val (.long h1), .second, .val (.long h2), .second] [(.long h2), (.ref a)])) tgt → Steps p.tables e below E0 tgt := fun tgt kont => go14 tgt (by
    show Steps p.tables e below (T14.setTop (mkF m 20 #[.val (.ref a), .val (.ref b), .val (.long h1), .second, .val (.long h2), .second] [])) tgt
    refine XS.aloadN X14.here hx rfl (hb hby dWI_20) rfl rfl ?_
    show Steps p.tables e below (T14.setTop (mkF m 21 #[.val (.ref a), .val (.ref b), .val (.long h1), .second, .val (.long h2), .second] [(.ref a)])) tgt
    refine XS.lload X14.here hx rfl (hb hby dWI_21) rfl ?_
    exact kont)
  have f19 : Fld Z h14 a "com/example/keys_to_bits/keystobits/hash/CellRange$Walk" "step" "J" (.long (0 : Int64)) := ((Fstep.other W5 (Or.inr (slot_ne (Or.inr (hw _ (List.mem_of_getElem? (i := 34) rfl))) (Or.inr (hw _ (List.mem_of_getElem? (i := 29) rfl))) (by decide) (t := .long) (t' := .long) (by decide) (by decide)))).other W14 (Or.inr (slot_ne (Or.inr (hw _ (List.mem_of_getElem? (i := 34) rfl))) (Or.inr (hw _ (List.mem_of_getElem? (i := 32) rfl))) (by decide) (t := .long) (t' := .long) (by decide) (by decide))))
  have f20 : Exa Z h14 a "com/example/keys_to_bits/keystobits/hash/CellRange$Walk" := (f13.wr W14)
  obtain ⟨T21, h21, X21, e21, W21, st21⟩ := putF X14 hx hZ hown (host := "") (Or.inl (hw _ (List.mem_of_getElem? (i := 33) rfl))) Via.refl e14 f19 f20 (Or.inr ⟨(hw _ (List.mem_of_getElem? (i := 34) rfl)), rfl, hnm⟩) (hw _ (List.mem_of_getElem? (i := 21) rfl)) (ty := .long) (by decide) rfl rfl (g := (mkF m 23 #[.val (.ref a), .val (.ref b), .val (.long h1), .second, .val (.long h2), .second] [(.long h2), (.ref a)])) rfl rfl (hb hby dWI_23)
  have z22 : n0 ≤ h21.size := Nat.le_trans z15 (Keep.of_wr W21).1
  have K23 : Keep h0 h21 [a] := K16.wr W21 (Or.inl (List.mem_of_getElem? (i := 0) rfl))
  have N21 := Fr.snoc X21 N14 ga
  have f24 : Fld Z h21 a "com/example/keys_to_bits/keystobits/hash/CellRange$Walk" "step" "J" (.long h2) := (f19.same W21)
  have go21 : ∀ tgt, Steps p.tables e below (T21.setTop (mkF m 26 #[.val (.ref a), .val (.ref b), .val (.long h1), .second, .val (.long h2), .second] [])) tgt → Steps p.tables e below E0 tgt := fun tgt kont => go18 tgt (st21 tgt kont)
  have go25 : ∀ tgt, Steps p.tables e below (T21.setTop (mkF m 28 #[.val (.ref a), .val (.ref b), .val (.long h1), .second, .val (.long h2), .second] [(.long h1), (.ref a)])) tgt → Steps p.tables e below E0 tgt := fun tgt kont => go21 tgt (by
    show Steps p.tables e below (T21.setTop (mkF m 26 #[.val (.ref a), .val (.ref b), .val (.long h1), .second, .val (.long h2), .second] [])) tgt
    refine XS.aloadN X21.here hx rfl (hb hby dWI_26) rfl rfl ?_
    show Steps p.tables e below (T21.setTop (mkF m 27 #[.val (.ref a), .val (.ref b), .val (.long h1), .second, .val (.long h2), .second] [(.ref a)])) tgt
    refine XS.lloadN X21.here hx rfl (hb hby dWI_27) rfl ?_
    exact kont)
  have f26 : Fld Z h21 a "com/example/keys_to_bits/keystobits/hash/CellRange$Walk" "value" "J" (.long (0 : Int64)) := (((Fvalue.other W5 (Or.inr (slot_ne (Or.inl (hw _ (List.mem_of_getElem? (i := 36) rfl))) (Or.inr (hw _ (List.mem_of_getElem? (i := 29) rfl))) (by decide) (t := .long) (t' := .long) (by decide) (by decide)))).other W14 (Or.inr (slot_ne (Or.inl (hw _ (List.mem_of_getElem? (i := 36) rfl))) (Or.inr (hw _ (List.mem_of_getElem? (i := 32) rfl))) (by decide) (t := .long) (t' := .long) (by decide) (by decide)))).other W21 (Or.inr (slot_ne (Or.inl (hw _ (List.mem_of_getElem? (i := 36) rfl))) (Or.inr (hw _ (List.mem_of_getElem? (i := 34) rfl))) (by decide) (t := .long) (t' := .long) (by decide) (by decide))))
  have f27 : Exa Z h21 a "com/example/keys_to_bits/keystobits/hash/CellRange$Walk" := (f20.wr W21)
  obtain ⟨T28, h28, X28, e28, W28, st28⟩ := putF X21 hx hZ hown (host := "") (Or.inl (hw _ (List.mem_of_getElem? (i := 35) rfl))) Via.refl e21 f26 f27 (Or.inl (hw _ (List.mem_of_getElem? (i := 36) rfl))) (hw _ (List.mem_of_getElem? (i := 21) rfl)) (ty := .long) (by decide) rfl rfl (g := (mkF m 28 #[.val (.ref a), .val (.ref b), .val (.long h1), .second, .val (.long h2), .second] [(.long h1), (.ref a)])) rfl rfl (hb hby dWI_28)
  have z29 : n0 ≤ h28.size := Nat.le_trans z22 (Keep.of_wr W28).1
  have K30 : Keep h0 h28 [a] := K23.wr W28 (Or.inl (List.mem_of_getElem? (i := 0) rfl))
  have N28 := Fr.snoc X28 N21 ga
  have f31 : Fld Z h28 a "com/example/keys_to_bits/keystobits/hash/CellRange$Walk" "value" "J" (.long h1) := (f26.same W28)
  have go28 : ∀ tgt, Steps p.tables e below (T28.setTop (mkF m 31 #[.val (.ref a), .val (.ref b), .val (.long h1), .second, .val (.long h2), .second] [])) tgt → Steps p.tables e below E0 tgt := fun tgt kont => go25 tgt (st28 tgt kont)
  have f32 : Fld Z h28 a "com/example/keys_to_bits/keystobits/hash/CellRange$Walk" "size" "J" (.long sz) := (((f8.other W14 (Or.inr (slot_ne (Or.inr (hw _ (List.mem_of_getElem? (i := 29) rfl))) (Or.inr (hw _ (List.mem_of_getElem? (i := 32) rfl))) (by decide) (t := .long) (t' := .long) (by decide) (by decide)))).other W21 (Or.inr (slot_ne (Or.inr (hw _ (List.mem_of_getElem? (i := 29) rfl))) (Or.inr (hw _ (List.mem_of_getElem? (i := 34) rfl))) (by decide) (t := .long) (t' := .long) (by decide) (by decide)))).other W28 (Or.inr (slot_ne (Or.inr (hw _ (List.mem_of_getElem? (i := 29) rfl))) (Or.inl (hw _ (List.mem_of_getElem? (i := 36) rfl))) (by decide) (t := .long) (t' := .long) (by decide) (by decide))))
  have f33 : Fld Z h28 a "com/example/keys_to_bits/keystobits/hash/CellRange$Walk" "reciprocal" "J" (.long rc) := ((f17.other W21 (Or.inr (slot_ne (Or.inr (hw _ (List.mem_of_getElem? (i := 32) rfl))) (Or.inr (hw _ (List.mem_of_getElem? (i := 34) rfl))) (by decide) (t := .long) (t' := .long) (by decide) (by decide)))).other W28 (Or.inr (slot_ne (Or.inr (hw _ (List.mem_of_getElem? (i := 32) rfl))) (Or.inl (hw _ (List.mem_of_getElem? (i := 36) rfl))) (by decide) (t := .long) (t' := .long) (by decide) (by decide))))
  have f34 : Fld Z h28 a "com/example/keys_to_bits/keystobits/hash/CellRange$Walk" "step" "J" (.long h2) := (f24.other W28 (Or.inr (slot_ne (Or.inr (hw _ (List.mem_of_getElem? (i := 34) rfl))) (Or.inl (hw _ (List.mem_of_getElem? (i := 36) rfl))) (by decide) (t := .long) (t' := .long) (by decide) (by decide))))
  have f35 : Exa Z h28 a "com/example/keys_to_bits/keystobits/hash/CellRange$Walk" := (f27.wr W28)
  obtain ⟨fs, hr, hrun, hended, hW, hsame⟩ := X28.leave (v := none) (fun _ => rfl)
  refine ⟨_, _, go28 _ ?_, hrun, hended, _, _, rfl, ?_, ⟨_, rfl⟩, hW, hsame.mono (by decide) (by decide)⟩
  · show Steps p.tables e below (T28.setTop (mkF m 31 #[.val (.ref a), .val (.ref b), .val (.long h1), .second, .val (.long h2), .second] [])) _
    exact X28.returnOut hx Bd.returns (hb hby dWI_31) hr
  · show QWI Z a b h1 h2 sz rc h0 n0 _ T28.heap _
    rw [e28]
    exact ⟨rfl, N28, K30, f35, f31, f32, f33, f34⟩
theorem dCI_0 : decode prog_12_method_1_code 0 = .ok (.aload_n 0, 1) := by decide +kernel
theorem dCI_1 : decode prog_12_method_1_code 1 = .ok (.invokespecial 1, 3) := by decide +kernel
theorem dCI_4 : decode prog_12_method_1_code 4 = .ok (.lload_n 1, 1) := by decide +kernel
theorem dCI_5 : decode prog_12_method_1_code 5 = .ok (.lconst 1, 1) := by decide +kernel
theorem dCI_6 : decode prog_12_method_1_code 6 = .ok (.lcmp, 1) := by decide +kernel
theorem dCI_7 : decode prog_12_method_1_code 7 = .ok (.ifCond .ge 17, 3) := by decide +kernel
theorem dCI_24 : decode prog_12_method_1_code 24 = .ok (.aload_n 0, 1) := by decide +kernel
theorem dCI_25 : decode prog_12_method_1_code 25 = .ok (.lload_n 1, 1) := by decide +kernel
theorem dCI_26 : decode prog_12_method_1_code 26 = .ok (.putfield 16, 3) := by decide +kernel
theorem dCI_29 : decode prog_12_method_1_code 29 = .ok (.aload_n 0, 1) := by decide +kernel
theorem dCI_30 : decode prog_12_method_1_code 30 = .ok (.ldc2_w 22, 3) := by decide +kernel
theorem dCI_33 : decode prog_12_method_1_code 33 = .ok (.lload_n 1, 1) := by decide +kernel
theorem dCI_34 : decode prog_12_method_1_code 34 = .ok (.invokestatic 24, 3) := by decide +kernel
theorem dCI_37 : decode prog_12_method_1_code 37 = .ok (.putfield 30, 3) := by decide +kernel
theorem dCI_40 : decode prog_12_method_1_code 40 = .ok (.return_, 1) := by decide +kernel
theorem ef_CI (m : MethodId) (x0 : Addr) (x1 : Int64) : entryFrame m #[(.ref x0), (.long x1)] 3 = mkF m 0 #[.val (.ref x0), .val (.long x1), .second] [] := by first | (simp [entryFrame, mkF, argsToLocals, Value.category, maxLocals]; done) | rfl
def QCI (Z : State) (a : Addr) (sz : Int64) (h0 : Heap) (n0 : Nat) (v : Option Value) (h : Heap) (L : List Loc) : Prop := v = none ∧ Fr n0 L ∧ Keep h0 h [a] ∧ Exa Z h a "com/example/keys_to_bits/keystobits/hash/CellRange" ∧ Fld Z h a "com/example/keys_to_bits/keystobits/hash/CellRange" "size" "J" (.long sz) ∧ Fld Z h a "com/example/keys_to_bits/keystobits/hash/CellRange" "reciprocal" "J" (.long (own_du (-1 : Int64) sz))
set_option maxRecDepth 65536 in
set_option maxHeartbeats 40000000 in
theorem rmCI (l : Launch) (Z : State) (a0 : Array Value) (hw : ∀ d ∈ tables_1, d.before a0 Z = true) (ws : List Jvm.Cond) (a : Addr) (sz : Int64) (h0 : Heap) (n0 : Nat) (Z0 : n0 ≤ h0.size) (Ea : Exa Z h0 a "com/example/keys_to_bits/keystobits/hash/CellRange") (ga : n0 ≤ a) (Fsize : Fld Z h0 a "com/example/keys_to_bits/keystobits/hash/CellRange" "size" "J" (.long (0 : Int64))) (Freciprocal : Fld Z h0 a "com/example/keys_to_bits/keystobits/hash/CellRange" "reciprocal" "J" (.long (0 : Int64))) (hs7 : ¬ (lcmpW sz (1 : Int64)) < (0 : Int32)) (hs3 : ¬ (lcmpW sz (0 : Int64)) < (0 : Int32)) (hsz : ¬ sz = (0 : Int64)) :
    MetFree l (⟨"com/example/keys_to_bits/keystobits/hash/CellRange", "<init>", "(J)V"⟩ : MethodName) (head1 (Jvm.Cond.code (⟨"com/example/keys_to_bits/keystobits/hash/CellRange", "<init>", "(J)V"⟩ : MethodName) prog_12_method_1_code 3 none :: ws) ({ frames := 1, cells := 0, slots := 0, locals := 20 } : Room)) (fun as_ U => as_ = #[(.ref a), (.long sz)] ∧ Z.Warmed39 U.vm ∧ U.heap = h0) (fun _ _ _ _ _ => True) (fun _ U o U' => ∃ v L, o = .returned v ∧ QCI Z a sz h0 n0 v U'.heap L ∧ FrameEnd U o U' L ({ frames := 1, cells := 0, slots := 0, locals := 20 } : Room).cells ({ frames := 1, cells := 0, slots := 0, locals := 20 } : Room).slots) := by
  refine MetFree.of_bodySF (plainFor_of_name pn_3) hisR ?_
  intro p e s m args below meth c s₁ Bd hml0 hP hK
  obtain ⟨rfl, hZ, hh⟩ := hP
  have hx := Bd.exec
  have hby := Bd.bytes
  have hml : c.maxLocals = 3 := hml0
  have hown : s.vm.findClass "com/example/keys_to_bits/keystobits/hash/CellRange" = some m.cls := findClass_of_methodNamed Bd.named
  have hnm := (name_of_methodNamed Bd.named Bd.method).1
  have X0 : Stand p l e ({ frames := 1, cells := 0, slots := 0, locals := 20 } : Room) s m #[(.ref a), (.long sz)] below meth c s₁ [] 0 0 := Stand.of_body Bd
  have e0 : s₁.heap = h0 := by rw [← hh, Bd.state]; rfl
  have N0 := Fr.nil n0
  obtain ⟨E0, hE0⟩ : ∃ z, z = s₁.setTop (entryFrame m #[(.ref a), (.long sz)] 3) := ⟨_, rfl⟩
  rw [← hE0]
  have go0 : ∀ tgt, Steps p.tables e below (s₁.setTop (mkF m 0 #[.val (.ref a), .val (.long sz), .second] [])) tgt → Steps p.tables e below E0 tgt := fun tgt kont => by rw [hE0]; exact castTop (ef_CI m a sz) kont
  have go1 : ∀ tgt, Steps p.tables e below (s₁.setTop (mkF m 1 #[.val (.ref a), .val (.long sz), .second] [(.ref a)])) tgt → Steps p.tables e below E0 tgt := fun tgt kont => go0 tgt (by
    show Steps p.tables e below (s₁.setTop (mkF m 0 #[.val (.ref a), .val (.long sz), .second] [])) tgt
    refine XS.aloadN X0.here hx rfl (hb hby dCI_0) rfl rfl ?_
    exact kont)
  obtain ⟨T2, X2, e2, st2⟩ := initO X0 hx hZ hown (hw _ (List.mem_of_getElem? (i := 7) rfl)) (hw _ (List.mem_of_getElem? (i := 8) rfl)) (hw _ (List.mem_of_getElem? (i := 9) rfl)) e0 (g := (mkF m 1 #[.val (.ref a), .val (.long sz), .second] [(.ref a)])) rfl (by rw [hml]; rfl) rfl (hb hby dCI_1) (by decide) (W := 0) (by show 2 * 0 + _ ≤ _; exact Nat.le_of_eq rfl) (by decide)
  have go2 : ∀ tgt, Steps p.tables e below (T2.setTop (mkF m 4 #[.val (.ref a), .val (.long sz), .second] [])) tgt → Steps p.tables e below E0 tgt := fun tgt kont => go1 tgt (st2 tgt kont)
  have go3 : ∀ tgt, Steps p.tables e below (T2.setTop (mkF m 26 #[.val (.ref a), .val (.long sz), .second] [(.long sz), (.ref a)])) tgt → Steps p.tables e below E0 tgt := fun tgt kont => go2 tgt (by
    show Steps p.tables e below (T2.setTop (mkF m 4 #[.val (.ref a), .val (.long sz), .second] [])) tgt
    refine XS.lloadN X2.here hx rfl (hb hby dCI_4) rfl ?_
    show Steps p.tables e below (T2.setTop (mkF m 5 #[.val (.ref a), .val (.long sz), .second] [(.long sz)])) tgt
    refine XS.lconst X2.here hx rfl (hb hby dCI_5) ?_
    show Steps p.tables e below (T2.setTop (mkF m 6 #[.val (.ref a), .val (.long sz), .second] [(.long (1 : Int64)), (.long sz)])) tgt
    refine XS.lcmp X2.here hx rfl (hb hby dCI_6) rfl ?_
    show Steps p.tables e below (T2.setTop (mkF m 7 #[.val (.ref a), .val (.long sz), .second] [(.int (lcmpW sz (1 : Int64)))])) tgt
    refine XS.ifYes X2.here hx rfl (pc0 := 7) (pc' := 24) rfl (hb hby dCI_7) rfl ((if0 _ _).trans (flt hs7).2.1) (by decide) (by decide) ?_
    show Steps p.tables e below (T2.setTop (mkF m 24 #[.val (.ref a), .val (.long sz), .second] [])) tgt
    refine XS.aloadN X2.here hx rfl (hb hby dCI_24) rfl rfl ?_
    show Steps p.tables e below (T2.setTop (mkF m 25 #[.val (.ref a), .val (.long sz), .second] [(.ref a)])) tgt
    refine XS.lloadN X2.here hx rfl (hb hby dCI_25) rfl ?_
    exact kont)
  obtain ⟨T4, h4, X4, e4, W4, st4⟩ := putF X2 hx hZ hown (host := "") (Or.inl (hw _ (List.mem_of_getElem? (i := 10) rfl))) Via.refl e2 Fsize Ea (Or.inr ⟨(hw _ (List.mem_of_getElem? (i := 11) rfl)), rfl, hnm⟩) (hw _ (List.mem_of_getElem? (i := 2) rfl)) (ty := .long) (by decide) rfl rfl (g := (mkF m 26 #[.val (.ref a), .val (.long sz), .second] [(.long sz), (.ref a)])) rfl rfl (hb hby dCI_26)
  have z5 : n0 ≤ h4.size := Nat.le_trans Z0 (Keep.of_wr W4).1
  have K6 : Keep h0 h4 [a] := (Keep.refl h0 [a]).wr W4 (Or.inl (List.mem_of_getElem? (i := 0) rfl))
  have N4 := Fr.snoc X4 N0 ga
  have f7 : Fld Z h4 a "com/example/keys_to_bits/keystobits/hash/CellRange" "size" "J" (.long sz) := (Fsize.same W4)
  have go4 : ∀ tgt, Steps p.tables e below (T4.setTop (mkF m 29 #[.val (.ref a), .val (.long sz), .second] [])) tgt → Steps p.tables e below E0 tgt := fun tgt kont => go3 tgt (st4 tgt kont)
  have go8 : ∀ tgt, Steps p.tables e below (T4.setTop (mkF m 34 #[.val (.ref a), .val (.long sz), .second] [(.long sz), (.long (-1 : Int64)), (.ref a)])) tgt → Steps p.tables e below E0 tgt := fun tgt kont => go4 tgt (by
    show Steps p.tables e below (T4.setTop (mkF m 29 #[.val (.ref a), .val (.long sz), .second] [])) tgt
    refine XS.aloadN X4.here hx rfl (hb hby dCI_29) rfl rfl ?_
    show Steps p.tables e below (T4.setTop (mkF m 30 #[.val (.ref a), .val (.long sz), .second] [(.ref a)])) tgt
    refine X4.ldc2Long hx hown (mvT hZ (hw _ (List.mem_of_getElem? (i := 12) rfl))) (g := (mkF m 30 #[.val (.ref a), .val (.long sz), .second] [(.ref a)])) rfl (hb hby dCI_30) _ ?_
    show Steps p.tables e below (T4.setTop (mkF m 33 #[.val (.ref a), .val (.long sz), .second] [(.long (-1 : Int64)), (.ref a)])) tgt
    refine XS.lloadN X4.here hx rfl (hb hby dCI_33) rfl ?_
    exact kont)
  obtain ⟨_, _, ⟨T9, L9, k9, n9⟩, -, X9, ⟨Lc9, hQ9, l9, y9, z9⟩, st9⟩ := Jvm.LawKit.callS X4 hx (y := (⟨"java/lang/Long", "divideUnsigned", "(JJ)J"⟩ : MethodName)) hown (mvT hZ (hw _ (List.mem_of_getElem? (i := 13) rfl))) (mvT hZ (hw _ (List.mem_of_getElem? (i := 14) rfl))) (mvT hZ (hw _ (List.mem_of_getElem? (i := 15) rfl))) (mvT hZ (hw _ (List.mem_of_getElem? (i := 16) rfl))) (by decide) (backOf (W := 1) (rmDU l Z a0 hw [] (-1 : Int64) sz h4 n0 z5 hs3 hsz) hZ (hw _ (List.mem_of_getElem? (i := 16) rfl)) (hw _ (List.mem_of_getElem? (i := 15) rfl)) (by decide) (by decide)) (g := (mkF m 34 #[.val (.ref a), .val (.long sz), .second] [(.long sz), (.long (-1 : Int64)), (.ref a)])) rfl (by rw [hml]; rfl) (argsL := [(.long (-1 : Int64)), (.long sz)]) (rest := [(.ref a)]) (lenOf pd_2 rfl) rfl (by show 2 * 0 + _ ≤ _; exact Nat.le_of_eq rfl) (hb hby dCI_34) (fun _ _ => ⟨rfl, e4, (by decide : 0 + 0 ≤ _), (by decide : 0 + 0 ≤ _)⟩)
  dsimp only [Pt.U, Pt.locs, Pt.cells, Pt.slots] at X9 l9 y9 z9 st9 hQ9
  subst l9 y9 z9
  obtain ⟨rfl, N9q, e9⟩ := hQ9
  have N9 := Fr.app N4 N9q
  have go9 : ∀ tgt, Steps p.tables e below (T9.setTop (mkF m 37 #[.val (.ref a), .val (.long sz), .second] [(.long (own_du (-1 : Int64) sz)), (.ref a)])) tgt → Steps p.tables e below E0 tgt := fun tgt kont => go8 tgt (st9 tgt kont)
  have f10 : Fld Z h4 a "com/example/keys_to_bits/keystobits/hash/CellRange" "reciprocal" "J" (.long (0 : Int64)) := (Freciprocal.other W4 (Or.inr (slot_ne (Or.inr (hw _ (List.mem_of_getElem? (i := 19) rfl))) (Or.inr (hw _ (List.mem_of_getElem? (i := 11) rfl))) (by decide) (t := .long) (t' := .long) (by decide) (by decide))))
  have f11 : Exa Z h4 a "com/example/keys_to_bits/keystobits/hash/CellRange" := (Ea.wr W4)
  obtain ⟨T12, h12, X12, e12, W12, st12⟩ := putF X9 hx hZ hown (host := "") (Or.inl (hw _ (List.mem_of_getElem? (i := 18) rfl))) Via.refl e9 f10 f11 (Or.inr ⟨(hw _ (List.mem_of_getElem? (i := 19) rfl)), rfl, hnm⟩) (hw _ (List.mem_of_getElem? (i := 2) rfl)) (ty := .long) (by decide) rfl rfl (g := (mkF m 37 #[.val (.ref a), .val (.long sz), .second] [(.long (own_du (-1 : Int64) sz)), (.ref a)])) rfl rfl (hb hby dCI_37)
  have z13 : n0 ≤ h12.size := Nat.le_trans z5 (Keep.of_wr W12).1
  have K14 : Keep h0 h12 [a] := K6.wr W12 (Or.inl (List.mem_of_getElem? (i := 0) rfl))
  have N12 := Fr.snoc X12 N9 ga
  have f15 : Fld Z h12 a "com/example/keys_to_bits/keystobits/hash/CellRange" "reciprocal" "J" (.long (own_du (-1 : Int64) sz)) := (f10.same W12)
  have go12 : ∀ tgt, Steps p.tables e below (T12.setTop (mkF m 40 #[.val (.ref a), .val (.long sz), .second] [])) tgt → Steps p.tables e below E0 tgt := fun tgt kont => go9 tgt (st12 tgt kont)
  have f16 : Fld Z h12 a "com/example/keys_to_bits/keystobits/hash/CellRange" "size" "J" (.long sz) := (f7.other W12 (Or.inr (slot_ne (Or.inr (hw _ (List.mem_of_getElem? (i := 11) rfl))) (Or.inr (hw _ (List.mem_of_getElem? (i := 19) rfl))) (by decide) (t := .long) (t' := .long) (by decide) (by decide))))
  have f17 : Exa Z h12 a "com/example/keys_to_bits/keystobits/hash/CellRange" := (f11.wr W12)
  obtain ⟨fs, hr, hrun, hended, hW, hsame⟩ := X12.leave (v := none) (fun _ => rfl)
  refine ⟨_, _, go12 _ ?_, hrun, hended, _, _, rfl, ?_, ⟨_, rfl⟩, hW, hsame.mono (by decide) (by decide)⟩
  · show Steps p.tables e below (T12.setTop (mkF m 40 #[.val (.ref a), .val (.long sz), .second] [])) _
    exact X12.returnOut hx Bd.returns (hb hby dCI_40) hr
  · show QCI Z a sz h0 n0 _ T12.heap _
    rw [e12]
    exact ⟨rfl, N12, K14, f17, f16, f15⟩
def own_s0 (p0 : Int64) (p1 : Int32) : Int64 := (((p0 &&& (9223372036854775807 : Int64)).toUInt64 >>> ((p1 &&& (63 : Int32)) &&& 0x3f).toInt64.toUInt64).toInt64)
theorem own_lo_int (x : Int64) : (own_lo x).toInt = x.toInt % 4294967296 := by
  have h := c_maskL x (4294967295 : Int64) 32 (by decide) (by decide)
  exact h
theorem own_hi_int (x : Int64) : (own_hi x).toInt = x.toInt / 4294967296 := by
  have h := c_lshr x (32 : Int32) 32 (by decide)
  exact h
theorem own_parts (x : Int64) : x.toInt = 4294967296 * (own_hi x).toInt + (own_lo x).toInt ∧ -2147483648 ≤ (own_hi x).toInt ∧ (own_hi x).toInt ≤ 2147483647 ∧ 0 ≤ (own_lo x).toInt ∧ (own_lo x).toInt ≤ 4294967295 := by
  have h1 := own_lo_int x
  have h2 := own_hi_int x
  have h3 := rng64 x
  omega
theorem own_expand (a b c d : Int) : (4294967296 * a + b) * (4294967296 * c + d) = 18446744073709551616 * (a * c) + 4294967296 * (a * d) + 4294967296 * (b * c) + b * d := by
  grind
theorem own_a1 {z s : Int} (h : (z - s) % 18446744073709551616 = 0) (h0 : 0 ≤ s) (h1 : s < 18446744073709551616) : z % 18446744073709551616 / 4294967296 = s / 4294967296 := by omega
theorem own_a2 {t w q u : Int} (h1 : (w - q) % 18446744073709551616 = 0) (h2 : (t - (w + u)) % 18446744073709551616 = 0) (r1 : -9223372036854775808 ≤ t) (r2 : t < 9223372036854775808) (q1 : -9223372036854775808 ≤ q + u) (q2 : q + u < 9223372036854775808) : t = q + u := by omega
theorem own_a3 {A B C R p a b : Int} (h1 : (A - p) % 18446744073709551616 = 0) (h2 : (B - (A + a)) % 18446744073709551616 = 0) (h3 : (R - (B + b)) % 18446744073709551616 = 0) (r1 : -9223372036854775808 ≤ R) (r2 : R < 9223372036854775808) (q1 : -9223372036854775808 ≤ p + a + b) (q2 : p + a + b < 9223372036854775808) : R = p + a + b := by omega
theorem own_a4 (p q r s : Int) : p + (q + s / 4294967296) / 4294967296 + ((q + s / 4294967296) % 4294967296 + r) / 4294967296 = (18446744073709551616 * p + 4294967296 * q + 4294967296 * r + s) / 18446744073709551616 := by omega
theorem own_b1 {a b : Int} (a1 : -2147483648 ≤ a) (a2 : a ≤ 2147483647) (b1 : 0 ≤ b) (b2 : b ≤ 4294967295) : -9223372034707292160 ≤ a * b ∧ a * b ≤ 9223372030412324865 := by
  have := mc a1 a2 b1 b2
  omega
theorem own_b2 {a b : Int} (a1 : 0 ≤ a) (a2 : a ≤ 4294967295) (b1 : 0 ≤ b) (b2 : b ≤ 4294967295) : 0 ≤ a * b ∧ a * b ≤ 18446744065119617025 := by
  have := mc a1 a2 b1 b2
  omega
theorem own_b3 {a b : Int} (a1 : -2147483648 ≤ a) (a2 : a ≤ 2147483647) (b1 : -2147483648 ≤ b) (b2 : b ≤ 2147483647) : -4611686018427387904 ≤ a * b ∧ a * b ≤ 4611686018427387904 := by
  have := mc a1 a2 b1 b2
  omega
theorem own_mh_int (x y : Int64) : (own_mh x y).toInt = (x.toInt * y.toInt) / 18446744073709551616 := by
  obtain ⟨ex, a1, a2, b1, b2⟩ := own_parts x
  obtain ⟨ey, c1, c2, d1, d2⟩ := own_parts y
  rw [ex, ey, own_expand]
  have mac := own_b3 a1 a2 c1 c2
  have mad := own_b1 a1 a2 d1 d2
  have mbc : -9223372034707292160 ≤ (own_lo x).toInt * (own_hi y).toInt ∧ (own_lo x).toInt * (own_hi y).toInt ≤ 9223372030412324865 := by
    have := own_b1 c1 c2 b1 b2
    rw [Int.mul_comm] at this; exact this
  have mbd := own_b2 b1 b2 d1 d2
  have e1 : ((own_z2 x y).toInt - (own_lo x).toInt * (own_lo y).toInt) % 18446744073709551616 = 0 := c_lmul _ _
  have e2 : (((own_z2 x y).toUInt64 >>> ((32 : Int32) &&& 0x3f).toInt64.toUInt64).toInt64).toInt = ((own_z2 x y).toInt % 18446744073709551616) / 4294967296 := c_lushr _ (32 : Int32) 32 (by decide) (by decide)
  have e3 : (((own_hi x) * (own_lo y)).toInt - (own_hi x).toInt * (own_lo y).toInt) % 18446744073709551616 = 0 := c_lmul _ _
  have e4 : ((own_t x y).toInt - (((own_hi x) * (own_lo y)).toInt + (((own_z2 x y).toUInt64 >>> ((32 : Int32) &&& 0x3f).toInt64.toUInt64).toInt64).toInt)) % 18446744073709551616 = 0 := c_ladd _ _
  have r4 := rng64 (own_t x y)
  have e5 : ((own_t x y) &&& (4294967295 : Int64)).toInt = (own_t x y).toInt % 4294967296 := c_maskL _ _ 32 (by decide) (by decide)
  have e6 : (((own_lo x) * (own_hi y)).toInt - (own_lo x).toInt * (own_hi y).toInt) % 18446744073709551616 = 0 := c_lmul _ _
  have e7 : ((own_z1 x y).toInt - (((own_t x y) &&& (4294967295 : Int64)).toInt + ((own_lo x) * (own_hi y)).toInt)) % 18446744073709551616 = 0 := c_ladd _ _
  have r7 := rng64 (own_z1 x y)
  have e8 : (((own_hi x) * (own_hi y)).toInt - (own_hi x).toInt * (own_hi y).toInt) % 18446744073709551616 = 0 := c_lmul _ _
  have e9 : ((own_t x y) >>> ((32 : Int32) &&& 0x3f).toInt64).toInt = (own_t x y).toInt / 4294967296 := c_lshr _ (32 : Int32) 32 (by decide)
  have e10 : ((own_z1 x y) >>> ((32 : Int32) &&& 0x3f).toInt64).toInt = (own_z1 x y).toInt / 4294967296 := c_lshr _ (32 : Int32) 32 (by decide)
  have e11 : ((((own_hi x) * (own_hi y)) + ((own_t x y) >>> ((32 : Int32) &&& 0x3f).toInt64)).toInt - (((own_hi x) * (own_hi y)).toInt + ((own_t x y) >>> ((32 : Int32) &&& 0x3f).toInt64).toInt)) % 18446744073709551616 = 0 := c_ladd _ _
  have e12 : ((own_mh x y).toInt - ((((own_hi x) * (own_hi y)) + ((own_t x y) >>> ((32 : Int32) &&& 0x3f).toInt64)).toInt + ((own_z1 x y) >>> ((32 : Int32) &&& 0x3f).toInt64).toInt)) % 18446744073709551616 = 0 := c_ladd _ _
  have r12 := rng64 (own_mh x y)
  generalize (own_hi x).toInt * (own_hi y).toInt = p at *
  generalize (own_hi x).toInt * (own_lo y).toInt = q at *
  generalize (own_lo x).toInt * (own_hi y).toInt = r at *
  generalize (own_lo x).toInt * (own_lo y).toInt = s at *
  rw [own_a1 e1 mbd.1 (Int.lt_of_le_of_lt mbd.2 (by decide))] at e2
  rw [e2] at e4
  have hs : 0 ≤ s / 4294967296 ∧ s / 4294967296 ≤ 4294967294 := by
    clear e1 e2 e3 e4 e5 e6 e7 e8 e9 e10 e11 e12 r4 r7 r12 mac mad mbc ex ey a1 a2 b1 b2 c1 c2 d1 d2
    omega
  have f4 : (own_t x y).toInt = q + s / 4294967296 := own_a2 e3 e4 r4.1 r4.2 (by clear e1 e2 e3 e4 e5 e6 e7 e8 e9 e10 e11 e12; omega) (by clear e1 e2 e3 e4 e5 e6 e7 e8 e9 e10 e11 e12; omega)
  rw [f4] at e5 e9
  rw [e5] at e7
  generalize hu : s / 4294967296 = u at *
  have hm : 0 ≤ (q + u) % 4294967296 ∧ (q + u) % 4294967296 ≤ 4294967295 := by clear e1 e2 e3 e4 e5 e6 e7 e8 e9 e10 e11 e12; omega
  have f7 : (own_z1 x y).toInt = r + (q + u) % 4294967296 := own_a2 e6 (by rw [Int.add_comm ((q + u) % 4294967296)] at e7; exact e7) r7.1 r7.2 (by clear e1 e2 e3 e4 e5 e6 e7 e8 e9 e10 e11 e12; omega) (by clear e1 e2 e3 e4 e5 e6 e7 e8 e9 e10 e11 e12; omega)
  rw [f7] at e10
  rw [e9] at e11
  rw [e10] at e12
  have f12 := own_a3 (C := 0) e8 e11 e12 r12.1 r12.2 (by clear e1 e2 e3 e4 e5 e6 e7 e8 e9 e10 e11 e12; omega) (by clear e1 e2 e3 e4 e5 e6 e7 e8 e9 e10 e11 e12; omega)
  have fin := own_a4 p q r s
  rw [hu] at fin
  rw [f12, ← fin, Int.add_comm r]
theorem own_and_sign (r v : Int64) : ((r >>> ((63 : Int32) &&& 0x3f).toInt64) &&& v).toInt = if r.toInt < 0 then v.toInt else 0 := by
  have h : (r >>> ((63 : Int32) &&& 0x3f).toInt64).toInt = r.toInt / 9223372036854775808 := c_lshr r (63 : Int32) 63 (by decide)
  have hr := rng64 r
  by_cases hn : r.toInt < 0
  · have e : r >>> ((63 : Int32) &&& 0x3f).toInt64 = -1 := Int64.toInt_inj.mp (by rw [h]; show _ = (-1 : Int); omega)
    rw [e, if_pos hn]
    have : (-1 : Int64) &&& v = v := by
      apply Int64.toBitVec_inj.mp
      show BitVec.and (BitVec.allOnes 64) v.toBitVec = v.toBitVec
      exact BitVec.allOnes_and
    rw [this]
  · have e : r >>> ((63 : Int32) &&& 0x3f).toInt64 = 0 := Int64.toInt_inj.mp (by rw [h]; show _ = (0 : Int); omega)
    rw [e, if_neg hn]
    have : (0 : Int64) &&& v = 0 := by
      apply Int64.toBitVec_inj.mp
      show BitVec.and (BitVec.ofNat 64 0) v.toBitVec = BitVec.ofNat 64 0
      exact BitVec.zero_and
    rw [this]; rfl
/-- the reciprocal, as an unsigned number -/
theorem own_du_int {s : Int64} (hs : 1 ≤ s.toInt) : (own_du (-1) s).toInt % 18446744073709551616 = 18446744073709551615 / s.toInt := by
  have rs := rng64 s
  have e1 : (((-1 : Int64).toUInt64 >>> ((1 : Int32) &&& 0x3f).toInt64.toUInt64).toInt64).toInt = 9223372036854775807 := by decide
  have hm1 : s ≠ -1 := fun q => by rw [q] at hs; exact absurd hs (by decide)
  have e2 := (c_ldiv (((-1 : Int64).toUInt64 >>> ((1 : Int32) &&& 0x3f).toInt64.toUInt64).toInt64) s s.toInt rfl hm1).1 (by rw [e1]; decide)
  rw [e1] at e2
  have e3 : ((own_dq (-1) s).toInt - ((((-1 : Int64).toUInt64 >>> ((1 : Int32) &&& 0x3f).toInt64.toUInt64).toInt64) / s).toInt * 2) % 18446744073709551616 = 0 := c_lshl _ (1 : Int32) 1 (by decide)
  rw [e2] at e3
  have e4 : (((own_dq (-1) s) * s).toInt - (own_dq (-1) s).toInt * s.toInt) % 18446744073709551616 = 0 := c_lmul _ _
  have e5 : ((own_dr (-1) s).toInt - ((-1 : Int64).toInt - ((own_dq (-1) s) * s).toInt)) % 18446744073709551616 = 0 := c_lsub _ _
  have em : (-1 : Int64).toInt = -1 := by decide
  rw [em] at e5
  have e6 : (((own_dr (-1) s) - s).toInt - ((own_dr (-1) s).toInt - s.toInt)) % 18446744073709551616 = 0 := c_lsub _ _
  have r5 := rng64 (own_dr (-1) s)
  have r6 := rng64 ((own_dr (-1) s) - s)
  have x6 := c_xorSL ((own_dr (-1) s) - s) (-1)
  rw [em] at x6
  have o6 := c_orSL (own_dr (-1) s) (((own_dr (-1) s) - s) ^^^ (-1))
  have e7 : ((((own_dr (-1) s) ||| (((own_dr (-1) s) - s) ^^^ (-1 : Int64))).toUInt64 >>> ((63 : Int32) &&& 0x3f).toInt64.toUInt64).toInt64).toInt = (((own_dr (-1) s) ||| (((own_dr (-1) s) - s) ^^^ (-1 : Int64))).toInt % 18446744073709551616) / 9223372036854775808 := c_lushr _ (63 : Int32) 63 (by decide) (by decide)
  have r7 := rng64 ((own_dr (-1) s) ||| (((own_dr (-1) s) - s) ^^^ (-1 : Int64)))
  have e8 : ((own_du (-1) s).toInt - ((own_dq (-1) s).toInt + ((((own_dr (-1) s) ||| (((own_dr (-1) s) - s) ^^^ (-1 : Int64))).toUInt64 >>> ((63 : Int32) &&& 0x3f).toInt64.toUInt64).toInt64).toInt)) % 18446744073709551616 = 0 := c_ladd _ _
  generalize (own_du (-1) s).toInt = U at *
  generalize ((((own_dr (-1) s) ||| (((own_dr (-1) s) - s) ^^^ (-1 : Int64))).toUInt64 >>> ((63 : Int32) &&& 0x3f).toInt64.toUInt64).toInt64).toInt = B at *
  generalize ((own_dr (-1) s) ||| (((own_dr (-1) s) - s) ^^^ (-1 : Int64))).toInt = O at *
  generalize (((own_dr (-1) s) - s) ^^^ (-1 : Int64)).toInt = Y at *
  generalize ((own_dr (-1) s) - s).toInt = M at *
  generalize (own_dr (-1) s).toInt = R at *
  generalize ((own_dq (-1) s) * s).toInt = G at *
  generalize hq : (own_dq (-1) s).toInt = q at *
  generalize s.toInt = S at *
  -- D = (2^63-1)/S, e = (2^63-1) % S
  have hd := Int.mul_ediv_add_emod 9223372036854775807 S
  have he1 := Int.emod_nonneg 9223372036854775807 (show S ≠ 0 by omega)
  have he2 := Int.emod_lt_of_pos 9223372036854775807 (show (0 : Int) < S by omega)
  have hD0 : 0 ≤ (9223372036854775807 : Int) / S := Int.ediv_nonneg (by decide) (by omega)
  generalize hDD : (9223372036854775807 : Int) / S = D at *
  generalize (9223372036854775807 : Int) % S = e at *
  -- q = 2D up to 2^64
  obtain ⟨k, hk⟩ : ∃ k, q = D * 2 + 18446744073709551616 * k := ⟨(q - D * 2) / 18446744073709551616, by omega⟩
  have hqs : q * S = 2 * (S * D) + 18446744073709551616 * (k * S) := by rw [hk]; grind
  rw [hqs] at e4
  have hG : (G - (2 * (S * D))) % 18446744073709551616 = 0 := by omega
  have hR : (R - (2 * e + 1)) % 18446744073709551616 = 0 := by omega
  have hq2 : q % 18446744073709551616 = (2 * D) % 18446744073709551616 := by omega
  -- the answer
  have hB : B = if S ≤ 2 * e + 1 then 1 else 0 := by
    split
    · rename_i h
      by_cases hr : R < 0
      · have := o6.2.1 hr; omega
      · have hRe : R = 2 * e + 1 := by omega
        have hM : M = R - S := by omega
        have := x6.2.2.1 (by omega) (by decide)
        have := o6.2.2 this
        omega
    · rename_i h
      have hRe : R = 2 * e + 1 := by omega
      have hM : M = R - S := by omega
      have h1 := x6.1 (by omega) (by decide)
      have := o6.1 (by omega) h1
      omega
  have hU : (U - (2 * D + B)) % 18446744073709551616 = 0 := by omega
  have hDS : D ≤ 9223372036854775807 := by
    have : D * 1 ≤ D * S := Int.mul_le_mul_of_nonneg_left hs hD0
    have h2 : D * S = S * D := Int.mul_comm _ _
    omega
  have hfin : (18446744073709551615 : Int) / S = 2 * D + B := by
    have hb : 0 ≤ B ∧ B ≤ 1 := by rw [hB]; split <;> omega
    refine (Int.ediv_eq_iff_of_pos (show (0 : Int) < S by omega)).mpr ?_
    have e1 : (2 * D + B) * S = 2 * (S * D) + B * S := by grind
    rw [hB] at e1 ⊢
    split at e1 <;> split <;> (try omega)
    all_goals (constructor <;> grind)
  rw [hfin]
  have hB1 : 0 ≤ B ∧ B ≤ 1 := by rw [hB]; split <;> omega
  by_cases hS1 : S = 1
  · subst hS1; omega
  · have hS2 : D * 2 ≤ D * S := Int.mul_le_mul_of_nonneg_left (by omega) hD0
    have h2 : D * S = S * D := Int.mul_comm _ _
    omega
theorem own_and_max (v : Int64) : 0 ≤ (v &&& (9223372036854775807 : Int64)).toInt := by
  have h : (v &&& (9223372036854775807 : Int64)).toInt = v.toInt % 9223372036854775808 := c_maskL v _ 63 (by decide) (by decide)
  omega
/-- the whole: the two bounds on the quotient -/
theorem own_quot {V S U : Int} (hV0 : 0 ≤ V) (hV : V < 9223372036854775808) (hS : 1 ≤ S) (hU : U = 18446744073709551615 / S) : 0 ≤ V * U / 18446744073709551616 ∧ V * U / 18446744073709551616 * S ≤ V ∧ V < V * U / 18446744073709551616 * S + 2 * S := by
  have hd := Int.mul_ediv_add_emod 18446744073709551615 S
  have he1 := Int.emod_nonneg 18446744073709551615 (show S ≠ 0 by omega)
  have he2 := Int.emod_lt_of_pos 18446744073709551615 (show (0 : Int) < S by omega)
  rw [← hU] at hd
  have hU0 : 0 ≤ U := by rw [hU]; exact Int.ediv_nonneg (by decide) (by omega)
  have hVU : 0 ≤ V * U := Int.mul_nonneg hV0 hU0
  have hq := Int.mul_ediv_add_emod (V * U) 18446744073709551616
  have hq1 := Int.emod_nonneg (V * U) (show (18446744073709551616 : Int) ≠ 0 by decide)
  have hq2 := Int.emod_lt_of_pos (V * U) (show (0 : Int) < 18446744073709551616 by decide)
  have hQ0 : 0 ≤ V * U / 18446744073709551616 := Int.ediv_nonneg hVU (by decide)
  generalize V * U / 18446744073709551616 = Q at *
  generalize (V * U) % 18446744073709551616 = f at *
  generalize (18446744073709551615 : Int) % S = e at *
  refine ⟨hQ0, ?_, ?_⟩
  · -- Q*S*2^64 ≤ V*U*S = V*(2^64-1-e) ≤ V*2^64
    have h1 : V * U * S = V * (18446744073709551615 - e) := by
      have : U * S = 18446744073709551615 - e := by rw [Int.mul_comm]; omega
      rw [Int.mul_assoc, this]
    have h2 : V * U * S = 18446744073709551616 * (Q * S) + f * S := by rw [← hq]; grind
    have h3 : 0 ≤ f * S := Int.mul_nonneg hq1 (by omega)
    have h4 : 0 ≤ V * e := Int.mul_nonneg hV0 he1
    have h5 : V * (18446744073709551615 - e) = 18446744073709551615 * V - V * e := by grind
    omega
  · have h1 : V * U * S = V * (18446744073709551615 - e) := by
      have : U * S = 18446744073709551615 - e := by rw [Int.mul_comm]; omega
      rw [Int.mul_assoc, this]
    have h2 : V * U * S = 18446744073709551616 * (Q * S) + f * S := by rw [← hq]; grind
    have h3 : f * S ≤ 18446744073709551615 * S := Int.mul_le_mul_of_nonneg_right (by omega) (by omega)
    have h4 : V * e ≤ V * (S - 1) := Int.mul_le_mul_of_nonneg_left (by omega) hV0
    have h5 : V * (18446744073709551615 - e) = 18446744073709551615 * V - V * e := by grind
    have h6 : V * (S - 1) ≤ 9223372036854775807 * (S - 1) := Int.mul_le_mul_of_nonneg_right (by omega) (by omega)
    omega
theorem own_rd_int {v s r : Int64} (hv : 0 ≤ v.toInt) (hs : 1 ≤ s.toInt) (hr : r.toInt % 18446744073709551616 = 18446744073709551615 / s.toInt) : (own_rd v s r).toInt = v.toInt % s.toInt := by
  have rv := rng64 v
  have rs := rng64 s
  have rr := rng64 r
  have qt := own_quot hv rv.2 hs hr
  have e1 := own_mh_int v r
  have e2 := own_and_sign r v
  have e3 : ((own_rq v r).toInt - ((own_mh v r).toInt + ((r >>> ((63 : Int32) &&& 0x3f).toInt64) &&& v).toInt)) % 18446744073709551616 = 0 := c_ladd _ _
  have rq := rng64 (own_rq v r)
  -- the quotient
  have hQ : (own_rq v r).toInt = v.toInt * (r.toInt % 18446744073709551616) / 18446744073709551616 := by
    have hle : v.toInt * (r.toInt % 18446744073709551616) / 18446744073709551616 ≤ v.toInt := by
      have h1 : v.toInt * (r.toInt % 18446744073709551616) / 18446744073709551616 * 1 ≤ v.toInt * (r.toInt % 18446744073709551616) / 18446744073709551616 * s.toInt := Int.mul_le_mul_of_nonneg_left hs qt.1
      omega
    have h0 := qt.1
    rw [e1, e2] at e3
    by_cases hn : r.toInt < 0
    · rw [if_pos hn] at e3
      have hm : r.toInt % 18446744073709551616 = r.toInt + 18446744073709551616 := by omega
      rw [hm] at hle h0 ⊢
      have : v.toInt * (r.toInt + 18446744073709551616) = v.toInt * r.toInt + v.toInt * 18446744073709551616 := Int.mul_add ..
      rw [this, Int.add_mul_ediv_right _ _ (by decide)] at hle h0 ⊢
      omega
    · rw [if_neg hn] at e3
      have hm : r.toInt % 18446744073709551616 = r.toInt := by omega
      rw [hm] at hle h0 ⊢
      omega
  rw [← hQ] at qt
  have e4 : (((own_rq v r) * s).toInt - (own_rq v r).toInt * s.toInt) % 18446744073709551616 = 0 := c_lmul _ _
  have r4 := rng64 ((own_rq v r) * s)
  have e5 : ((own_rr v s r).toInt - (v.toInt - ((own_rq v r) * s).toInt)) % 18446744073709551616 = 0 := c_lsub _ _
  have r5 := rng64 (own_rr v s r)
  have hqs : 0 ≤ (own_rq v r).toInt * s.toInt := Int.mul_nonneg qt.1 (by omega)
  have hR : (own_rr v s r).toInt = v.toInt - (own_rq v r).toInt * s.toInt := by omega
  have e6 : ((s - (1 : Int64)).toInt - (s.toInt - (1 : Int64).toInt)) % 18446744073709551616 = 0 := c_lsub _ _
  have r6 := rng64 (s - (1 : Int64))
  have e1' : (1 : Int64).toInt = 1 := by decide
  have e7 : (((s - (1 : Int64)) - (own_rr v s r)).toInt - ((s - (1 : Int64)).toInt - (own_rr v s r).toInt)) % 18446744073709551616 = 0 := c_lsub _ _
  have r7 := rng64 ((s - (1 : Int64)) - (own_rr v s r))
  have e8 := own_and_sign ((s - (1 : Int64)) - (own_rr v s r)) s
  have e9 : ((own_rd v s r).toInt - ((own_rr v s r).toInt - (s &&& (((s - (1 : Int64)) - (own_rr v s r)) >>> ((63 : Int32) &&& 0x3f).toInt64)).toInt)) % 18446744073709551616 = 0 := c_lsub _ _
  have r9 := rng64 (own_rd v s r)
  rw [Int64.and_comm] at e8
  rw [e8] at e9
  have hD : (own_rd v s r).toInt = if s.toInt ≤ (own_rr v s r).toInt then (own_rr v s r).toInt - s.toInt else (own_rr v s r).toInt := by
    split <;> rename_i h
    · rw [if_pos (by omega)] at e9; omega
    · rw [if_neg (by omega)] at e9; omega
  rw [hD, hR]
  obtain ⟨-, h1, h2⟩ := qt
  generalize (own_rq v r).toInt = Q at *
  generalize v.toInt = V at *
  generalize s.toInt = S at *
  split
  · rename_i h
    have : V = (V - Q * S - S) + (Q + 1) * S := by grind
    conv => rhs; rw [this]
    rw [Int.add_mul_emod_self_right, Int.emod_eq_of_lt (by omega) (by omega)]
  · rename_i h
    have : V = (V - Q * S) + Q * S := by omega
    conv => rhs; rw [this]
    rw [Int.add_mul_emod_self_right, Int.emod_eq_of_lt (by omega) (by omega)]
theorem own_main (v : Int64) {s : Int64} (hs : 1 ≤ s.toInt) : own_rd (v &&& (9223372036854775807 : Int64)) s (own_du (-1 : Int64) s) = own_rf v s := by
  apply Int64.toInt_inj.mp
  rw [own_rd_int (own_and_max v) hs (own_du_int hs)]
  exact ((c_lrem (v &&& (9223372036854775807 : Int64)) s s.toInt rfl).1 (own_and_max v)).symm
theorem own_s0_nonneg (p0 : Int64) (p1 : Int32) : 0 ≤ (own_s0 p0 p1).toInt := by
  have h0 := own_and_max p0
  show 0 ≤ (((p0 &&& (9223372036854775807 : Int64)).toUInt64 >>> ((p1 &&& (63 : Int32)) &&& 0x3f).toInt64.toUInt64).toInt64).toInt
  generalize (p0 &&& (9223372036854775807 : Int64)) = x at *
  generalize (p1 &&& (63 : Int32)) = q
  have hn : x.toBitVec.toNat < 9223372036854775808 := by
    have h : x.toInt = x.toBitVec.toInt := rfl
    rw [h, BitVec.toInt_eq_toNat_cond] at h0
    have h5 := x.toBitVec.isLt
    split at h0 <;> omega
  have h3 : (x.toBitVec >>> ((q &&& 0x3f).toInt64.toBitVec % 64)).toNat ≤ x.toBitVec.toNat := by
    rw [BitVec.ushiftRight_eq', BitVec.toNat_ushiftRight, Nat.shiftRight_eq_div_pow]; exact Nat.div_le_self _ _
  show 0 ≤ (x.toBitVec >>> ((q &&& 0x3f).toInt64.toBitVec % 64)).toInt
  rw [BitVec.toInt_eq_toNat_cond, if_pos (by omega)]; omega
theorem own_pos {sz p0 : Int64} {p1 : Int32} (h : (¬ (own_s0 p0 p1) = (0 : Int64) ∧ sz = (own_s0 p0 p1)) ∨ ((own_s0 p0 p1) = (0 : Int64) ∧ sz = 1)) : 1 ≤ sz.toInt := by
  rcases h with ⟨h1, rfl⟩ | ⟨-, rfl⟩
  · have h2 := own_s0_nonneg p0 p1
    have h3 : (own_s0 p0 p1).toInt ≠ 0 := fun q => h1 (Int64.toInt_inj.mp q)
    omega
  · decide
theorem own_ge1 {sz : Int64} (h : 1 ≤ sz.toInt) : ¬ (lcmpW sz (1 : Int64)) < (0 : Int32) := fun q => by
  have := Int64.lt_iff_toInt_lt.mp ((lw_lt _ _).mp q)
  have e : (1 : Int64).toInt = 1 := by decide
  omega
theorem own_ge0 {sz : Int64} (h : 1 ≤ sz.toInt) : ¬ (lcmpW sz (0 : Int64)) < (0 : Int32) := fun q => by
  have := Int64.lt_iff_toInt_lt.mp ((lw_lt _ _).mp q)
  have e : (0 : Int64).toInt = 0 := by decide
  omega
theorem own_nz {sz : Int64} (h : 1 ≤ sz.toInt) : ¬ sz = (0 : Int64) := fun q => by
  rw [q] at h; exact absurd h (by decide)

theorem pd_6 : parseMethodDescriptor "(J)V" = some ⟨[.long], none⟩ := by decide +kernel
theorem pd_7 : parseMethodDescriptor "(Lcom/example/keys_to_bits/keystobits/hash/CellRange;JJ)V" = some ⟨[(.object "com/example/keys_to_bits/keystobits/hash/CellRange"), .long, .long], none⟩ := by decide +kernel
theorem pd_8 : parseMethodDescriptor "()J" = some ⟨[], some .long⟩ := by decide +kernel
theorem ef_L (m : MethodId) (x0 : Int64) (x1 : Int32) (x2 : Int64) (x3 : Int64) : entryFrame m #[(.long x0), (.int x1), (.long x2), (.long x3)] maxLocals = mkF m 0 #[.val (.long x0), .second, .val (.int x1), .val (.long x2), .second, .val (.long x3), .second, .unset, .unset, .unset, .unset, .unset, .unset, .unset, .unset, .unset, .unset, .unset, .unset, .unset, .unset, .unset, .unset] [] := by first | (simp [entryFrame, mkF, argsToLocals, Value.category, maxLocals]; done) | rfl
def QL (Z : State) (p0 : Int64) (p1 : Int32) (p2 : Int64) (p3 : Int64) (h0 : Heap) (n0 : Nat) (v : Option Value) (h : Heap) (L : List Loc) : Prop := v = some (.int 1) ∧ Fr n0 L
set_option maxRecDepth 65536 in
set_option maxHeartbeats 40000000 in
theorem rmL (l : Launch) (Z : State) (a0 : Array Value) (hw : ∀ d ∈ tables_1, d.before a0 Z = true) (ws : List Jvm.Cond) (p0 : Int64) (p1 : Int32) (p2 : Int64) (p3 : Int64) (h0 : Heap) (n0 : Nat) (Z0 : n0 ≤ h0.size) :
    MetFree l x (head1 (Jvm.Cond.code x code maxLocals ret :: ws) room_1) (fun as_ U => as_ = #[(.long p0), (.int p1), (.long p2), (.long p3)] ∧ Z.Warmed39 U.vm ∧ U.heap = h0) (fun _ _ _ _ _ => True) (fun _ U o U' => ∃ v L, o = .returned v ∧ QL Z p0 p1 p2 p3 h0 n0 v U'.heap L ∧ FrameEnd U o U' L 2 6) := by
  refine MetFree.of_bodySF (plainFor_of_name pn_1) hisR ?_
  intro p e s m args below meth c s₁ Bd hml0 hP hK
  obtain ⟨rfl, hZ, hh⟩ := hP
  have hx := Bd.exec
  have hby := Bd.bytes
  have hml : c.maxLocals = 23 := hml0
  have hown : s.vm.findClass "com/example/keys_to_bits/keystobits/hash/WalkNextPinLaw" = some m.cls := findClass_of_methodNamed Bd.named
  have hnm := (name_of_methodNamed Bd.named Bd.method).1
  have X0 : Stand p l e room_1 s m #[(.long p0), (.int p1), (.long p2), (.long p3)] below meth c s₁ [] 0 0 := Stand.of_body Bd
  have e0 : s₁.heap = h0 := by rw [← hh, Bd.state]; rfl
  have N0 := Fr.nil n0
  obtain ⟨E0, hE0⟩ : ∃ z, z = s₁.setTop (entryFrame m #[(.long p0), (.int p1), (.long p2), (.long p3)] maxLocals) := ⟨_, rfl⟩
  rw [← hE0]
  have go0 : ∀ tgt, Steps p.tables e below (s₁.setTop (mkF m 0 #[.val (.long p0), .second, .val (.int p1), .val (.long p2), .second, .val (.long p3), .second, .unset, .unset, .unset, .unset, .unset, .unset, .unset, .unset, .unset, .unset, .unset, .unset, .unset, .unset, .unset, .unset] [])) tgt → Steps p.tables e below E0 tgt := fun tgt kont => by rw [hE0]; exact castTop (ef_L m p0 p1 p2 p3) kont
  have go1 : ∀ tgt, Steps p.tables e below (s₁.setTop (mkF m 12 #[.val (.long p0), .second, .val (.int p1), .val (.long p2), .second, .val (.long p3), .second, .val (.long (own_s0 p0 p1)), .second, .unset, .unset, .unset, .unset, .unset, .unset, .unset, .unset, .unset, .unset, .unset, .unset, .unset, .unset] [])) tgt → Steps p.tables e below E0 tgt := fun tgt kont => go0 tgt (by
    show Steps p.tables e below (s₁.setTop (mkF m 0 #[.val (.long p0), .second, .val (.int p1), .val (.long p2), .second, .val (.long p3), .second, .unset, .unset, .unset, .unset, .unset, .unset, .unset, .unset, .unset, .unset, .unset, .unset, .unset, .unset, .unset, .unset] [])) tgt
    refine XS.lloadN X0.here hx rfl (hb hby at_0) rfl ?_
    show Steps p.tables e below (s₁.setTop (mkF m 1 #[.val (.long p0), .second, .val (.int p1), .val (.long p2), .second, .val (.long p3), .second, .unset, .unset, .unset, .unset, .unset, .unset, .unset, .unset, .unset, .unset, .unset, .unset, .unset, .unset, .unset, .unset] [(.long p0)])) tgt
    refine X0.ldc2Long hx hown (mvT hZ (hw _ (List.mem_of_getElem? (i := 0) rfl))) (g := (mkF m 1 #[.val (.long p0), .second, .val (.int p1), .val (.long p2), .second, .val (.long p3), .second, .unset, .unset, .unset, .unset, .unset, .unset, .unset, .unset, .unset, .unset, .unset, .unset, .unset, .unset, .unset, .unset] [(.long p0)])) rfl (hb hby at_1) _ ?_
    show Steps p.tables e below (s₁.setTop (mkF m 4 #[.val (.long p0), .second, .val (.int p1), .val (.long p2), .second, .val (.long p3), .second, .unset, .unset, .unset, .unset, .unset, .unset, .unset, .unset, .unset, .unset, .unset, .unset, .unset, .unset, .unset, .unset] [(.long (9223372036854775807 : Int64)), (.long p0)])) tgt
    refine XS.land X0.here hx rfl (hb hby at_4) rfl ?_
    show Steps p.tables e below (s₁.setTop (mkF m 5 #[.val (.long p0), .second, .val (.int p1), .val (.long p2), .second, .val (.long p3), .second, .unset, .unset, .unset, .unset, .unset, .unset, .unset, .unset, .unset, .unset, .unset, .unset, .unset, .unset, .unset, .unset] [(.long (p0 &&& (9223372036854775807 : Int64)))])) tgt
    refine XS.iloadN X0.here hx rfl (hb hby at_5) rfl ?_
    show Steps p.tables e below (s₁.setTop (mkF m 6 #[.val (.long p0), .second, .val (.int p1), .val (.long p2), .second, .val (.long p3), .second, .unset, .unset, .unset, .unset, .unset, .unset, .unset, .unset, .unset, .unset, .unset, .unset, .unset, .unset, .unset, .unset] [(.int p1), (.long (p0 &&& (9223372036854775807 : Int64)))])) tgt
    refine XS.bipush X0.here hx rfl (hb hby at_6) ?_
    show Steps p.tables e below (s₁.setTop (mkF m 8 #[.val (.long p0), .second, .val (.int p1), .val (.long p2), .second, .val (.long p3), .second, .unset, .unset, .unset, .unset, .unset, .unset, .unset, .unset, .unset, .unset, .unset, .unset, .unset, .unset, .unset, .unset] [(.int (63 : Int32)), (.int p1), (.long (p0 &&& (9223372036854775807 : Int64)))])) tgt
    refine XS.iand X0.here hx rfl (hb hby at_8) rfl ?_
    show Steps p.tables e below (s₁.setTop (mkF m 9 #[.val (.long p0), .second, .val (.int p1), .val (.long p2), .second, .val (.long p3), .second, .unset, .unset, .unset, .unset, .unset, .unset, .unset, .unset, .unset, .unset, .unset, .unset, .unset, .unset, .unset, .unset] [(.int (p1 &&& (63 : Int32))), (.long (p0 &&& (9223372036854775807 : Int64)))])) tgt
    refine XS.lushr X0.here hx rfl (hb hby at_9) rfl ?_
    show Steps p.tables e below (s₁.setTop (mkF m 10 #[.val (.long p0), .second, .val (.int p1), .val (.long p2), .second, .val (.long p3), .second, .unset, .unset, .unset, .unset, .unset, .unset, .unset, .unset, .unset, .unset, .unset, .unset, .unset, .unset, .unset, .unset] [(.long (own_s0 p0 p1))])) tgt
    refine XS.lstore X0.here hx rfl (hb hby at_10) rfl (l' := #[.val (.long p0), .second, .val (.int p1), .val (.long p2), .second, .val (.long p3), .second, .val (.long (own_s0 p0 p1)), .second, .unset, .unset, .unset, .unset, .unset, .unset, .unset, .unset, .unset, .unset, .unset, .unset, .unset, .unset]) rfl ?_
    exact kont)
  obtain ⟨sz, hsz, go2⟩ : ∃ sz : Int64, ((¬ (own_s0 p0 p1) = (0 : Int64) ∧ sz = (own_s0 p0 p1)) ∨ ((own_s0 p0 p1) = (0 : Int64) ∧ sz = 1)) ∧ ∀ tgt, Steps p.tables e below (s₁.setTop (mkF m 22 #[.val (.long p0), .second, .val (.int p1), .val (.long p2), .second, .val (.long p3), .second, .val (.long sz), .second, .unset, .unset, .unset, .unset, .unset, .unset, .unset, .unset, .unset, .unset, .unset, .unset, .unset, .unset] [])) tgt → Steps p.tables e below E0 tgt := by
    by_cases hc : (own_s0 p0 p1) = (0 : Int64)
    · exact ⟨(1 : Int64), Or.inr ⟨hc, rfl⟩, fun tgt kont => go1 tgt (by
        show Steps p.tables e below (s₁.setTop (mkF m 12 #[.val (.long p0), .second, .val (.int p1), .val (.long p2), .second, .val (.long p3), .second, .val (.long (own_s0 p0 p1)), .second, .unset, .unset, .unset, .unset, .unset, .unset, .unset, .unset, .unset, .unset, .unset, .unset, .unset, .unset] [])) tgt
        refine XS.lload X0.here hx rfl (hb hby at_12) rfl ?_
        show Steps p.tables e below (s₁.setTop (mkF m 14 #[.val (.long p0), .second, .val (.int p1), .val (.long p2), .second, .val (.long p3), .second, .val (.long (own_s0 p0 p1)), .second, .unset, .unset, .unset, .unset, .unset, .unset, .unset, .unset, .unset, .unset, .unset, .unset, .unset, .unset] [(.long (own_s0 p0 p1))])) tgt
        refine XS.lconst X0.here hx rfl (hb hby at_14) ?_
        show Steps p.tables e below (s₁.setTop (mkF m 15 #[.val (.long p0), .second, .val (.int p1), .val (.long p2), .second, .val (.long p3), .second, .val (.long (own_s0 p0 p1)), .second, .unset, .unset, .unset, .unset, .unset, .unset, .unset, .unset, .unset, .unset, .unset, .unset, .unset, .unset] [(.long (0 : Int64)), (.long (own_s0 p0 p1))])) tgt
        refine XS.lcmp X0.here hx rfl (hb hby at_15) rfl ?_
        show Steps p.tables e below (s₁.setTop (mkF m 16 #[.val (.long p0), .second, .val (.int p1), .val (.long p2), .second, .val (.long p3), .second, .val (.long (own_s0 p0 p1)), .second, .unset, .unset, .unset, .unset, .unset, .unset, .unset, .unset, .unset, .unset, .unset, .unset, .unset, .unset] [(.int (lcmpW (own_s0 p0 p1) (0 : Int64)))])) tgt
        refine XS.ifNo X0.here hx rfl (hb hby at_16) rfl ((if0 _ _).trans (teq ((lw_eq _ _).mpr hc)).2) ?_
        show Steps p.tables e below (s₁.setTop (mkF m 19 #[.val (.long p0), .second, .val (.int p1), .val (.long p2), .second, .val (.long p3), .second, .val (.long (own_s0 p0 p1)), .second, .unset, .unset, .unset, .unset, .unset, .unset, .unset, .unset, .unset, .unset, .unset, .unset, .unset, .unset] [])) tgt
        refine XS.lconst X0.here hx rfl (hb hby at_19) ?_
        show Steps p.tables e below (s₁.setTop (mkF m 20 #[.val (.long p0), .second, .val (.int p1), .val (.long p2), .second, .val (.long p3), .second, .val (.long (own_s0 p0 p1)), .second, .unset, .unset, .unset, .unset, .unset, .unset, .unset, .unset, .unset, .unset, .unset, .unset, .unset, .unset] [(.long (1 : Int64))])) tgt
        refine XS.lstore X0.here hx rfl (hb hby at_20) rfl (l' := #[.val (.long p0), .second, .val (.int p1), .val (.long p2), .second, .val (.long p3), .second, .val (.long (1 : Int64)), .second, .unset, .unset, .unset, .unset, .unset, .unset, .unset, .unset, .unset, .unset, .unset, .unset, .unset, .unset]) rfl ?_
        exact kont)⟩
    · exact ⟨(own_s0 p0 p1), Or.inl ⟨hc, rfl⟩, fun tgt kont => go1 tgt (by
        show Steps p.tables e below (s₁.setTop (mkF m 12 #[.val (.long p0), .second, .val (.int p1), .val (.long p2), .second, .val (.long p3), .second, .val (.long (own_s0 p0 p1)), .second, .unset, .unset, .unset, .unset, .unset, .unset, .unset, .unset, .unset, .unset, .unset, .unset, .unset, .unset] [])) tgt
        refine XS.lload X0.here hx rfl (hb hby at_12) rfl ?_
        show Steps p.tables e below (s₁.setTop (mkF m 14 #[.val (.long p0), .second, .val (.int p1), .val (.long p2), .second, .val (.long p3), .second, .val (.long (own_s0 p0 p1)), .second, .unset, .unset, .unset, .unset, .unset, .unset, .unset, .unset, .unset, .unset, .unset, .unset, .unset, .unset] [(.long (own_s0 p0 p1))])) tgt
        refine XS.lconst X0.here hx rfl (hb hby at_14) ?_
        show Steps p.tables e below (s₁.setTop (mkF m 15 #[.val (.long p0), .second, .val (.int p1), .val (.long p2), .second, .val (.long p3), .second, .val (.long (own_s0 p0 p1)), .second, .unset, .unset, .unset, .unset, .unset, .unset, .unset, .unset, .unset, .unset, .unset, .unset, .unset, .unset] [(.long (0 : Int64)), (.long (own_s0 p0 p1))])) tgt
        refine XS.lcmp X0.here hx rfl (hb hby at_15) rfl ?_
        show Steps p.tables e below (s₁.setTop (mkF m 16 #[.val (.long p0), .second, .val (.int p1), .val (.long p2), .second, .val (.long p3), .second, .val (.long (own_s0 p0 p1)), .second, .unset, .unset, .unset, .unset, .unset, .unset, .unset, .unset, .unset, .unset, .unset, .unset, .unset, .unset] [(.int (lcmpW (own_s0 p0 p1) (0 : Int64)))])) tgt
        refine XS.ifYes X0.here hx rfl (pc0 := 16) (pc' := 22) rfl (hb hby at_16) rfl ((if0 _ _).trans (feq (fun q => hc ((lw_eq _ _).mp q))).2) (by decide) (by decide) ?_
        exact kont)⟩
  have hpos : 1 ≤ sz.toInt := own_pos hsz
  have hs7 : ¬ (lcmpW sz (1 : Int64)) < (0 : Int32) := own_ge1 hpos
  have hs3 : ¬ (lcmpW sz (0 : Int64)) < (0 : Int32) := own_ge0 hpos
  have hnz : ¬ sz = (0 : Int64) := own_nz hpos
  obtain ⟨T3, h3, X3, e3, E3, A3, D3, -, st3⟩ := newO X0 hx hZ hown (hw _ (List.mem_of_getElem? (i := 1) rfl)) (hw _ (List.mem_of_getElem? (i := 2) rfl)) (hw _ (List.mem_of_getElem? (i := 3) rfl)) e0 (g := (mkF m 22 #[.val (.long p0), .second, .val (.int p1), .val (.long p2), .second, .val (.long p3), .second, .val (.long sz), .second, .unset, .unset, .unset, .unset, .unset, .unset, .unset, .unset, .unset, .unset, .unset, .unset, .unset, .unset] [])) rfl (hb hby at_22) (by decide) (by decide)
  obtain ⟨b, g3⟩ : ∃ z, z = h0.size := ⟨_, rfl⟩
  rw [← g3] at A3 D3 st3
  have ge_b : n0 ≤ b := Nat.le_trans Z0 (Nat.le_of_eq g3.symm)
  have z4 : n0 ≤ h3.size := Nat.le_trans Z0 E3.1
  have Fsize_b : Fld Z h3 b "com/example/keys_to_bits/keystobits/hash/CellRange" "size" "J" (.long (0 : Int64)) := D3 (Or.inr (hw _ (List.mem_of_getElem? (i := 11) rfl))) (ty := .long) (by decide)
  have Freciprocal_b : Fld Z h3 b "com/example/keys_to_bits/keystobits/hash/CellRange" "reciprocal" "J" (.long (0 : Int64)) := D3 (Or.inr (hw _ (List.mem_of_getElem? (i := 19) rfl))) (ty := .long) (by decide)
  have go3 : ∀ tgt, Steps p.tables e below (T3.setTop (mkF m 25 #[.val (.long p0), .second, .val (.int p1), .val (.long p2), .second, .val (.long p3), .second, .val (.long sz), .second, .unset, .unset, .unset, .unset, .unset, .unset, .unset, .unset, .unset, .unset, .unset, .unset, .unset, .unset] [(.ref b)])) tgt → Steps p.tables e below E0 tgt := fun tgt kont => go2 tgt (st3 tgt kont)
  have go5 : ∀ tgt, Steps p.tables e below (T3.setTop (mkF m 28 #[.val (.long p0), .second, .val (.int p1), .val (.long p2), .second, .val (.long p3), .second, .val (.long sz), .second, .unset, .unset, .unset, .unset, .unset, .unset, .unset, .unset, .unset, .unset, .unset, .unset, .unset, .unset] [(.long sz), (.ref b), (.ref b)])) tgt → Steps p.tables e below E0 tgt := fun tgt kont => go3 tgt (by
    show Steps p.tables e below (T3.setTop (mkF m 25 #[.val (.long p0), .second, .val (.int p1), .val (.long p2), .second, .val (.long p3), .second, .val (.long sz), .second, .unset, .unset, .unset, .unset, .unset, .unset, .unset, .unset, .unset, .unset, .unset, .unset, .unset, .unset] [(.ref b)])) tgt
    refine XS.dup X3.here hx rfl (hb hby at_25) rfl rfl ?_
    show Steps p.tables e below (T3.setTop (mkF m 26 #[.val (.long p0), .second, .val (.int p1), .val (.long p2), .second, .val (.long p3), .second, .val (.long sz), .second, .unset, .unset, .unset, .unset, .unset, .unset, .unset, .unset, .unset, .unset, .unset, .unset, .unset, .unset] [(.ref b), (.ref b)])) tgt
    refine XS.lload X3.here hx rfl (hb hby at_26) rfl ?_
    exact kont)
  obtain ⟨_, _, ⟨T6, L6, k6, n6⟩, -, X6, ⟨Lc6, hQ6, l6, y6, z6⟩, st6⟩ := X3.specialBack hx (y := (⟨"com/example/keys_to_bits/keystobits/hash/CellRange", "<init>", "(J)V"⟩ : MethodName)) rfl hown (mvT hZ (hw _ (List.mem_of_getElem? (i := 4) rfl))) (mvT hZ (hw _ (List.mem_of_getElem? (i := 5) rfl))) (mvT hZ (hw _ (List.mem_of_getElem? (i := 6) rfl))) (by decide) (backOf (W := 1) (rmCI l Z a0 hw [] b sz h3 n0 z4 A3 ge_b Fsize_b Freciprocal_b hs7 hs3 hnz) hZ (hw _ (List.mem_of_getElem? (i := 6) rfl)) (hw _ (List.mem_of_getElem? (i := 3) rfl)) (by decide) (by decide)) (g := (mkF m 28 #[.val (.long p0), .second, .val (.int p1), .val (.long p2), .second, .val (.long p3), .second, .val (.long sz), .second, .unset, .unset, .unset, .unset, .unset, .unset, .unset, .unset, .unset, .unset, .unset, .unset, .unset, .unset] [(.long sz), (.ref b), (.ref b)])) rfl (by rw [hml]; rfl) (Steps.refl _) (a := b) (argsL := [(.long sz)]) (rest := [(.ref b)]) (lenOf pd_6 rfl) rfl (by show 2 * 0 + _ ≤ _; exact Nat.le_of_eq rfl) (hb hby at_28) (fun _ _ => ⟨rfl, e3, (by decide : 1 + 0 ≤ _), (by decide : 2 + 0 ≤ _)⟩)
  dsimp only [Pt.U, Pt.locs, Pt.cells, Pt.slots] at X6 l6 y6 z6 st6 hQ6
  subst l6 y6 z6
  obtain ⟨rfl, N6q, KA, EA, FA1, FA2⟩ := hQ6
  have N6 := Fr.app N0 N6q
  have z7 : n0 ≤ T6.heap.size := Nat.le_trans z4 KA.1
  have go6 : ∀ tgt, Steps p.tables e below (T6.setTop (mkF m 31 #[.val (.long p0), .second, .val (.int p1), .val (.long p2), .second, .val (.long p3), .second, .val (.long sz), .second, .unset, .unset, .unset, .unset, .unset, .unset, .unset, .unset, .unset, .unset, .unset, .unset, .unset, .unset] [(.ref b)])) tgt → Steps p.tables e below E0 tgt := fun tgt kont => go5 tgt (st6.trans kont)
  have go8 : ∀ tgt, Steps p.tables e below (T6.setTop (mkF m 33 #[.val (.long p0), .second, .val (.int p1), .val (.long p2), .second, .val (.long p3), .second, .val (.long sz), .second, .val (.ref b), .unset, .unset, .unset, .unset, .unset, .unset, .unset, .unset, .unset, .unset, .unset, .unset, .unset] [])) tgt → Steps p.tables e below E0 tgt := fun tgt kont => go6 tgt (by
    show Steps p.tables e below (T6.setTop (mkF m 31 #[.val (.long p0), .second, .val (.int p1), .val (.long p2), .second, .val (.long p3), .second, .val (.long sz), .second, .unset, .unset, .unset, .unset, .unset, .unset, .unset, .unset, .unset, .unset, .unset, .unset, .unset, .unset] [(.ref b)])) tgt
    refine XS.astore X6.here hx rfl (hb hby at_31) rfl rfl (l' := #[.val (.long p0), .second, .val (.int p1), .val (.long p2), .second, .val (.long p3), .second, .val (.long sz), .second, .val (.ref b), .unset, .unset, .unset, .unset, .unset, .unset, .unset, .unset, .unset, .unset, .unset, .unset, .unset]) rfl ?_
    exact kont)
  obtain ⟨T9, h9, X9, e9, E9, A9, D9, -, st9⟩ := newO X6 hx hZ hown (hw _ (List.mem_of_getElem? (i := 20) rfl)) (hw _ (List.mem_of_getElem? (i := 21) rfl)) (hw _ (List.mem_of_getElem? (i := 22) rfl)) rfl (g := (mkF m 33 #[.val (.long p0), .second, .val (.int p1), .val (.long p2), .second, .val (.long p3), .second, .val (.long sz), .second, .val (.ref b), .unset, .unset, .unset, .unset, .unset, .unset, .unset, .unset, .unset, .unset, .unset, .unset, .unset] [])) rfl (hb hby at_33) (by decide) (by decide)
  obtain ⟨a, g9⟩ : ∃ z, z = T6.heap.size := ⟨_, rfl⟩
  rw [← g9] at A9 D9 st9
  have ne_b_a : b ≠ a := Nat.ne_of_lt (Nat.lt_of_lt_of_le (Nat.lt_of_lt_of_le A3.lt KA.1) (Nat.le_of_eq g9.symm))
  have ge_a : n0 ≤ a := Nat.le_trans z7 (Nat.le_of_eq g9.symm)
  have z10 : n0 ≤ h9.size := Nat.le_trans z7 E9.1
  have Fsize_a : Fld Z h9 a "com/example/keys_to_bits/keystobits/hash/CellRange$Walk" "size" "J" (.long (0 : Int64)) := D9 (Or.inr (hw _ (List.mem_of_getElem? (i := 29) rfl))) (ty := .long) (by decide)
  have Freciprocal_a : Fld Z h9 a "com/example/keys_to_bits/keystobits/hash/CellRange$Walk" "reciprocal" "J" (.long (0 : Int64)) := D9 (Or.inr (hw _ (List.mem_of_getElem? (i := 32) rfl))) (ty := .long) (by decide)
  have Fstep_a : Fld Z h9 a "com/example/keys_to_bits/keystobits/hash/CellRange$Walk" "step" "J" (.long (0 : Int64)) := D9 (Or.inr (hw _ (List.mem_of_getElem? (i := 34) rfl))) (ty := .long) (by decide)
  have Fvalue_a : Fld Z h9 a "com/example/keys_to_bits/keystobits/hash/CellRange$Walk" "value" "J" (.long (0 : Int64)) := D9 (Or.inl (hw _ (List.mem_of_getElem? (i := 36) rfl))) (ty := .long) (by decide)
  have go9 : ∀ tgt, Steps p.tables e below (T9.setTop (mkF m 36 #[.val (.long p0), .second, .val (.int p1), .val (.long p2), .second, .val (.long p3), .second, .val (.long sz), .second, .val (.ref b), .unset, .unset, .unset, .unset, .unset, .unset, .unset, .unset, .unset, .unset, .unset, .unset, .unset] [(.ref a)])) tgt → Steps p.tables e below E0 tgt := fun tgt kont => go8 tgt (st9 tgt kont)
  have f11 : Exa Z h9 b "com/example/keys_to_bits/keystobits/hash/CellRange" := (EA.ext E9)
  have f12 : Fld Z h9 b "com/example/keys_to_bits/keystobits/hash/CellRange" "size" "J" (.long sz) := (FA1.ext E9)
  have f13 : Fld Z h9 b "com/example/keys_to_bits/keystobits/hash/CellRange" "reciprocal" "J" (.long (own_du (-1 : Int64) sz)) := (FA2.ext E9)
  have go14 : ∀ tgt, Steps p.tables e below (T9.setTop (mkF m 42 #[.val (.long p0), .second, .val (.int p1), .val (.long p2), .second, .val (.long p3), .second, .val (.long sz), .second, .val (.ref b), .unset, .unset, .unset, .unset, .unset, .unset, .unset, .unset, .unset, .unset, .unset, .unset, .unset] [(.long p3), (.long p2), (.ref b), (.ref a), (.ref a)])) tgt → Steps p.tables e below E0 tgt := fun tgt kont => go9 tgt (by
    show Steps p.tables e below (T9.setTop (mkF m 36 #[.val (.long p0), .second, .val (.int p1), .val (.long p2), .second, .val (.long p3), .second, .val (.long sz), .second, .val (.ref b), .unset, .unset, .unset, .unset, .unset, .unset, .unset, .unset, .unset, .unset, .unset, .unset, .unset] [(.ref a)])) tgt
    refine XS.dup X9.here hx rfl (hb hby at_36) rfl rfl ?_
    show Steps p.tables e below (T9.setTop (mkF m 37 #[.val (.long p0), .second, .val (.int p1), .val (.long p2), .second, .val (.long p3), .second, .val (.long sz), .second, .val (.ref b), .unset, .unset, .unset, .unset, .unset, .unset, .unset, .unset, .unset, .unset, .unset, .unset, .unset] [(.ref a), (.ref a)])) tgt
    refine XS.aload X9.here hx rfl (hb hby at_37) rfl rfl ?_
    show Steps p.tables e below (T9.setTop (mkF m 39 #[.val (.long p0), .second, .val (.int p1), .val (.long p2), .second, .val (.long p3), .second, .val (.long sz), .second, .val (.ref b), .unset, .unset, .unset, .unset, .unset, .unset, .unset, .unset, .unset, .unset, .unset, .unset, .unset] [(.ref b), (.ref a), (.ref a)])) tgt
    refine XS.lloadN X9.here hx rfl (hb hby at_39) rfl ?_
    show Steps p.tables e below (T9.setTop (mkF m 40 #[.val (.long p0), .second, .val (.int p1), .val (.long p2), .second, .val (.long p3), .second, .val (.long sz), .second, .val (.ref b), .unset, .unset, .unset, .unset, .unset, .unset, .unset, .unset, .unset, .unset, .unset, .unset, .unset] [(.long p2), (.ref b), (.ref a), (.ref a)])) tgt
    refine XS.lload X9.here hx rfl (hb hby at_40) rfl ?_
    exact kont)
  obtain ⟨_, _, ⟨T15, L15, k15, n15⟩, -, X15, ⟨Lc15, hQ15, l15, y15, z15⟩, st15⟩ := X9.specialBack hx (y := (⟨"com/example/keys_to_bits/keystobits/hash/CellRange$Walk", "<init>", "(Lcom/example/keys_to_bits/keystobits/hash/CellRange;JJ)V"⟩ : MethodName)) rfl hown (mvT hZ (hw _ (List.mem_of_getElem? (i := 23) rfl))) (mvT hZ (hw _ (List.mem_of_getElem? (i := 24) rfl))) (mvT hZ (hw _ (List.mem_of_getElem? (i := 25) rfl))) (by decide) (backOf (W := 1) (rmWI l Z a0 hw [] a b p2 p3 sz (own_du (-1 : Int64) sz) h9 n0 z10 A9 ge_a Fvalue_a Fsize_a Freciprocal_a Fstep_a f11 f12 f13) hZ (hw _ (List.mem_of_getElem? (i := 25) rfl)) (hw _ (List.mem_of_getElem? (i := 22) rfl)) (by decide) (by decide)) (g := (mkF m 42 #[.val (.long p0), .second, .val (.int p1), .val (.long p2), .second, .val (.long p3), .second, .val (.long sz), .second, .val (.ref b), .unset, .unset, .unset, .unset, .unset, .unset, .unset, .unset, .unset, .unset, .unset, .unset, .unset] [(.long p3), (.long p2), (.ref b), (.ref a), (.ref a)])) rfl (by rw [hml]; rfl) (Steps.refl _) (a := a) (argsL := [(.ref b), (.long p2), (.long p3)]) (rest := [(.ref a)]) (lenOf pd_7 rfl) rfl (by show 2 * 0 + _ ≤ _; exact Nat.le_of_eq rfl) (hb hby at_42) (fun _ _ => ⟨rfl, e9, (by decide : 2 + 0 ≤ _), (by decide : 6 + 0 ≤ _)⟩)
  dsimp only [Pt.U, Pt.locs, Pt.cells, Pt.slots] at X15 l15 y15 z15 st15 hQ15
  subst l15 y15 z15
  obtain ⟨rfl, N15q, KB, EB, FB1, FB2, FB3, FB4⟩ := hQ15
  have N15 := Fr.app N6 N15q
  have z16 : n0 ≤ T15.heap.size := Nat.le_trans z10 KB.1
  have go15 : ∀ tgt, Steps p.tables e below (T15.setTop (mkF m 45 #[.val (.long p0), .second, .val (.int p1), .val (.long p2), .second, .val (.long p3), .second, .val (.long sz), .second, .val (.ref b), .unset, .unset, .unset, .unset, .unset, .unset, .unset, .unset, .unset, .unset, .unset, .unset, .unset] [(.ref a)])) tgt → Steps p.tables e below E0 tgt := fun tgt kont => go14 tgt (st15.trans kont)
  have go17 : ∀ tgt, Steps p.tables e below (T15.setTop (mkF m 49 #[.val (.long p0), .second, .val (.int p1), .val (.long p2), .second, .val (.long p3), .second, .val (.long sz), .second, .val (.ref b), .val (.ref a), .unset, .unset, .unset, .unset, .unset, .unset, .unset, .unset, .unset, .unset, .unset, .unset] [(.ref a)])) tgt → Steps p.tables e below E0 tgt := fun tgt kont => go15 tgt (by
    show Steps p.tables e below (T15.setTop (mkF m 45 #[.val (.long p0), .second, .val (.int p1), .val (.long p2), .second, .val (.long p3), .second, .val (.long sz), .second, .val (.ref b), .unset, .unset, .unset, .unset, .unset, .unset, .unset, .unset, .unset, .unset, .unset, .unset, .unset] [(.ref a)])) tgt
    refine XS.astore X15.here hx rfl (hb hby at_45) rfl rfl (l' := #[.val (.long p0), .second, .val (.int p1), .val (.long p2), .second, .val (.long p3), .second, .val (.long sz), .second, .val (.ref b), .val (.ref a), .unset, .unset, .unset, .unset, .unset, .unset, .unset, .unset, .unset, .unset, .unset, .unset]) rfl ?_
    show Steps p.tables e below (T15.setTop (mkF m 47 #[.val (.long p0), .second, .val (.int p1), .val (.long p2), .second, .val (.long p3), .second, .val (.long sz), .second, .val (.ref b), .val (.ref a), .unset, .unset, .unset, .unset, .unset, .unset, .unset, .unset, .unset, .unset, .unset, .unset] [])) tgt
    refine XS.aload X15.here hx rfl (hb hby at_47) rfl rfl ?_
    exact kont)
  obtain ⟨cq18, kq18, q18a, q18b, q18c⟩ := isOf hZ rfl EB
  obtain ⟨_, _, ⟨T18, L18, k18, n18⟩, -, X18, ⟨Lc18, hQ18, l18, y18, z18⟩, st18⟩ := X15.virtualBack hx (y := (⟨"com/example/keys_to_bits/keystobits/hash/CellRange$Walk", "next", "()J"⟩ : MethodName)) (z := (⟨"com/example/keys_to_bits/keystobits/hash/CellRange$Walk", "next", "()J"⟩ : MethodName)) hown (mvT hZ (hw _ (List.mem_of_getElem? (i := 37) rfl))) (mvT hZ (hw _ (List.mem_of_getElem? (i := 38) rfl))) (notFace_of_selects (args := #[]) (mvT hZ (hw _ (List.mem_of_getElem? (i := 40) rfl)))) (mvT hZ (hw _ (List.mem_of_getElem? (i := 40) rfl))) (mvT hZ (hw _ (List.mem_of_getElem? (i := 39) rfl))) (by decide) (backOf (W := 0) (rmNX l Z a0 hw [] a p2 sz (own_du (-1 : Int64) sz) p3 T15.heap n0 z16 EB ge_a FB1 FB2 FB3 FB4) hZ (hw _ (List.mem_of_getElem? (i := 41) rfl)) (hw _ (List.mem_of_getElem? (i := 22) rfl)) (by decide) (by decide)) q18a q18c (g := (mkF m 49 #[.val (.long p0), .second, .val (.int p1), .val (.long p2), .second, .val (.long p3), .second, .val (.long sz), .second, .val (.ref b), .val (.ref a), .unset, .unset, .unset, .unset, .unset, .unset, .unset, .unset, .unset, .unset, .unset, .unset] [(.ref a)])) rfl (by rw [hml]; rfl) (Steps.refl _) (argsL := []) (rest := []) (lenOf pd_8 rfl) rfl (by show 2 * 0 + _ ≤ _; exact Nat.le_of_eq rfl) (hb hby at_49) (fun _ _ => ⟨rfl, rfl, (by decide : 2 + 0 ≤ _), (by decide : 6 + 0 ≤ _)⟩)
  dsimp only [Pt.U, Pt.locs, Pt.cells, Pt.slots] at X18 l18 y18 z18 st18 hQ18
  subst l18 y18 z18
  obtain ⟨rfl, N18q, KC, EC, FC1, FC2, FC3, FC4⟩ := hQ18
  have N18 := Fr.app N15 N18q
  have z19 : n0 ≤ T18.heap.size := Nat.le_trans z16 KC.1
  have go18 : ∀ tgt, Steps p.tables e below (T18.setTop (mkF m 52 #[.val (.long p0), .second, .val (.int p1), .val (.long p2), .second, .val (.long p3), .second, .val (.long sz), .second, .val (.ref b), .val (.ref a), .unset, .unset, .unset, .unset, .unset, .unset, .unset, .unset, .unset, .unset, .unset, .unset] [(.long (own_rd (p2 &&& (9223372036854775807 : Int64)) sz (own_du (-1 : Int64) sz)))])) tgt → Steps p.tables e below E0 tgt := fun tgt kont => go17 tgt (st18.trans kont)
  have go20 : ∀ tgt, Steps p.tables e below (T18.setTop (mkF m 56 #[.val (.long p0), .second, .val (.int p1), .val (.long p2), .second, .val (.long p3), .second, .val (.long sz), .second, .val (.ref b), .val (.ref a), .val (.long (own_rd (p2 &&& (9223372036854775807 : Int64)) sz (own_du (-1 : Int64) sz))), .second, .unset, .unset, .unset, .unset, .unset, .unset, .unset, .unset, .unset, .unset] [(.ref a)])) tgt → Steps p.tables e below E0 tgt := fun tgt kont => go18 tgt (by
    show Steps p.tables e below (T18.setTop (mkF m 52 #[.val (.long p0), .second, .val (.int p1), .val (.long p2), .second, .val (.long p3), .second, .val (.long sz), .second, .val (.ref b), .val (.ref a), .unset, .unset, .unset, .unset, .unset, .unset, .unset, .unset, .unset, .unset, .unset, .unset] [(.long (own_rd (p2 &&& (9223372036854775807 : Int64)) sz (own_du (-1 : Int64) sz)))])) tgt
    refine XS.lstore X18.here hx rfl (hb hby at_52) rfl (l' := #[.val (.long p0), .second, .val (.int p1), .val (.long p2), .second, .val (.long p3), .second, .val (.long sz), .second, .val (.ref b), .val (.ref a), .val (.long (own_rd (p2 &&& (9223372036854775807 : Int64)) sz (own_du (-1 : Int64) sz))), .second, .unset, .unset, .unset, .unset, .unset, .unset, .unset, .unset, .unset, .unset]) rfl ?_
    show Steps p.tables e below (T18.setTop (mkF m 54 #[.val (.long p0), .second, .val (.int p1), .val (.long p2), .second, .val (.long p3), .second, .val (.long sz), .second, .val (.ref b), .val (.ref a), .val (.long (own_rd (p2 &&& (9223372036854775807 : Int64)) sz (own_du (-1 : Int64) sz))), .second, .unset, .unset, .unset, .unset, .unset, .unset, .unset, .unset, .unset, .unset] [])) tgt
    refine XS.aload X18.here hx rfl (hb hby at_54) rfl rfl ?_
    exact kont)
  obtain ⟨cq21, kq21, q21a, q21b, q21c⟩ := isOf hZ rfl EC
  obtain ⟨_, _, ⟨T21, L21, k21, n21⟩, -, X21, ⟨Lc21, hQ21, l21, y21, z21⟩, st21⟩ := X18.virtualBack hx (y := (⟨"com/example/keys_to_bits/keystobits/hash/CellRange$Walk", "next", "()J"⟩ : MethodName)) (z := (⟨"com/example/keys_to_bits/keystobits/hash/CellRange$Walk", "next", "()J"⟩ : MethodName)) hown (mvT hZ (hw _ (List.mem_of_getElem? (i := 37) rfl))) (mvT hZ (hw _ (List.mem_of_getElem? (i := 38) rfl))) (notFace_of_selects (args := #[]) (mvT hZ (hw _ (List.mem_of_getElem? (i := 40) rfl)))) (mvT hZ (hw _ (List.mem_of_getElem? (i := 40) rfl))) (mvT hZ (hw _ (List.mem_of_getElem? (i := 39) rfl))) (by decide) (backOf (W := 0) (rmNX l Z a0 hw [] a (p2 + p3) sz (own_du (-1 : Int64) sz) p3 T18.heap n0 z19 EC ge_a FC1 FC2 FC3 FC4) hZ (hw _ (List.mem_of_getElem? (i := 41) rfl)) (hw _ (List.mem_of_getElem? (i := 22) rfl)) (by decide) (by decide)) q21a q21c (g := (mkF m 56 #[.val (.long p0), .second, .val (.int p1), .val (.long p2), .second, .val (.long p3), .second, .val (.long sz), .second, .val (.ref b), .val (.ref a), .val (.long (own_rd (p2 &&& (9223372036854775807 : Int64)) sz (own_du (-1 : Int64) sz))), .second, .unset, .unset, .unset, .unset, .unset, .unset, .unset, .unset, .unset, .unset] [(.ref a)])) rfl (by rw [hml]; rfl) (Steps.refl _) (argsL := []) (rest := []) (lenOf pd_8 rfl) rfl (by show 2 * 0 + _ ≤ _; exact Nat.le_of_eq rfl) (hb hby at_56) (fun _ _ => ⟨rfl, rfl, (by decide : 2 + 0 ≤ _), (by decide : 6 + 0 ≤ _)⟩)
  dsimp only [Pt.U, Pt.locs, Pt.cells, Pt.slots] at X21 l21 y21 z21 st21 hQ21
  subst l21 y21 z21
  obtain ⟨rfl, N21q, KD, ED, FD1, FD2, FD3, FD4⟩ := hQ21
  have N21 := Fr.app N18 N21q
  have z22 : n0 ≤ T21.heap.size := Nat.le_trans z19 KD.1
  have go21 : ∀ tgt, Steps p.tables e below (T21.setTop (mkF m 59 #[.val (.long p0), .second, .val (.int p1), .val (.long p2), .second, .val (.long p3), .second, .val (.long sz), .second, .val (.ref b), .val (.ref a), .val (.long (own_rd (p2 &&& (9223372036854775807 : Int64)) sz (own_du (-1 : Int64) sz))), .second, .unset, .unset, .unset, .unset, .unset, .unset, .unset, .unset, .unset, .unset] [(.long (own_rd ((p2 + p3) &&& (9223372036854775807 : Int64)) sz (own_du (-1 : Int64) sz)))])) tgt → Steps p.tables e below E0 tgt := fun tgt kont => go20 tgt (st21.trans kont)
  have go23 : ∀ tgt, Steps p.tables e below (T21.setTop (mkF m 63 #[.val (.long p0), .second, .val (.int p1), .val (.long p2), .second, .val (.long p3), .second, .val (.long sz), .second, .val (.ref b), .val (.ref a), .val (.long (own_rd (p2 &&& (9223372036854775807 : Int64)) sz (own_du (-1 : Int64) sz))), .second, .val (.long (own_rd ((p2 + p3) &&& (9223372036854775807 : Int64)) sz (own_du (-1 : Int64) sz))), .second, .unset, .unset, .unset, .unset, .unset, .unset, .unset, .unset] [(.ref a)])) tgt → Steps p.tables e below E0 tgt := fun tgt kont => go21 tgt (by
    show Steps p.tables e below (T21.setTop (mkF m 59 #[.val (.long p0), .second, .val (.int p1), .val (.long p2), .second, .val (.long p3), .second, .val (.long sz), .second, .val (.ref b), .val (.ref a), .val (.long (own_rd (p2 &&& (9223372036854775807 : Int64)) sz (own_du (-1 : Int64) sz))), .second, .unset, .unset, .unset, .unset, .unset, .unset, .unset, .unset, .unset, .unset] [(.long (own_rd ((p2 + p3) &&& (9223372036854775807 : Int64)) sz (own_du (-1 : Int64) sz)))])) tgt
    refine XS.lstore X21.here hx rfl (hb hby at_59) rfl (l' := #[.val (.long p0), .second, .val (.int p1), .val (.long p2), .second, .val (.long p3), .second, .val (.long sz), .second, .val (.ref b), .val (.ref a), .val (.long (own_rd (p2 &&& (9223372036854775807 : Int64)) sz (own_du (-1 : Int64) sz))), .second, .val (.long (own_rd ((p2 + p3) &&& (9223372036854775807 : Int64)) sz (own_du (-1 : Int64) sz))), .second, .unset, .unset, .unset, .unset, .unset, .unset, .unset, .unset]) rfl ?_
    show Steps p.tables e below (T21.setTop (mkF m 61 #[.val (.long p0), .second, .val (.int p1), .val (.long p2), .second, .val (.long p3), .second, .val (.long sz), .second, .val (.ref b), .val (.ref a), .val (.long (own_rd (p2 &&& (9223372036854775807 : Int64)) sz (own_du (-1 : Int64) sz))), .second, .val (.long (own_rd ((p2 + p3) &&& (9223372036854775807 : Int64)) sz (own_du (-1 : Int64) sz))), .second, .unset, .unset, .unset, .unset, .unset, .unset, .unset, .unset] [])) tgt
    refine XS.aload X21.here hx rfl (hb hby at_61) rfl rfl ?_
    exact kont)
  obtain ⟨cq24, kq24, q24a, q24b, q24c⟩ := isOf hZ rfl ED
  obtain ⟨_, _, ⟨T24, L24, k24, n24⟩, -, X24, ⟨Lc24, hQ24, l24, y24, z24⟩, st24⟩ := X21.virtualBack hx (y := (⟨"com/example/keys_to_bits/keystobits/hash/CellRange$Walk", "next", "()J"⟩ : MethodName)) (z := (⟨"com/example/keys_to_bits/keystobits/hash/CellRange$Walk", "next", "()J"⟩ : MethodName)) hown (mvT hZ (hw _ (List.mem_of_getElem? (i := 37) rfl))) (mvT hZ (hw _ (List.mem_of_getElem? (i := 38) rfl))) (notFace_of_selects (args := #[]) (mvT hZ (hw _ (List.mem_of_getElem? (i := 40) rfl)))) (mvT hZ (hw _ (List.mem_of_getElem? (i := 40) rfl))) (mvT hZ (hw _ (List.mem_of_getElem? (i := 39) rfl))) (by decide) (backOf (W := 0) (rmNX l Z a0 hw [] a ((p2 + p3) + p3) sz (own_du (-1 : Int64) sz) p3 T21.heap n0 z22 ED ge_a FD1 FD2 FD3 FD4) hZ (hw _ (List.mem_of_getElem? (i := 41) rfl)) (hw _ (List.mem_of_getElem? (i := 22) rfl)) (by decide) (by decide)) q24a q24c (g := (mkF m 63 #[.val (.long p0), .second, .val (.int p1), .val (.long p2), .second, .val (.long p3), .second, .val (.long sz), .second, .val (.ref b), .val (.ref a), .val (.long (own_rd (p2 &&& (9223372036854775807 : Int64)) sz (own_du (-1 : Int64) sz))), .second, .val (.long (own_rd ((p2 + p3) &&& (9223372036854775807 : Int64)) sz (own_du (-1 : Int64) sz))), .second, .unset, .unset, .unset, .unset, .unset, .unset, .unset, .unset] [(.ref a)])) rfl (by rw [hml]; rfl) (Steps.refl _) (argsL := []) (rest := []) (lenOf pd_8 rfl) rfl (by show 2 * 0 + _ ≤ _; exact Nat.le_of_eq rfl) (hb hby at_63) (fun _ _ => ⟨rfl, rfl, (by decide : 2 + 0 ≤ _), (by decide : 6 + 0 ≤ _)⟩)
  dsimp only [Pt.U, Pt.locs, Pt.cells, Pt.slots] at X24 l24 y24 z24 st24 hQ24
  subst l24 y24 z24
  obtain ⟨rfl, N24q, KE, EE, FE1, FE2, FE3, FE4⟩ := hQ24
  have N24 := Fr.app N21 N24q
  have z25 : n0 ≤ T24.heap.size := Nat.le_trans z22 KE.1
  have go24 : ∀ tgt, Steps p.tables e below (T24.setTop (mkF m 66 #[.val (.long p0), .second, .val (.int p1), .val (.long p2), .second, .val (.long p3), .second, .val (.long sz), .second, .val (.ref b), .val (.ref a), .val (.long (own_rd (p2 &&& (9223372036854775807 : Int64)) sz (own_du (-1 : Int64) sz))), .second, .val (.long (own_rd ((p2 + p3) &&& (9223372036854775807 : Int64)) sz (own_du (-1 : Int64) sz))), .second, .unset, .unset, .unset, .unset, .unset, .unset, .unset, .unset] [(.long (own_rd (((p2 + p3) + p3) &&& (9223372036854775807 : Int64)) sz (own_du (-1 : Int64) sz)))])) tgt → Steps p.tables e below E0 tgt := fun tgt kont => go23 tgt (st24.trans kont)
  have go26 : ∀ tgt, Steps p.tables e below (T24.setTop (mkF m 92 #[.val (.long p0), .second, .val (.int p1), .val (.long p2), .second, .val (.long p3), .second, .val (.long sz), .second, .val (.ref b), .val (.ref a), .val (.long (own_rd (p2 &&& (9223372036854775807 : Int64)) sz (own_du (-1 : Int64) sz))), .second, .val (.long (own_rd ((p2 + p3) &&& (9223372036854775807 : Int64)) sz (own_du (-1 : Int64) sz))), .second, .val (.long (own_rd (((p2 + p3) + p3) &&& (9223372036854775807 : Int64)) sz (own_du (-1 : Int64) sz))), .second, .val (.long p2), .second, .val (.long (p2 + p3)), .second, .val (.long ((p2 + p3) + p3)), .second] [(.long sz), (.long p2), (.long (own_rd (p2 &&& (9223372036854775807 : Int64)) sz (own_du (-1 : Int64) sz)))])) tgt → Steps p.tables e below E0 tgt := fun tgt kont => go24 tgt (by
    show Steps p.tables e below (T24.setTop (mkF m 66 #[.val (.long p0), .second, .val (.int p1), .val (.long p2), .second, .val (.long p3), .second, .val (.long sz), .second, .val (.ref b), .val (.ref a), .val (.long (own_rd (p2 &&& (9223372036854775807 : Int64)) sz (own_du (-1 : Int64) sz))), .second, .val (.long (own_rd ((p2 + p3) &&& (9223372036854775807 : Int64)) sz (own_du (-1 : Int64) sz))), .second, .unset, .unset, .unset, .unset, .unset, .unset, .unset, .unset] [(.long (own_rd (((p2 + p3) + p3) &&& (9223372036854775807 : Int64)) sz (own_du (-1 : Int64) sz)))])) tgt
    refine XS.lstore X24.here hx rfl (hb hby at_66) rfl (l' := #[.val (.long p0), .second, .val (.int p1), .val (.long p2), .second, .val (.long p3), .second, .val (.long sz), .second, .val (.ref b), .val (.ref a), .val (.long (own_rd (p2 &&& (9223372036854775807 : Int64)) sz (own_du (-1 : Int64) sz))), .second, .val (.long (own_rd ((p2 + p3) &&& (9223372036854775807 : Int64)) sz (own_du (-1 : Int64) sz))), .second, .val (.long (own_rd (((p2 + p3) + p3) &&& (9223372036854775807 : Int64)) sz (own_du (-1 : Int64) sz))), .second, .unset, .unset, .unset, .unset, .unset, .unset]) rfl ?_
    show Steps p.tables e below (T24.setTop (mkF m 68 #[.val (.long p0), .second, .val (.int p1), .val (.long p2), .second, .val (.long p3), .second, .val (.long sz), .second, .val (.ref b), .val (.ref a), .val (.long (own_rd (p2 &&& (9223372036854775807 : Int64)) sz (own_du (-1 : Int64) sz))), .second, .val (.long (own_rd ((p2 + p3) &&& (9223372036854775807 : Int64)) sz (own_du (-1 : Int64) sz))), .second, .val (.long (own_rd (((p2 + p3) + p3) &&& (9223372036854775807 : Int64)) sz (own_du (-1 : Int64) sz))), .second, .unset, .unset, .unset, .unset, .unset, .unset] [])) tgt
    refine XS.lloadN X24.here hx rfl (hb hby at_68) rfl ?_
    show Steps p.tables e below (T24.setTop (mkF m 69 #[.val (.long p0), .second, .val (.int p1), .val (.long p2), .second, .val (.long p3), .second, .val (.long sz), .second, .val (.ref b), .val (.ref a), .val (.long (own_rd (p2 &&& (9223372036854775807 : Int64)) sz (own_du (-1 : Int64) sz))), .second, .val (.long (own_rd ((p2 + p3) &&& (9223372036854775807 : Int64)) sz (own_du (-1 : Int64) sz))), .second, .val (.long (own_rd (((p2 + p3) + p3) &&& (9223372036854775807 : Int64)) sz (own_du (-1 : Int64) sz))), .second, .unset, .unset, .unset, .unset, .unset, .unset] [(.long p2)])) tgt
    refine XS.lstore X24.here hx rfl (hb hby at_69) rfl (l' := #[.val (.long p0), .second, .val (.int p1), .val (.long p2), .second, .val (.long p3), .second, .val (.long sz), .second, .val (.ref b), .val (.ref a), .val (.long (own_rd (p2 &&& (9223372036854775807 : Int64)) sz (own_du (-1 : Int64) sz))), .second, .val (.long (own_rd ((p2 + p3) &&& (9223372036854775807 : Int64)) sz (own_du (-1 : Int64) sz))), .second, .val (.long (own_rd (((p2 + p3) + p3) &&& (9223372036854775807 : Int64)) sz (own_du (-1 : Int64) sz))), .second, .val (.long p2), .second, .unset, .unset, .unset, .unset]) rfl ?_
    show Steps p.tables e below (T24.setTop (mkF m 71 #[.val (.long p0), .second, .val (.int p1), .val (.long p2), .second, .val (.long p3), .second, .val (.long sz), .second, .val (.ref b), .val (.ref a), .val (.long (own_rd (p2 &&& (9223372036854775807 : Int64)) sz (own_du (-1 : Int64) sz))), .second, .val (.long (own_rd ((p2 + p3) &&& (9223372036854775807 : Int64)) sz (own_du (-1 : Int64) sz))), .second, .val (.long (own_rd (((p2 + p3) + p3) &&& (9223372036854775807 : Int64)) sz (own_du (-1 : Int64) sz))), .second, .val (.long p2), .second, .unset, .unset, .unset, .unset] [])) tgt
    refine XS.lloadN X24.here hx rfl (hb hby at_71) rfl ?_
    show Steps p.tables e below (T24.setTop (mkF m 72 #[.val (.long p0), .second, .val (.int p1), .val (.long p2), .second, .val (.long p3), .second, .val (.long sz), .second, .val (.ref b), .val (.ref a), .val (.long (own_rd (p2 &&& (9223372036854775807 : Int64)) sz (own_du (-1 : Int64) sz))), .second, .val (.long (own_rd ((p2 + p3) &&& (9223372036854775807 : Int64)) sz (own_du (-1 : Int64) sz))), .second, .val (.long (own_rd (((p2 + p3) + p3) &&& (9223372036854775807 : Int64)) sz (own_du (-1 : Int64) sz))), .second, .val (.long p2), .second, .unset, .unset, .unset, .unset] [(.long p2)])) tgt
    refine XS.lload X24.here hx rfl (hb hby at_72) rfl ?_
    show Steps p.tables e below (T24.setTop (mkF m 74 #[.val (.long p0), .second, .val (.int p1), .val (.long p2), .second, .val (.long p3), .second, .val (.long sz), .second, .val (.ref b), .val (.ref a), .val (.long (own_rd (p2 &&& (9223372036854775807 : Int64)) sz (own_du (-1 : Int64) sz))), .second, .val (.long (own_rd ((p2 + p3) &&& (9223372036854775807 : Int64)) sz (own_du (-1 : Int64) sz))), .second, .val (.long (own_rd (((p2 + p3) + p3) &&& (9223372036854775807 : Int64)) sz (own_du (-1 : Int64) sz))), .second, .val (.long p2), .second, .unset, .unset, .unset, .unset] [(.long p3), (.long p2)])) tgt
    refine XS.ladd X24.here hx rfl (hb hby at_74) rfl ?_
    show Steps p.tables e below (T24.setTop (mkF m 75 #[.val (.long p0), .second, .val (.int p1), .val (.long p2), .second, .val (.long p3), .second, .val (.long sz), .second, .val (.ref b), .val (.ref a), .val (.long (own_rd (p2 &&& (9223372036854775807 : Int64)) sz (own_du (-1 : Int64) sz))), .second, .val (.long (own_rd ((p2 + p3) &&& (9223372036854775807 : Int64)) sz (own_du (-1 : Int64) sz))), .second, .val (.long (own_rd (((p2 + p3) + p3) &&& (9223372036854775807 : Int64)) sz (own_du (-1 : Int64) sz))), .second, .val (.long p2), .second, .unset, .unset, .unset, .unset] [(.long (p2 + p3))])) tgt
    refine XS.lstore X24.here hx rfl (hb hby at_75) rfl (l' := #[.val (.long p0), .second, .val (.int p1), .val (.long p2), .second, .val (.long p3), .second, .val (.long sz), .second, .val (.ref b), .val (.ref a), .val (.long (own_rd (p2 &&& (9223372036854775807 : Int64)) sz (own_du (-1 : Int64) sz))), .second, .val (.long (own_rd ((p2 + p3) &&& (9223372036854775807 : Int64)) sz (own_du (-1 : Int64) sz))), .second, .val (.long (own_rd (((p2 + p3) + p3) &&& (9223372036854775807 : Int64)) sz (own_du (-1 : Int64) sz))), .second, .val (.long p2), .second, .val (.long (p2 + p3)), .second, .unset, .unset]) rfl ?_
    show Steps p.tables e below (T24.setTop (mkF m 77 #[.val (.long p0), .second, .val (.int p1), .val (.long p2), .second, .val (.long p3), .second, .val (.long sz), .second, .val (.ref b), .val (.ref a), .val (.long (own_rd (p2 &&& (9223372036854775807 : Int64)) sz (own_du (-1 : Int64) sz))), .second, .val (.long (own_rd ((p2 + p3) &&& (9223372036854775807 : Int64)) sz (own_du (-1 : Int64) sz))), .second, .val (.long (own_rd (((p2 + p3) + p3) &&& (9223372036854775807 : Int64)) sz (own_du (-1 : Int64) sz))), .second, .val (.long p2), .second, .val (.long (p2 + p3)), .second, .unset, .unset] [])) tgt
    refine XS.lloadN X24.here hx rfl (hb hby at_77) rfl ?_
    show Steps p.tables e below (T24.setTop (mkF m 78 #[.val (.long p0), .second, .val (.int p1), .val (.long p2), .second, .val (.long p3), .second, .val (.long sz), .second, .val (.ref b), .val (.ref a), .val (.long (own_rd (p2 &&& (9223372036854775807 : Int64)) sz (own_du (-1 : Int64) sz))), .second, .val (.long (own_rd ((p2 + p3) &&& (9223372036854775807 : Int64)) sz (own_du (-1 : Int64) sz))), .second, .val (.long (own_rd (((p2 + p3) + p3) &&& (9223372036854775807 : Int64)) sz (own_du (-1 : Int64) sz))), .second, .val (.long p2), .second, .val (.long (p2 + p3)), .second, .unset, .unset] [(.long p2)])) tgt
    refine XS.lload X24.here hx rfl (hb hby at_78) rfl ?_
    show Steps p.tables e below (T24.setTop (mkF m 80 #[.val (.long p0), .second, .val (.int p1), .val (.long p2), .second, .val (.long p3), .second, .val (.long sz), .second, .val (.ref b), .val (.ref a), .val (.long (own_rd (p2 &&& (9223372036854775807 : Int64)) sz (own_du (-1 : Int64) sz))), .second, .val (.long (own_rd ((p2 + p3) &&& (9223372036854775807 : Int64)) sz (own_du (-1 : Int64) sz))), .second, .val (.long (own_rd (((p2 + p3) + p3) &&& (9223372036854775807 : Int64)) sz (own_du (-1 : Int64) sz))), .second, .val (.long p2), .second, .val (.long (p2 + p3)), .second, .unset, .unset] [(.long p3), (.long p2)])) tgt
    refine XS.ladd X24.here hx rfl (hb hby at_80) rfl ?_
    show Steps p.tables e below (T24.setTop (mkF m 81 #[.val (.long p0), .second, .val (.int p1), .val (.long p2), .second, .val (.long p3), .second, .val (.long sz), .second, .val (.ref b), .val (.ref a), .val (.long (own_rd (p2 &&& (9223372036854775807 : Int64)) sz (own_du (-1 : Int64) sz))), .second, .val (.long (own_rd ((p2 + p3) &&& (9223372036854775807 : Int64)) sz (own_du (-1 : Int64) sz))), .second, .val (.long (own_rd (((p2 + p3) + p3) &&& (9223372036854775807 : Int64)) sz (own_du (-1 : Int64) sz))), .second, .val (.long p2), .second, .val (.long (p2 + p3)), .second, .unset, .unset] [(.long (p2 + p3))])) tgt
    refine XS.lload X24.here hx rfl (hb hby at_81) rfl ?_
    show Steps p.tables e below (T24.setTop (mkF m 83 #[.val (.long p0), .second, .val (.int p1), .val (.long p2), .second, .val (.long p3), .second, .val (.long sz), .second, .val (.ref b), .val (.ref a), .val (.long (own_rd (p2 &&& (9223372036854775807 : Int64)) sz (own_du (-1 : Int64) sz))), .second, .val (.long (own_rd ((p2 + p3) &&& (9223372036854775807 : Int64)) sz (own_du (-1 : Int64) sz))), .second, .val (.long (own_rd (((p2 + p3) + p3) &&& (9223372036854775807 : Int64)) sz (own_du (-1 : Int64) sz))), .second, .val (.long p2), .second, .val (.long (p2 + p3)), .second, .unset, .unset] [(.long p3), (.long (p2 + p3))])) tgt
    refine XS.ladd X24.here hx rfl (hb hby at_83) rfl ?_
    show Steps p.tables e below (T24.setTop (mkF m 84 #[.val (.long p0), .second, .val (.int p1), .val (.long p2), .second, .val (.long p3), .second, .val (.long sz), .second, .val (.ref b), .val (.ref a), .val (.long (own_rd (p2 &&& (9223372036854775807 : Int64)) sz (own_du (-1 : Int64) sz))), .second, .val (.long (own_rd ((p2 + p3) &&& (9223372036854775807 : Int64)) sz (own_du (-1 : Int64) sz))), .second, .val (.long (own_rd (((p2 + p3) + p3) &&& (9223372036854775807 : Int64)) sz (own_du (-1 : Int64) sz))), .second, .val (.long p2), .second, .val (.long (p2 + p3)), .second, .unset, .unset] [(.long ((p2 + p3) + p3))])) tgt
    refine XS.lstore X24.here hx rfl (hb hby at_84) rfl (l' := #[.val (.long p0), .second, .val (.int p1), .val (.long p2), .second, .val (.long p3), .second, .val (.long sz), .second, .val (.ref b), .val (.ref a), .val (.long (own_rd (p2 &&& (9223372036854775807 : Int64)) sz (own_du (-1 : Int64) sz))), .second, .val (.long (own_rd ((p2 + p3) &&& (9223372036854775807 : Int64)) sz (own_du (-1 : Int64) sz))), .second, .val (.long (own_rd (((p2 + p3) + p3) &&& (9223372036854775807 : Int64)) sz (own_du (-1 : Int64) sz))), .second, .val (.long p2), .second, .val (.long (p2 + p3)), .second, .val (.long ((p2 + p3) + p3)), .second]) rfl ?_
    show Steps p.tables e below (T24.setTop (mkF m 86 #[.val (.long p0), .second, .val (.int p1), .val (.long p2), .second, .val (.long p3), .second, .val (.long sz), .second, .val (.ref b), .val (.ref a), .val (.long (own_rd (p2 &&& (9223372036854775807 : Int64)) sz (own_du (-1 : Int64) sz))), .second, .val (.long (own_rd ((p2 + p3) &&& (9223372036854775807 : Int64)) sz (own_du (-1 : Int64) sz))), .second, .val (.long (own_rd (((p2 + p3) + p3) &&& (9223372036854775807 : Int64)) sz (own_du (-1 : Int64) sz))), .second, .val (.long p2), .second, .val (.long (p2 + p3)), .second, .val (.long ((p2 + p3) + p3)), .second] [])) tgt
    refine XS.lload X24.here hx rfl (hb hby at_86) rfl ?_
    show Steps p.tables e below (T24.setTop (mkF m 88 #[.val (.long p0), .second, .val (.int p1), .val (.long p2), .second, .val (.long p3), .second, .val (.long sz), .second, .val (.ref b), .val (.ref a), .val (.long (own_rd (p2 &&& (9223372036854775807 : Int64)) sz (own_du (-1 : Int64) sz))), .second, .val (.long (own_rd ((p2 + p3) &&& (9223372036854775807 : Int64)) sz (own_du (-1 : Int64) sz))), .second, .val (.long (own_rd (((p2 + p3) + p3) &&& (9223372036854775807 : Int64)) sz (own_du (-1 : Int64) sz))), .second, .val (.long p2), .second, .val (.long (p2 + p3)), .second, .val (.long ((p2 + p3) + p3)), .second] [(.long (own_rd (p2 &&& (9223372036854775807 : Int64)) sz (own_du (-1 : Int64) sz)))])) tgt
    refine XS.lload X24.here hx rfl (hb hby at_88) rfl ?_
    show Steps p.tables e below (T24.setTop (mkF m 90 #[.val (.long p0), .second, .val (.int p1), .val (.long p2), .second, .val (.long p3), .second, .val (.long sz), .second, .val (.ref b), .val (.ref a), .val (.long (own_rd (p2 &&& (9223372036854775807 : Int64)) sz (own_du (-1 : Int64) sz))), .second, .val (.long (own_rd ((p2 + p3) &&& (9223372036854775807 : Int64)) sz (own_du (-1 : Int64) sz))), .second, .val (.long (own_rd (((p2 + p3) + p3) &&& (9223372036854775807 : Int64)) sz (own_du (-1 : Int64) sz))), .second, .val (.long p2), .second, .val (.long (p2 + p3)), .second, .val (.long ((p2 + p3) + p3)), .second] [(.long p2), (.long (own_rd (p2 &&& (9223372036854775807 : Int64)) sz (own_du (-1 : Int64) sz)))])) tgt
    refine XS.lload X24.here hx rfl (hb hby at_90) rfl ?_
    exact kont)
  obtain ⟨_, _, ⟨T27, L27, k27, n27⟩, -, X27, ⟨Lc27, hQ27, l27, y27, z27⟩, st27⟩ := Jvm.LawKit.callS X24 hx (y := (⟨"com/example/keys_to_bits/keystobits/hash/WalkNextPinLaw", "ref", "(JJ)J"⟩ : MethodName)) hown (mvT hZ (hw _ (List.mem_of_getElem? (i := 51) rfl))) (mvT hZ (hw _ (List.mem_of_getElem? (i := 52) rfl))) (mvT hZ (hw _ (List.mem_of_getElem? (i := 53) rfl))) (mvT hZ (hw _ (List.mem_of_getElem? (i := 54) rfl))) (by decide) (backOf (W := 2) (rmRF l Z a0 hw [] p2 sz T24.heap n0 z25 hnz) hZ (hw _ (List.mem_of_getElem? (i := 54) rfl)) (hw _ (List.mem_of_getElem? (i := 53) rfl)) (by decide) (by decide)) (g := (mkF m 92 #[.val (.long p0), .second, .val (.int p1), .val (.long p2), .second, .val (.long p3), .second, .val (.long sz), .second, .val (.ref b), .val (.ref a), .val (.long (own_rd (p2 &&& (9223372036854775807 : Int64)) sz (own_du (-1 : Int64) sz))), .second, .val (.long (own_rd ((p2 + p3) &&& (9223372036854775807 : Int64)) sz (own_du (-1 : Int64) sz))), .second, .val (.long (own_rd (((p2 + p3) + p3) &&& (9223372036854775807 : Int64)) sz (own_du (-1 : Int64) sz))), .second, .val (.long p2), .second, .val (.long (p2 + p3)), .second, .val (.long ((p2 + p3) + p3)), .second] [(.long sz), (.long p2), (.long (own_rd (p2 &&& (9223372036854775807 : Int64)) sz (own_du (-1 : Int64) sz)))])) rfl (by rw [hml]; rfl) (argsL := [(.long p2), (.long sz)]) (rest := [(.long (own_rd (p2 &&& (9223372036854775807 : Int64)) sz (own_du (-1 : Int64) sz)))]) (lenOf pd_2 rfl) rfl (by show 2 * 0 + _ ≤ _; exact Nat.le_of_eq rfl) (hb hby at_92) (fun _ _ => ⟨rfl, rfl, (by decide : 2 + 0 ≤ _), (by decide : 6 + 0 ≤ _)⟩)
  dsimp only [Pt.U, Pt.locs, Pt.cells, Pt.slots] at X27 l27 y27 z27 st27 hQ27
  subst l27 y27 z27
  obtain ⟨rfl, N27q, e27⟩ := hQ27
  have N27 := Fr.app N24 N27q
  have go27 : ∀ tgt, Steps p.tables e below (T27.setTop (mkF m 95 #[.val (.long p0), .second, .val (.int p1), .val (.long p2), .second, .val (.long p3), .second, .val (.long sz), .second, .val (.ref b), .val (.ref a), .val (.long (own_rd (p2 &&& (9223372036854775807 : Int64)) sz (own_du (-1 : Int64) sz))), .second, .val (.long (own_rd ((p2 + p3) &&& (9223372036854775807 : Int64)) sz (own_du (-1 : Int64) sz))), .second, .val (.long (own_rd (((p2 + p3) + p3) &&& (9223372036854775807 : Int64)) sz (own_du (-1 : Int64) sz))), .second, .val (.long p2), .second, .val (.long (p2 + p3)), .second, .val (.long ((p2 + p3) + p3)), .second] [(.long (own_rf p2 sz)), (.long (own_rd (p2 &&& (9223372036854775807 : Int64)) sz (own_du (-1 : Int64) sz)))])) tgt → Steps p.tables e below E0 tgt := fun tgt kont => go26 tgt (st27 tgt kont)
  have go28 : ∀ tgt, Steps p.tables e below (T27.setTop (mkF m 105 #[.val (.long p0), .second, .val (.int p1), .val (.long p2), .second, .val (.long p3), .second, .val (.long sz), .second, .val (.ref b), .val (.ref a), .val (.long (own_rd (p2 &&& (9223372036854775807 : Int64)) sz (own_du (-1 : Int64) sz))), .second, .val (.long (own_rd ((p2 + p3) &&& (9223372036854775807 : Int64)) sz (own_du (-1 : Int64) sz))), .second, .val (.long (own_rd (((p2 + p3) + p3) &&& (9223372036854775807 : Int64)) sz (own_du (-1 : Int64) sz))), .second, .val (.long p2), .second, .val (.long (p2 + p3)), .second, .val (.long ((p2 + p3) + p3)), .second] [(.long sz), (.long (p2 + p3)), (.long (own_rd ((p2 + p3) &&& (9223372036854775807 : Int64)) sz (own_du (-1 : Int64) sz)))])) tgt → Steps p.tables e below E0 tgt := fun tgt kont => go27 tgt (by
    show Steps p.tables e below (T27.setTop (mkF m 95 #[.val (.long p0), .second, .val (.int p1), .val (.long p2), .second, .val (.long p3), .second, .val (.long sz), .second, .val (.ref b), .val (.ref a), .val (.long (own_rd (p2 &&& (9223372036854775807 : Int64)) sz (own_du (-1 : Int64) sz))), .second, .val (.long (own_rd ((p2 + p3) &&& (9223372036854775807 : Int64)) sz (own_du (-1 : Int64) sz))), .second, .val (.long (own_rd (((p2 + p3) + p3) &&& (9223372036854775807 : Int64)) sz (own_du (-1 : Int64) sz))), .second, .val (.long p2), .second, .val (.long (p2 + p3)), .second, .val (.long ((p2 + p3) + p3)), .second] [(.long (own_rf p2 sz)), (.long (own_rd (p2 &&& (9223372036854775807 : Int64)) sz (own_du (-1 : Int64) sz)))])) tgt
    refine XS.lcmp X27.here hx rfl (hb hby at_95) rfl ?_
    show Steps p.tables e below (T27.setTop (mkF m 96 #[.val (.long p0), .second, .val (.int p1), .val (.long p2), .second, .val (.long p3), .second, .val (.long sz), .second, .val (.ref b), .val (.ref a), .val (.long (own_rd (p2 &&& (9223372036854775807 : Int64)) sz (own_du (-1 : Int64) sz))), .second, .val (.long (own_rd ((p2 + p3) &&& (9223372036854775807 : Int64)) sz (own_du (-1 : Int64) sz))), .second, .val (.long (own_rd (((p2 + p3) + p3) &&& (9223372036854775807 : Int64)) sz (own_du (-1 : Int64) sz))), .second, .val (.long p2), .second, .val (.long (p2 + p3)), .second, .val (.long ((p2 + p3) + p3)), .second] [(.int (lcmpW (own_rd (p2 &&& (9223372036854775807 : Int64)) sz (own_du (-1 : Int64) sz)) (own_rf p2 sz)))])) tgt
    refine XS.ifNo X27.here hx rfl (hb hby at_96) rfl ((if0 _ _).trans (teq ((lw_eq _ _).mpr (own_main p2 hpos))).2) ?_
    show Steps p.tables e below (T27.setTop (mkF m 99 #[.val (.long p0), .second, .val (.int p1), .val (.long p2), .second, .val (.long p3), .second, .val (.long sz), .second, .val (.ref b), .val (.ref a), .val (.long (own_rd (p2 &&& (9223372036854775807 : Int64)) sz (own_du (-1 : Int64) sz))), .second, .val (.long (own_rd ((p2 + p3) &&& (9223372036854775807 : Int64)) sz (own_du (-1 : Int64) sz))), .second, .val (.long (own_rd (((p2 + p3) + p3) &&& (9223372036854775807 : Int64)) sz (own_du (-1 : Int64) sz))), .second, .val (.long p2), .second, .val (.long (p2 + p3)), .second, .val (.long ((p2 + p3) + p3)), .second] [])) tgt
    refine XS.lload X27.here hx rfl (hb hby at_99) rfl ?_
    show Steps p.tables e below (T27.setTop (mkF m 101 #[.val (.long p0), .second, .val (.int p1), .val (.long p2), .second, .val (.long p3), .second, .val (.long sz), .second, .val (.ref b), .val (.ref a), .val (.long (own_rd (p2 &&& (9223372036854775807 : Int64)) sz (own_du (-1 : Int64) sz))), .second, .val (.long (own_rd ((p2 + p3) &&& (9223372036854775807 : Int64)) sz (own_du (-1 : Int64) sz))), .second, .val (.long (own_rd (((p2 + p3) + p3) &&& (9223372036854775807 : Int64)) sz (own_du (-1 : Int64) sz))), .second, .val (.long p2), .second, .val (.long (p2 + p3)), .second, .val (.long ((p2 + p3) + p3)), .second] [(.long (own_rd ((p2 + p3) &&& (9223372036854775807 : Int64)) sz (own_du (-1 : Int64) sz)))])) tgt
    refine XS.lload X27.here hx rfl (hb hby at_101) rfl ?_
    show Steps p.tables e below (T27.setTop (mkF m 103 #[.val (.long p0), .second, .val (.int p1), .val (.long p2), .second, .val (.long p3), .second, .val (.long sz), .second, .val (.ref b), .val (.ref a), .val (.long (own_rd (p2 &&& (9223372036854775807 : Int64)) sz (own_du (-1 : Int64) sz))), .second, .val (.long (own_rd ((p2 + p3) &&& (9223372036854775807 : Int64)) sz (own_du (-1 : Int64) sz))), .second, .val (.long (own_rd (((p2 + p3) + p3) &&& (9223372036854775807 : Int64)) sz (own_du (-1 : Int64) sz))), .second, .val (.long p2), .second, .val (.long (p2 + p3)), .second, .val (.long ((p2 + p3) + p3)), .second] [(.long (p2 + p3)), (.long (own_rd ((p2 + p3) &&& (9223372036854775807 : Int64)) sz (own_du (-1 : Int64) sz)))])) tgt
    refine XS.lload X27.here hx rfl (hb hby at_103) rfl ?_
    exact kont)
  obtain ⟨_, _, ⟨T29, L29, k29, n29⟩, -, X29, ⟨Lc29, hQ29, l29, y29, z29⟩, st29⟩ := Jvm.LawKit.callS X27 hx (y := (⟨"com/example/keys_to_bits/keystobits/hash/WalkNextPinLaw", "ref", "(JJ)J"⟩ : MethodName)) hown (mvT hZ (hw _ (List.mem_of_getElem? (i := 51) rfl))) (mvT hZ (hw _ (List.mem_of_getElem? (i := 52) rfl))) (mvT hZ (hw _ (List.mem_of_getElem? (i := 53) rfl))) (mvT hZ (hw _ (List.mem_of_getElem? (i := 54) rfl))) (by decide) (backOf (W := 2) (rmRF l Z a0 hw [] (p2 + p3) sz T24.heap n0 z25 hnz) hZ (hw _ (List.mem_of_getElem? (i := 54) rfl)) (hw _ (List.mem_of_getElem? (i := 53) rfl)) (by decide) (by decide)) (g := (mkF m 105 #[.val (.long p0), .second, .val (.int p1), .val (.long p2), .second, .val (.long p3), .second, .val (.long sz), .second, .val (.ref b), .val (.ref a), .val (.long (own_rd (p2 &&& (9223372036854775807 : Int64)) sz (own_du (-1 : Int64) sz))), .second, .val (.long (own_rd ((p2 + p3) &&& (9223372036854775807 : Int64)) sz (own_du (-1 : Int64) sz))), .second, .val (.long (own_rd (((p2 + p3) + p3) &&& (9223372036854775807 : Int64)) sz (own_du (-1 : Int64) sz))), .second, .val (.long p2), .second, .val (.long (p2 + p3)), .second, .val (.long ((p2 + p3) + p3)), .second] [(.long sz), (.long (p2 + p3)), (.long (own_rd ((p2 + p3) &&& (9223372036854775807 : Int64)) sz (own_du (-1 : Int64) sz)))])) rfl (by rw [hml]; rfl) (argsL := [(.long (p2 + p3)), (.long sz)]) (rest := [(.long (own_rd ((p2 + p3) &&& (9223372036854775807 : Int64)) sz (own_du (-1 : Int64) sz)))]) (lenOf pd_2 rfl) rfl (by show 2 * 0 + _ ≤ _; exact Nat.le_of_eq rfl) (hb hby at_105) (fun _ _ => ⟨rfl, e27, (by decide : 2 + 0 ≤ _), (by decide : 6 + 0 ≤ _)⟩)
  dsimp only [Pt.U, Pt.locs, Pt.cells, Pt.slots] at X29 l29 y29 z29 st29 hQ29
  subst l29 y29 z29
  obtain ⟨rfl, N29q, e29⟩ := hQ29
  have N29 := Fr.app N27 N29q
  have go29 : ∀ tgt, Steps p.tables e below (T29.setTop (mkF m 108 #[.val (.long p0), .second, .val (.int p1), .val (.long p2), .second, .val (.long p3), .second, .val (.long sz), .second, .val (.ref b), .val (.ref a), .val (.long (own_rd (p2 &&& (9223372036854775807 : Int64)) sz (own_du (-1 : Int64) sz))), .second, .val (.long (own_rd ((p2 + p3) &&& (9223372036854775807 : Int64)) sz (own_du (-1 : Int64) sz))), .second, .val (.long (own_rd (((p2 + p3) + p3) &&& (9223372036854775807 : Int64)) sz (own_du (-1 : Int64) sz))), .second, .val (.long p2), .second, .val (.long (p2 + p3)), .second, .val (.long ((p2 + p3) + p3)), .second] [(.long (own_rf (p2 + p3) sz)), (.long (own_rd ((p2 + p3) &&& (9223372036854775807 : Int64)) sz (own_du (-1 : Int64) sz)))])) tgt → Steps p.tables e below E0 tgt := fun tgt kont => go28 tgt (st29 tgt kont)
  have go30 : ∀ tgt, Steps p.tables e below (T29.setTop (mkF m 118 #[.val (.long p0), .second, .val (.int p1), .val (.long p2), .second, .val (.long p3), .second, .val (.long sz), .second, .val (.ref b), .val (.ref a), .val (.long (own_rd (p2 &&& (9223372036854775807 : Int64)) sz (own_du (-1 : Int64) sz))), .second, .val (.long (own_rd ((p2 + p3) &&& (9223372036854775807 : Int64)) sz (own_du (-1 : Int64) sz))), .second, .val (.long (own_rd (((p2 + p3) + p3) &&& (9223372036854775807 : Int64)) sz (own_du (-1 : Int64) sz))), .second, .val (.long p2), .second, .val (.long (p2 + p3)), .second, .val (.long ((p2 + p3) + p3)), .second] [(.long sz), (.long ((p2 + p3) + p3)), (.long (own_rd (((p2 + p3) + p3) &&& (9223372036854775807 : Int64)) sz (own_du (-1 : Int64) sz)))])) tgt → Steps p.tables e below E0 tgt := fun tgt kont => go29 tgt (by
    show Steps p.tables e below (T29.setTop (mkF m 108 #[.val (.long p0), .second, .val (.int p1), .val (.long p2), .second, .val (.long p3), .second, .val (.long sz), .second, .val (.ref b), .val (.ref a), .val (.long (own_rd (p2 &&& (9223372036854775807 : Int64)) sz (own_du (-1 : Int64) sz))), .second, .val (.long (own_rd ((p2 + p3) &&& (9223372036854775807 : Int64)) sz (own_du (-1 : Int64) sz))), .second, .val (.long (own_rd (((p2 + p3) + p3) &&& (9223372036854775807 : Int64)) sz (own_du (-1 : Int64) sz))), .second, .val (.long p2), .second, .val (.long (p2 + p3)), .second, .val (.long ((p2 + p3) + p3)), .second] [(.long (own_rf (p2 + p3) sz)), (.long (own_rd ((p2 + p3) &&& (9223372036854775807 : Int64)) sz (own_du (-1 : Int64) sz)))])) tgt
    refine XS.lcmp X29.here hx rfl (hb hby at_108) rfl ?_
    show Steps p.tables e below (T29.setTop (mkF m 109 #[.val (.long p0), .second, .val (.int p1), .val (.long p2), .second, .val (.long p3), .second, .val (.long sz), .second, .val (.ref b), .val (.ref a), .val (.long (own_rd (p2 &&& (9223372036854775807 : Int64)) sz (own_du (-1 : Int64) sz))), .second, .val (.long (own_rd ((p2 + p3) &&& (9223372036854775807 : Int64)) sz (own_du (-1 : Int64) sz))), .second, .val (.long (own_rd (((p2 + p3) + p3) &&& (9223372036854775807 : Int64)) sz (own_du (-1 : Int64) sz))), .second, .val (.long p2), .second, .val (.long (p2 + p3)), .second, .val (.long ((p2 + p3) + p3)), .second] [(.int (lcmpW (own_rd ((p2 + p3) &&& (9223372036854775807 : Int64)) sz (own_du (-1 : Int64) sz)) (own_rf (p2 + p3) sz)))])) tgt
    refine XS.ifNo X29.here hx rfl (hb hby at_109) rfl ((if0 _ _).trans (teq ((lw_eq _ _).mpr (own_main (p2 + p3) hpos))).2) ?_
    show Steps p.tables e below (T29.setTop (mkF m 112 #[.val (.long p0), .second, .val (.int p1), .val (.long p2), .second, .val (.long p3), .second, .val (.long sz), .second, .val (.ref b), .val (.ref a), .val (.long (own_rd (p2 &&& (9223372036854775807 : Int64)) sz (own_du (-1 : Int64) sz))), .second, .val (.long (own_rd ((p2 + p3) &&& (9223372036854775807 : Int64)) sz (own_du (-1 : Int64) sz))), .second, .val (.long (own_rd (((p2 + p3) + p3) &&& (9223372036854775807 : Int64)) sz (own_du (-1 : Int64) sz))), .second, .val (.long p2), .second, .val (.long (p2 + p3)), .second, .val (.long ((p2 + p3) + p3)), .second] [])) tgt
    refine XS.lload X29.here hx rfl (hb hby at_112) rfl ?_
    show Steps p.tables e below (T29.setTop (mkF m 114 #[.val (.long p0), .second, .val (.int p1), .val (.long p2), .second, .val (.long p3), .second, .val (.long sz), .second, .val (.ref b), .val (.ref a), .val (.long (own_rd (p2 &&& (9223372036854775807 : Int64)) sz (own_du (-1 : Int64) sz))), .second, .val (.long (own_rd ((p2 + p3) &&& (9223372036854775807 : Int64)) sz (own_du (-1 : Int64) sz))), .second, .val (.long (own_rd (((p2 + p3) + p3) &&& (9223372036854775807 : Int64)) sz (own_du (-1 : Int64) sz))), .second, .val (.long p2), .second, .val (.long (p2 + p3)), .second, .val (.long ((p2 + p3) + p3)), .second] [(.long (own_rd (((p2 + p3) + p3) &&& (9223372036854775807 : Int64)) sz (own_du (-1 : Int64) sz)))])) tgt
    refine XS.lload X29.here hx rfl (hb hby at_114) rfl ?_
    show Steps p.tables e below (T29.setTop (mkF m 116 #[.val (.long p0), .second, .val (.int p1), .val (.long p2), .second, .val (.long p3), .second, .val (.long sz), .second, .val (.ref b), .val (.ref a), .val (.long (own_rd (p2 &&& (9223372036854775807 : Int64)) sz (own_du (-1 : Int64) sz))), .second, .val (.long (own_rd ((p2 + p3) &&& (9223372036854775807 : Int64)) sz (own_du (-1 : Int64) sz))), .second, .val (.long (own_rd (((p2 + p3) + p3) &&& (9223372036854775807 : Int64)) sz (own_du (-1 : Int64) sz))), .second, .val (.long p2), .second, .val (.long (p2 + p3)), .second, .val (.long ((p2 + p3) + p3)), .second] [(.long ((p2 + p3) + p3)), (.long (own_rd (((p2 + p3) + p3) &&& (9223372036854775807 : Int64)) sz (own_du (-1 : Int64) sz)))])) tgt
    refine XS.lload X29.here hx rfl (hb hby at_116) rfl ?_
    exact kont)
  obtain ⟨_, _, ⟨T31, L31, k31, n31⟩, -, X31, ⟨Lc31, hQ31, l31, y31, z31⟩, st31⟩ := Jvm.LawKit.callS X29 hx (y := (⟨"com/example/keys_to_bits/keystobits/hash/WalkNextPinLaw", "ref", "(JJ)J"⟩ : MethodName)) hown (mvT hZ (hw _ (List.mem_of_getElem? (i := 51) rfl))) (mvT hZ (hw _ (List.mem_of_getElem? (i := 52) rfl))) (mvT hZ (hw _ (List.mem_of_getElem? (i := 53) rfl))) (mvT hZ (hw _ (List.mem_of_getElem? (i := 54) rfl))) (by decide) (backOf (W := 2) (rmRF l Z a0 hw [] ((p2 + p3) + p3) sz T24.heap n0 z25 hnz) hZ (hw _ (List.mem_of_getElem? (i := 54) rfl)) (hw _ (List.mem_of_getElem? (i := 53) rfl)) (by decide) (by decide)) (g := (mkF m 118 #[.val (.long p0), .second, .val (.int p1), .val (.long p2), .second, .val (.long p3), .second, .val (.long sz), .second, .val (.ref b), .val (.ref a), .val (.long (own_rd (p2 &&& (9223372036854775807 : Int64)) sz (own_du (-1 : Int64) sz))), .second, .val (.long (own_rd ((p2 + p3) &&& (9223372036854775807 : Int64)) sz (own_du (-1 : Int64) sz))), .second, .val (.long (own_rd (((p2 + p3) + p3) &&& (9223372036854775807 : Int64)) sz (own_du (-1 : Int64) sz))), .second, .val (.long p2), .second, .val (.long (p2 + p3)), .second, .val (.long ((p2 + p3) + p3)), .second] [(.long sz), (.long ((p2 + p3) + p3)), (.long (own_rd (((p2 + p3) + p3) &&& (9223372036854775807 : Int64)) sz (own_du (-1 : Int64) sz)))])) rfl (by rw [hml]; rfl) (argsL := [(.long ((p2 + p3) + p3)), (.long sz)]) (rest := [(.long (own_rd (((p2 + p3) + p3) &&& (9223372036854775807 : Int64)) sz (own_du (-1 : Int64) sz)))]) (lenOf pd_2 rfl) rfl (by show 2 * 0 + _ ≤ _; exact Nat.le_of_eq rfl) (hb hby at_118) (fun _ _ => ⟨rfl, e29, (by decide : 2 + 0 ≤ _), (by decide : 6 + 0 ≤ _)⟩)
  dsimp only [Pt.U, Pt.locs, Pt.cells, Pt.slots] at X31 l31 y31 z31 st31 hQ31
  subst l31 y31 z31
  obtain ⟨rfl, N31q, e31⟩ := hQ31
  have N31 := Fr.app N29 N31q
  have go31 : ∀ tgt, Steps p.tables e below (T31.setTop (mkF m 121 #[.val (.long p0), .second, .val (.int p1), .val (.long p2), .second, .val (.long p3), .second, .val (.long sz), .second, .val (.ref b), .val (.ref a), .val (.long (own_rd (p2 &&& (9223372036854775807 : Int64)) sz (own_du (-1 : Int64) sz))), .second, .val (.long (own_rd ((p2 + p3) &&& (9223372036854775807 : Int64)) sz (own_du (-1 : Int64) sz))), .second, .val (.long (own_rd (((p2 + p3) + p3) &&& (9223372036854775807 : Int64)) sz (own_du (-1 : Int64) sz))), .second, .val (.long p2), .second, .val (.long (p2 + p3)), .second, .val (.long ((p2 + p3) + p3)), .second] [(.long (own_rf ((p2 + p3) + p3) sz)), (.long (own_rd (((p2 + p3) + p3) &&& (9223372036854775807 : Int64)) sz (own_du (-1 : Int64) sz)))])) tgt → Steps p.tables e below E0 tgt := fun tgt kont => go30 tgt (st31 tgt kont)
  have go32 : ∀ tgt, Steps p.tables e below (T31.setTop (mkF m 130 #[.val (.long p0), .second, .val (.int p1), .val (.long p2), .second, .val (.long p3), .second, .val (.long sz), .second, .val (.ref b), .val (.ref a), .val (.long (own_rd (p2 &&& (9223372036854775807 : Int64)) sz (own_du (-1 : Int64) sz))), .second, .val (.long (own_rd ((p2 + p3) &&& (9223372036854775807 : Int64)) sz (own_du (-1 : Int64) sz))), .second, .val (.long (own_rd (((p2 + p3) + p3) &&& (9223372036854775807 : Int64)) sz (own_du (-1 : Int64) sz))), .second, .val (.long p2), .second, .val (.long (p2 + p3)), .second, .val (.long ((p2 + p3) + p3)), .second] [(.int (1 : Int32))])) tgt → Steps p.tables e below E0 tgt := fun tgt kont => go31 tgt (by
    show Steps p.tables e below (T31.setTop (mkF m 121 #[.val (.long p0), .second, .val (.int p1), .val (.long p2), .second, .val (.long p3), .second, .val (.long sz), .second, .val (.ref b), .val (.ref a), .val (.long (own_rd (p2 &&& (9223372036854775807 : Int64)) sz (own_du (-1 : Int64) sz))), .second, .val (.long (own_rd ((p2 + p3) &&& (9223372036854775807 : Int64)) sz (own_du (-1 : Int64) sz))), .second, .val (.long (own_rd (((p2 + p3) + p3) &&& (9223372036854775807 : Int64)) sz (own_du (-1 : Int64) sz))), .second, .val (.long p2), .second, .val (.long (p2 + p3)), .second, .val (.long ((p2 + p3) + p3)), .second] [(.long (own_rf ((p2 + p3) + p3) sz)), (.long (own_rd (((p2 + p3) + p3) &&& (9223372036854775807 : Int64)) sz (own_du (-1 : Int64) sz)))])) tgt
    refine XS.lcmp X31.here hx rfl (hb hby at_121) rfl ?_
    show Steps p.tables e below (T31.setTop (mkF m 122 #[.val (.long p0), .second, .val (.int p1), .val (.long p2), .second, .val (.long p3), .second, .val (.long sz), .second, .val (.ref b), .val (.ref a), .val (.long (own_rd (p2 &&& (9223372036854775807 : Int64)) sz (own_du (-1 : Int64) sz))), .second, .val (.long (own_rd ((p2 + p3) &&& (9223372036854775807 : Int64)) sz (own_du (-1 : Int64) sz))), .second, .val (.long (own_rd (((p2 + p3) + p3) &&& (9223372036854775807 : Int64)) sz (own_du (-1 : Int64) sz))), .second, .val (.long p2), .second, .val (.long (p2 + p3)), .second, .val (.long ((p2 + p3) + p3)), .second] [(.int (lcmpW (own_rd (((p2 + p3) + p3) &&& (9223372036854775807 : Int64)) sz (own_du (-1 : Int64) sz)) (own_rf ((p2 + p3) + p3) sz)))])) tgt
    refine XS.ifNo X31.here hx rfl (hb hby at_122) rfl ((if0 _ _).trans (teq ((lw_eq _ _).mpr (own_main ((p2 + p3) + p3) hpos))).2) ?_
    show Steps p.tables e below (T31.setTop (mkF m 125 #[.val (.long p0), .second, .val (.int p1), .val (.long p2), .second, .val (.long p3), .second, .val (.long sz), .second, .val (.ref b), .val (.ref a), .val (.long (own_rd (p2 &&& (9223372036854775807 : Int64)) sz (own_du (-1 : Int64) sz))), .second, .val (.long (own_rd ((p2 + p3) &&& (9223372036854775807 : Int64)) sz (own_du (-1 : Int64) sz))), .second, .val (.long (own_rd (((p2 + p3) + p3) &&& (9223372036854775807 : Int64)) sz (own_du (-1 : Int64) sz))), .second, .val (.long p2), .second, .val (.long (p2 + p3)), .second, .val (.long ((p2 + p3) + p3)), .second] [])) tgt
    refine XS.iconst X31.here hx rfl (hb hby at_125) ?_
    show Steps p.tables e below (T31.setTop (mkF m 126 #[.val (.long p0), .second, .val (.int p1), .val (.long p2), .second, .val (.long p3), .second, .val (.long sz), .second, .val (.ref b), .val (.ref a), .val (.long (own_rd (p2 &&& (9223372036854775807 : Int64)) sz (own_du (-1 : Int64) sz))), .second, .val (.long (own_rd ((p2 + p3) &&& (9223372036854775807 : Int64)) sz (own_du (-1 : Int64) sz))), .second, .val (.long (own_rd (((p2 + p3) + p3) &&& (9223372036854775807 : Int64)) sz (own_du (-1 : Int64) sz))), .second, .val (.long p2), .second, .val (.long (p2 + p3)), .second, .val (.long ((p2 + p3) + p3)), .second] [(.int (1 : Int32))])) tgt
    refine XS.goto X31.here hx rfl (pc0 := 126) (pc' := 130) rfl (hb hby at_126) (by decide) (by decide) ?_
    exact kont)
  obtain ⟨fs, hr, hrun, hended, hW, hsame⟩ := X31.leave (v := some (.int (1 : Int32))) (fun h => by rw [Bd.returns] at h; cases h)
  refine ⟨_, _, go32 _ ?_, hrun, hended, _, _, rfl, ?_, ⟨_, rfl⟩, hW, hsame.mono (by decide) (by decide)⟩
  · show Steps p.tables e below (T31.setTop (mkF m 130 #[.val (.long p0), .second, .val (.int p1), .val (.long p2), .second, .val (.long p3), .second, .val (.long sz), .second, .val (.ref b), .val (.ref a), .val (.long (own_rd (p2 &&& (9223372036854775807 : Int64)) sz (own_du (-1 : Int64) sz))), .second, .val (.long (own_rd ((p2 + p3) &&& (9223372036854775807 : Int64)) sz (own_du (-1 : Int64) sz))), .second, .val (.long (own_rd (((p2 + p3) + p3) &&& (9223372036854775807 : Int64)) sz (own_du (-1 : Int64) sz))), .second, .val (.long p2), .second, .val (.long (p2 + p3)), .second, .val (.long ((p2 + p3) + p3)), .second] [(.int (1 : Int32))])) _
    exact retN X31 hx (t := .boolean) Bd.returns (by simp) (hb hby at_130) hr
  · show QL Z p0 p1 p2 p3 h0 n0 _ T31.heap _
    rw [e31]
    exact ⟨rfl, N31⟩
set_option maxRecDepth 65536 in
set_option maxHeartbeats 40000000 in
theorem comes_1 {Post : Tables → Env → Array Value → State → Outcome → State → Prop} (hpost : ∀ tb e args s v u, (limb_1_1.after args s (.returned v) u = true ∧ limb_1_2.after args s (.returned v) u = true ∧ True) → FrameEnd s (.returned v) u (Jvm.fieldLocs frame_1_writes args s ++ Jvm.arrayLocs frame_1_arrays args s ++ Jvm.staticLocs frame_1_statics s) 16 128 → Post tb e args s (.returned v) u) :
    ArmFor flags0 classFile x code maxLocals ret World_1 tables_1 room_1 Calls_1 rest_1 Pre_1 Post := by
  intro l hfl _ _ p e ha hc hk s m args below hf hA hF happ hP
  obtain ⟨hcalls, hrest, hpre⟩ := hP
  obtain ⟨-, -, -, hnamed, -, -, -, hat⟩ := (Spec.applies_iff hf).mp happ
  obtain ⟨hg, hn⟩ := and_e (Cond.before_iff.mp (show (Jvm.Cond.and given_1 narrow_1).before args s = true from hpre))
  obtain ⟨h1, r0⟩ := and_e hg
  obtain ⟨t0, r1⟩ := and_e r0
  obtain ⟨t1, r2⟩ := and_e r1
  obtain ⟨t2, r3⟩ := and_e r2
  have t3 := r3
  obtain ⟨w0, w1, w2, w3, rfl⟩ : ∃ w0 w1 w2 w3 : Value, args = #[w0, w1, w2, w3] := by
    have hs : args.size = 4 := by simpa [Cond.value, given_1] using h1
    obtain ⟨L⟩ := args
    match L, hs with
    | [w0, w1, w2, w3], _ => exact ⟨w0, w1, w2, w3, rfl⟩
  have hw := fun d (hd : d ∈ tables_1) => atoms_spec (ws := Jvm.Cond.code x code maxLocals ret :: tables_1) hat d (List.mem_cons_of_mem _ hd)
  have hfit : Fit s := fun {y c} hc i hi => by
    obtain ⟨ha, rfl⟩ := Array.getElem?_eq_some_iff.mp hc
    have q := List.all_eq_true.mp ((Array.all_eq_true_iff_forall_mem.mp hF) _ (Array.getElem_mem ha)) i (List.mem_range.mpr hi)
    simpa [Array.getElem?_eq_getElem hi] using q
  obtain ⟨i0, e0⟩ := isL_v t0
  obtain rfl : w0 = (.long i0) := Option.some.inj e0
  obtain ⟨i1, e1⟩ := is_v t1
  obtain rfl : w1 = (.int i1) := Option.some.inj e1
  obtain ⟨i2, e2⟩ := isL_v t2
  obtain rfl : w2 = (.long i2) := Option.some.inj e2
  obtain ⟨i3, e3⟩ := isL_v t3
  obtain rfl : w3 = (.long i3) := Option.some.inj e3
  obtain ⟨n, o, h1, h2, h3, _, L, rfl, ⟨rfl, N⟩, hq⟩ := rmL l s _ hw tables_1 i0 i1 i2 i3 s.heap s.heap.size (Nat.le_refl _)  p e ha hc hk s m _ below hf ((Spec.applies_iff_loose hf).mp happ).1 ⟨rfl, State.Warmed39.refl s, rfl⟩ trivial
  refine ⟨n, _, h1, h2, h3, hpost _ _ _ _ _ _ ⟨Cond.after_iff.mpr rfl, Cond.after_iff.mpr (eq_i res_at (Term.int_eval (1)) rfl), trivial⟩ ⟨hq.1, hq.2.1, (hq.2.2.sift fun y hy => Or.inr (N y hy)).mono (by decide) (by decide)⟩⟩
theorem main_1_1 : Claimed_1_1 := comes_1 fun _ _ _ _ _ _ h hF => ⟨h.1, hF⟩
theorem main_1_2 : Claimed_1_2 := comes_1 fun _ _ _ _ _ _ h hF => ⟨h.2.1, hF⟩
end Jvm.Pilot.@@N@@
namespace Jvm.Pilot.@@N@@
open Jvm Jvm.ClassFile Sem Op Lib Jvm.Free Jvm.Stand Jvm.Pilot.@@N@@.Jvm.D
/-! MADE BY PROGRAM (witnessworld.py) out of the Statement's table words and the real class files: 16 classes; the members and pool entries that the words name. The judged class is class 1, her method 2. -/
namespace start1
open Jvm.ClassFile
def u (s : String) : CpInfo := .utf8 (stringToUtf16 s)
/-- a pool by its gaps: so many unusable entries, then the entry; so many at the end -/
def gap : Nat → List CpInfo → List CpInfo
  | 0, r => r
  | n + 1, r => .unusable :: gap n r
def poolList (es : List (Nat × CpInfo)) (last : Nat) : List CpInfo := es.foldr (fun e r => gap e.1 (e.2 :: r)) (gap last [])
def pool (es : List (Nat × CpInfo)) (last : Nat) : Array CpInfo := ⟨poolList es last⟩
def fileOf (pool : Array CpInfo) (this : Nat) (attrs : Array Attribute := #[]) (ms : Array MethodInfo := #[]) (fl : Nat := 33) (sup : Nat := 0) (ifs : Array Nat := #[]) (fds : Array FieldInfo := #[]) : ClassFile where
  minorVersion := 0
  majorVersion := 65
  constantPool := pool
  accessFlags := fl
  thisClass := this
  superClass := sup
  interfaces := ifs
  fields := fds
  methods := ms
  attributes := attrs
def plain (name : String) (sup : Option ClassId) : Class where
  name := name
  kind := .ordinary
  loader := none
  accessFlags := 33
  super := sup
  interfaces := #[]
  cf := none
  fields := #[]
  methods := #[]
  instanceTypes := #[]
  staticTypes := #[]
  resolved := #[]
  callSites := []
  init := .initialized
  statics := none
  mirror := none

def pool0 : Array CpInfo := pool [(5, u "<init>"), (0, u "()V"), (1, .class_ 10), (1, u "java/lang/Object")] 113

def k0c0 : Code := { maxStack := 0, maxLocals := 1, code := object_method_1_code, exceptionTable := #[], attributes := #[] }
def k0m0 : Method := { name := "<init>", desc := "()V", sig := { parameters := [], returnType := none }, accessFlags := 1, code := some k0c0 }
/-- java/lang/Object -/
def k0 : Class := { plain "java/lang/Object" none with
  accessFlags := 33
  interfaces := #[]
  cf := some (fileOf pool0 8 #[] #[{ accessFlags := 1, nameIndex := 5, descriptorIndex := 6, attributes := #[] }] 33 0 #[] #[])
  fields := #[]
  methods := #[k0m0]
  instanceTypes := #[]
  staticTypes := #[]
  resolved := Array.replicate 124 none
  statics := none }

def pool1 : Array CpInfo := pool [(2, .class_ 4), (1, u "java/lang/Object"), (0, u "<init>"), (0, u "()V"), (2, .long 9223372036854775807), (1, .class_ 12), (0, u "com/example/keys_to_bits/keystobits/hash/CellRange"), (0, .methodref 11 14), (0, .nameAndType 5 15), (0, u "(J)V"), (0, .class_ 17), (0, u "com/example/keys_to_bits/keystobits/hash/CellRange$Walk"), (0, .methodref 16 19), (0, .nameAndType 5 20), (0, u "(Lcom/example/keys_to_bits/keystobits/hash/CellRange;JJ)V"), (0, .methodref 16 22), (0, .nameAndType 23 24), (0, u "next"), (0, u "()J"), (0, .methodref 26 27), (0, .class_ 28), (0, .nameAndType 29 30), (0, u "com/example/keys_to_bits/keystobits/hash/WalkNextPinLaw"), (0, u "ref"), (0, u "(JJ)J"), (2, u "law"), (0, u "(JIJJ)Z")] 5

def k1m0 : Method := { name := "<init>", desc := "()V", sig := { parameters := [], returnType := none }, accessFlags := 1, code := none }
def k1c1 : Code := { maxStack := 4, maxLocals := 4, code := method_2_code, exceptionTable := #[], attributes := #[] }
def k1m1 : Method := { name := "ref", desc := "(JJ)J", sig := { parameters := [.long, .long], returnType := some .long }, accessFlags := 10, code := some k1c1 }
def k1c2 : Code := { maxStack := 7, maxLocals := 23, code := code, exceptionTable := #[], attributes := #[] }
def k1m2 : Method := { name := "law", desc := "(JIJJ)Z", sig := { parameters := [.long, .int, .long, .long], returnType := some .boolean }, accessFlags := 9, code := some k1c2 }
/-- com/example/keys_to_bits/keystobits/hash/WalkNextPinLaw -/
def k1 : Class := { plain "com/example/keys_to_bits/keystobits/hash/WalkNextPinLaw" (some 0) with
  accessFlags := 49
  interfaces := #[]
  cf := some (fileOf pool1 26 #[] #[{ accessFlags := 1, nameIndex := 5, descriptorIndex := 6, attributes := #[] }, { accessFlags := 10, nameIndex := 29, descriptorIndex := 30, attributes := #[] }, { accessFlags := 9, nameIndex := 33, descriptorIndex := 34, attributes := #[] }] 49 2 #[] #[])
  fields := #[]
  methods := #[k1m0, k1m1, k1m2]
  instanceTypes := #[]
  staticTypes := #[]
  resolved := Array.replicate 40 none
  statics := none }

def pool2 : Array CpInfo := pool [(1, .methodref 2 3), (0, .class_ 4), (0, .nameAndType 5 6), (0, u "java/lang/Object"), (0, u "<init>"), (0, u "()V"), (9, .fieldref 17 18), (0, .class_ 19), (0, .nameAndType 20 21), (0, u "com/example/keys_to_bits/keystobits/hash/CellRange"), (0, u "size"), (0, u "J"), (0, .long 18446744073709551615), (1, .methodref 25 26), (0, .class_ 27), (0, .nameAndType 28 29), (0, u "java/lang/Long"), (0, u "divideUnsigned"), (0, u "(JJ)J"), (0, .fieldref 17 31), (0, .nameAndType 32 21), (0, u "reciprocal"), (2, u "reduce"), (0, u "(JJJ)J"), (0, .methodref 38 39), (0, .class_ 40), (0, .nameAndType 41 29), (0, u "java/lang/Math"), (0, u "multiplyHigh"), (0, u "(J)V"), (8, .class_ 52), (0, u "com/example/keys_to_bits/keystobits/hash/CellRange$Walk")] 16

def k2c0 : Code := { maxStack := 5, maxLocals := 3, code := prog_12_method_1_code, exceptionTable := #[], attributes := #[] }
def k2m0 : Method := { name := "<init>", desc := "(J)V", sig := { parameters := [.long], returnType := none }, accessFlags := 1, code := some k2c0 }
def k2c1 : Code := { maxStack := 8, maxLocals := 10, code := prog_12_method_4_code, exceptionTable := #[], attributes := #[] }
def k2m1 : Method := { name := "reduce", desc := "(JJJ)J", sig := { parameters := [.long, .long, .long], returnType := some .long }, accessFlags := 10, code := some k2c1 }
/-- com/example/keys_to_bits/keystobits/hash/CellRange -/
def k2 : Class := { plain "com/example/keys_to_bits/keystobits/hash/CellRange" (some 0) with
  accessFlags := 49
  interfaces := #[]
  cf := some (fileOf pool2 17 #[.nestMembers #[51]] #[{ accessFlags := 1, nameIndex := 5, descriptorIndex := 42, attributes := #[] }, { accessFlags := 10, nameIndex := 35, descriptorIndex := 36, attributes := #[] }] 49 2 #[] #[{ accessFlags := 18, nameIndex := 20, descriptorIndex := 21, attributes := #[] }, { accessFlags := 18, nameIndex := 32, descriptorIndex := 21, attributes := #[] }])
  fields := #[{ name := "size", type := .long, accessFlags := 18, slot := 0, constantValue := 0 }, { name := "reciprocal", type := .long, accessFlags := 18, slot := 1, constantValue := 0 }]
  methods := #[k2m0, k2m1]
  instanceTypes := #[.long, .long]
  staticTypes := #[]
  resolved := Array.replicate 69 none
  statics := none }

def pool3 : Array CpInfo := pool [(1, .class_ 2), (0, u "java/io/Serializable"), (0, .class_ 4), (0, u "java/lang/Object")] 2

/-- java/io/Serializable -/
def k3 : Class := { plain "java/io/Serializable" (some 0) with
  accessFlags := 1537
  interfaces := #[]
  cf := some (fileOf pool3 1 #[] #[] 1537 3 #[] #[])
  fields := #[]
  methods := #[]
  instanceTypes := #[]
  staticTypes := #[]
  resolved := Array.replicate 7 none
  statics := none }

def pool4 : Array CpInfo := pool [(2, .class_ 4), (1, u "java/lang/Object"), (0, u "<init>"), (0, u "()V"), (1, .class_ 10), (1, u "java/lang/Number"), (2, .class_ 14), (0, u "java/io/Serializable"), (0, u "serialVersionUID"), (0, u "J")] 20

def k4m0 : Method := { name := "<init>", desc := "()V", sig := { parameters := [], returnType := none }, accessFlags := 1, code := none }
/-- java/lang/Number -/
def k4 : Class := { plain "java/lang/Number" (some 0) with
  accessFlags := 1057
  interfaces := #[3]
  cf := some (fileOf pool4 8 #[] #[{ accessFlags := 1, nameIndex := 5, descriptorIndex := 6, attributes := #[] }] 1057 2 #[13] #[{ accessFlags := 26, nameIndex := 15, descriptorIndex := 16, attributes := #[] }])
  fields := #[{ name := "serialVersionUID", type := .long, accessFlags := 26, slot := 0, constantValue := 0 }]
  methods := #[k4m0]
  instanceTypes := #[]
  staticTypes := #[.long]
  resolved := Array.replicate 37 none
  statics := none }

def pool5 : Array CpInfo := pool [(1, .class_ 2), (0, u "java/lang/Comparable"), (0, .class_ 4), (0, u "java/lang/Object")] 7

/-- java/lang/Comparable -/
def k5 : Class := { plain "java/lang/Comparable" (some 0) with
  accessFlags := 1537
  interfaces := #[]
  cf := some (fileOf pool5 1 #[] #[] 1537 3 #[] #[])
  fields := #[]
  methods := #[]
  instanceTypes := #[]
  staticTypes := #[]
  resolved := Array.replicate 12 none
  statics := none }

def pool6 : Array CpInfo := pool [(1, .class_ 2), (0, u "java/lang/constant/Constable"), (0, .class_ 4), (0, u "java/lang/Object")] 6

/-- java/lang/constant/Constable -/
def k6 : Class := { plain "java/lang/constant/Constable" (some 0) with
  accessFlags := 1537
  interfaces := #[]
  cf := some (fileOf pool6 1 #[] #[] 1537 3 #[] #[])
  fields := #[]
  methods := #[]
  instanceTypes := #[]
  staticTypes := #[]
  resolved := Array.replicate 11 none
  statics := none }

def pool7 : Array CpInfo := pool [(1, .class_ 2), (0, u "java/lang/constant/ConstantDesc"), (0, .class_ 4), (0, u "java/lang/Object")] 32

/-- java/lang/constant/ConstantDesc -/
def k7 : Class := { plain "java/lang/constant/ConstantDesc" (some 0) with
  accessFlags := 1537
  interfaces := #[]
  cf := some (fileOf pool7 1 #[] #[] 1537 3 #[] #[])
  fields := #[]
  methods := #[]
  instanceTypes := #[]
  staticTypes := #[]
  resolved := Array.replicate 37 none
  statics := none }

def pool8 : Array CpInfo := pool [(1, .class_ 2), (0, u "java/lang/Long"), (232, .class_ 237), (1, u "java/lang/Long$LongCache"), (33, .class_ 272), (0, u "java/lang/Number"), (2, u "value"), (0, u "J"), (29, .long 18446744073709551615), (26, u "(JJ)J"), (27, u "TYPE"), (0, u "Ljava/lang/Class;"), (0, .class_ 364), (0, u "java/lang/Comparable"), (0, .class_ 366), (0, u "java/lang/constant/Constable"), (0, .class_ 368), (0, u "java/lang/constant/ConstantDesc"), (0, u "MIN_VALUE"), (1, u "MAX_VALUE"), (4, u "SIZE"), (0, u "I"), (1, u "BYTES"), (1, u "serialVersionUID"), (88, u "divideUnsigned")] 53

def k8c0 : Code := { maxStack := 8, maxLocals := 8, code := jdk_35_method_44_code, exceptionTable := #[], attributes := #[] }
def k8m0 : Method := { name := "divideUnsigned", desc := "(JJ)J", sig := { parameters := [.long, .long], returnType := some .long }, accessFlags := 9, code := some k8c0 }
/-- java/lang/Long -/
def k8 : Class := { plain "java/lang/Long" (some 4) with
  accessFlags := 49
  interfaces := #[5, 6, 7]
  cf := some (fileOf pool8 1 #[.nestMembers #[235]] #[{ accessFlags := 9, nameIndex := 470, descriptorIndex := 333, attributes := #[] }] 49 271 #[363, 365, 367] #[{ accessFlags := 25, nameIndex := 369, descriptorIndex := 276, attributes := #[] }, { accessFlags := 25, nameIndex := 371, descriptorIndex := 276, attributes := #[] }, { accessFlags := 25, nameIndex := 361, descriptorIndex := 362, attributes := #[] }, { accessFlags := 18, nameIndex := 275, descriptorIndex := 276, attributes := #[] }, { accessFlags := 25, nameIndex := 376, descriptorIndex := 377, attributes := #[] }, { accessFlags := 25, nameIndex := 379, descriptorIndex := 377, attributes := #[] }, { accessFlags := 26, nameIndex := 381, descriptorIndex := 276, attributes := #[] }])
  fields := #[{ name := "MIN_VALUE", type := .long, accessFlags := 25, slot := 0, constantValue := 0 }, { name := "MAX_VALUE", type := .long, accessFlags := 25, slot := 1, constantValue := 0 }, { name := "TYPE", type := (.object "java/lang/Class"), accessFlags := 25, slot := 2, constantValue := 0 }, { name := "value", type := .long, accessFlags := 18, slot := 0, constantValue := 0 }, { name := "SIZE", type := .int, accessFlags := 25, slot := 3, constantValue := 0 }, { name := "BYTES", type := .int, accessFlags := 25, slot := 4, constantValue := 0 }, { name := "serialVersionUID", type := .long, accessFlags := 26, slot := 5, constantValue := 0 }]
  methods := #[k8m0]
  instanceTypes := #[.long]
  staticTypes := #[.long, .long, (.object "java/lang/Class"), .int, .int, .long]
  resolved := Array.replicate 524 none
  statics := none }

def pool9 : Array CpInfo := pool [(1, .methodref 2 3), (0, .class_ 4), (0, .nameAndType 5 6), (0, u "java/lang/Object"), (0, u "<init>"), (0, u "()V"), (0, .fieldref 8 9), (0, .class_ 10), (0, .nameAndType 11 12), (0, u "com/example/keys_to_bits/keystobits/hash/CellRange"), (0, u "size"), (0, u "J"), (0, .fieldref 14 9), (0, .class_ 15), (0, u "com/example/keys_to_bits/keystobits/hash/CellRange$Walk"), (0, .fieldref 8 17), (0, .nameAndType 18 12), (0, u "reciprocal"), (0, .fieldref 14 17), (0, .fieldref 14 21), (0, .nameAndType 22 12), (0, u "step"), (0, .fieldref 14 24), (0, .nameAndType 25 12), (0, u "value"), (2, .long 9223372036854775807), (1, .methodref 8 31), (0, .nameAndType 32 33), (0, u "reduce"), (0, u "(JJJ)J"), (0, u "(Lcom/example/keys_to_bits/keystobits/hash/CellRange;JJ)V"), (2, u "next"), (0, u "()J")] 5

def k9c0 : Code := { maxStack := 3, maxLocals := 6, code := prog_13_method_1_code, exceptionTable := #[], attributes := #[] }
def k9m0 : Method := { name := "<init>", desc := "(Lcom/example/keys_to_bits/keystobits/hash/CellRange;JJ)V", sig := { parameters := [(.object "com/example/keys_to_bits/keystobits/hash/CellRange"), .long, .long], returnType := none }, accessFlags := 0, code := some k9c0 }
def k9c1 : Code := { maxStack := 6, maxLocals := 3, code := prog_13_method_2_code, exceptionTable := #[], attributes := #[] }
def k9m1 : Method := { name := "next", desc := "()J", sig := { parameters := [], returnType := some .long }, accessFlags := 1, code := some k9c1 }
/-- com/example/keys_to_bits/keystobits/hash/CellRange$Walk -/
def k9 : Class := { plain "com/example/keys_to_bits/keystobits/hash/CellRange$Walk" (some 0) with
  accessFlags := 49
  interfaces := #[]
  cf := some (fileOf pool9 14 #[.nestHost 8] #[{ accessFlags := 0, nameIndex := 5, descriptorIndex := 34, attributes := #[] }, { accessFlags := 1, nameIndex := 37, descriptorIndex := 38, attributes := #[] }] 49 2 #[] #[{ accessFlags := 18, nameIndex := 11, descriptorIndex := 12, attributes := #[] }, { accessFlags := 18, nameIndex := 18, descriptorIndex := 12, attributes := #[] }, { accessFlags := 18, nameIndex := 22, descriptorIndex := 12, attributes := #[] }, { accessFlags := 2, nameIndex := 25, descriptorIndex := 12, attributes := #[] }])
  fields := #[{ name := "size", type := .long, accessFlags := 18, slot := 0, constantValue := 0 }, { name := "reciprocal", type := .long, accessFlags := 18, slot := 1, constantValue := 0 }, { name := "step", type := .long, accessFlags := 18, slot := 2, constantValue := 0 }, { name := "value", type := .long, accessFlags := 2, slot := 3, constantValue := 0 }]
  methods := #[k9m0, k9m1]
  instanceTypes := #[.long, .long, .long, .long]
  staticTypes := #[]
  resolved := Array.replicate 44 none
  statics := none }

def pool10 : Array CpInfo := pool [(1, .class_ 2), (0, u "java/lang/Math"), (1, .class_ 6), (1, u "java/lang/Object"), (0, u "<init>"), (0, u "()V"), (89, .class_ 100), (1, u "java/lang/Math$RandomNumberGeneratorHolder"), (20, u "(JJ)J"), (16, .long 4294967295), (3, u "multiplyHigh"), (29, u "negativeZeroFloatBits"), (0, u "J"), (2, u "negativeZeroDoubleBits"), (68, u "$assertionsDisabled"), (0, u "Z"), (91, u "twoToTheDoubleScaleDown"), (0, u "D"), (4, u "twoToTheDoubleScaleUp"), (9, u "E"), (3, u "PI"), (2, u "TAU"), (2, u "DEGREES_TO_RADIANS"), (0, u "RADIANS_TO_DEGREES")] 94

def k10m0 : Method := { name := "<init>", desc := "()V", sig := { parameters := [], returnType := none }, accessFlags := 2, code := none }
def k10c1 : Code := { maxStack := 6, maxLocals := 20, code := jdk_29_method_45_code, exceptionTable := #[], attributes := #[] }
def k10m1 : Method := { name := "multiplyHigh", desc := "(JJ)J", sig := { parameters := [.long, .long], returnType := some .long }, accessFlags := 9, code := some k10c1 }
/-- java/lang/Math -/
def k10 : Class := { plain "java/lang/Math" (some 0) with
  accessFlags := 49
  interfaces := #[]
  cf := some (fileOf pool10 1 #[.nestMembers #[98]] #[{ accessFlags := 2, nameIndex := 7, descriptorIndex := 8, attributes := #[] }, { accessFlags := 9, nameIndex := 142, descriptorIndex := 121, attributes := #[] }] 49 4 #[] #[{ accessFlags := 25, nameIndex := 354, descriptorIndex := 339, attributes := #[] }, { accessFlags := 25, nameIndex := 358, descriptorIndex := 339, attributes := #[] }, { accessFlags := 25, nameIndex := 361, descriptorIndex := 339, attributes := #[] }, { accessFlags := 26, nameIndex := 364, descriptorIndex := 339, attributes := #[] }, { accessFlags := 26, nameIndex := 365, descriptorIndex := 339, attributes := #[] }, { accessFlags := 26, nameIndex := 172, descriptorIndex := 173, attributes := #[] }, { accessFlags := 26, nameIndex := 176, descriptorIndex := 173, attributes := #[] }, { accessFlags := 8, nameIndex := 344, descriptorIndex := 339, attributes := #[] }, { accessFlags := 8, nameIndex := 338, descriptorIndex := 339, attributes := #[] }, { accessFlags := 4120, nameIndex := 245, descriptorIndex := 246, attributes := #[] }])
  fields := #[{ name := "E", type := .double, accessFlags := 25, slot := 0, constantValue := 0 }, { name := "PI", type := .double, accessFlags := 25, slot := 1, constantValue := 0 }, { name := "TAU", type := .double, accessFlags := 25, slot := 2, constantValue := 0 }, { name := "DEGREES_TO_RADIANS", type := .double, accessFlags := 26, slot := 3, constantValue := 0 }, { name := "RADIANS_TO_DEGREES", type := .double, accessFlags := 26, slot := 4, constantValue := 0 }, { name := "negativeZeroFloatBits", type := .long, accessFlags := 26, slot := 5, constantValue := 0 }, { name := "negativeZeroDoubleBits", type := .long, accessFlags := 26, slot := 6, constantValue := 0 }, { name := "twoToTheDoubleScaleUp", type := .double, accessFlags := 8, slot := 7, constantValue := 0 }, { name := "twoToTheDoubleScaleDown", type := .double, accessFlags := 8, slot := 8, constantValue := 0 }, { name := "$assertionsDisabled", type := .boolean, accessFlags := 4120, slot := 9, constantValue := 0 }]
  methods := #[k10m0, k10m1]
  instanceTypes := #[]
  staticTypes := #[.double, .double, .double, .double, .double, .long, .long, .double, .double, .boolean]
  resolved := Array.replicate 460 none
  statics := none }

def pool11 : Array CpInfo := pool [(1, u "java/lang/Cloneable"), (0, .class_ 1), (0, u "java/lang/Object"), (0, .class_ 3)] 3

/-- java/lang/Cloneable -/
def k11 : Class := { plain "java/lang/Cloneable" (some 0) with
  accessFlags := 1537
  interfaces := #[]
  cf := some (fileOf pool11 2 #[] #[] 1537 4 #[] #[])
  fields := #[]
  methods := #[]
  instanceTypes := #[]
  staticTypes := #[]
  resolved := Array.replicate 8 none
  statics := none }

/-- the primitive byte -/
def k12 : Class := { plain "byte" none with kind := .primitive 'B', accessFlags := 0x411 }
/-- [B -/
def k13 : Class := { plain "[B" (some 0) with kind := .array 12 .byte, interfaces := #[11, 3], accessFlags := 1041 }

/-- the primitive int -/
def k14 : Class := { plain "int" none with kind := .primitive 'I', accessFlags := 0x411 }
/-- [I -/
def k15 : Class := { plain "[I" (some 0) with kind := .array 14 .int, interfaces := #[11, 3], accessFlags := 1041 }

def heap : Heap := #[]
def classes : Array Class := #[k0, k1, k2, k3, k4, k5, k6, k7, k8, k9, k10, k11, k12, k13, k14, k15]
def interned : List (Array UInt16 × Addr) := []
def slotsUsed : Nat := 0
def theMethod : MethodId := ⟨1, 2⟩
def args0 : Array Value := #[.long 5, .int 7, .long 9, .long 11]
def aboutOver (below : List Frame) : State where
  vm := { classes := classes, interned := interned.toArray }
  heap := heap
  slotsUsed := slotsUsed
  threads := #[{ frames := .invoking theMethod args0 :: below }]
def below0 : List Frame := [.native { method := ⟨0, 0⟩, args := #[] }]
def about1 : State := aboutOver below0
def p0 : Program := .bare "" "" ""
def e0 : Env := launch0.env 0 0 0
theorem w_frames : about1.frames = Frame.invoking theMethod args0 :: below0 := rfl
set_option maxRecDepth 65536 in
theorem w_args : argsFit about1.vm theMethod args0 = true := by decide +kernel
set_option maxRecDepth 65536 in
theorem w_heap : heapFits about1 = true := by decide +kernel
set_option maxRecDepth 65536 in
theorem w_runnable : about1.curStatus? = some .runnable := by decide +kernel
set_option maxRecDepth 65536 in
theorem w_alone : about1.alone = true := by decide +kernel
set_option maxRecDepth 65536 in
theorem w_named : about1.methodNamed? x = some theMethod := by decide +kernel
set_option maxRecDepth 65536 in
theorem w_hears : about1.hears theMethod below0 = true := by decide +kernel
set_option maxRecDepth 65536 in
theorem w_ripe : about1.ripe theMethod args0 below0 = true := by decide +kernel
theorem w_running : about1.status = .running := rfl
set_option maxRecDepth 65536 in
theorem w_room : about1.hasRoom e0.platform room_1 = true :=
  launch0.hasRoom_least _ room_1 (by decide +kernel) (by decide +kernel) (by decide +kernel) (by decide +kernel) (by decide +kernel) (by decide +kernel)
theorem allAtoms_all (ts : List Jvm.Cond) (a : Array Jvm.Value) (st : Jvm.State) : (allAtoms ts).before a st = ts.all (fun c => c.before a st) := by
  induction ts with
  | nil => rfl
  | cons c t ih =>
    show (Jvm.Cond.and c (allAtoms t)).before a st = _
    rw [Jvm.Cond.before_and, ih, List.all_cons]
def words1 : List Jvm.Cond := Jvm.Cond.code x code maxLocals ret :: tables_1
/-- a 'code' word, met by the world's own term for the bytes: nothing is compared byte by byte -/
theorem code_word {y : MethodName} {bytes : ByteArray} {mx : Nat} {rt : Option FieldType} {a : Array Value} {s : State} {m : MethodId} {meth : Method} {c : Code} (h1 : s.methodNamed? y = some m) (h2 : s.vm.method? m = some meth) (h3 : meth.code = some c) (h4 : c.code = bytes)
    (h5 : (c.maxLocals == mx && c.exceptionTable.isEmpty && decide (c.maxStack ≤ mostOperands) && decide (meth.sig.returnType = rt) && !meth.locks && decide (parseMethodDescriptor y.desc = some meth.sig)) = true) : (Jvm.Cond.code y bytes mx rt).before a s = true := by
  simp only [Bool.and_eq_true, beq_iff_eq, Bool.not_eq_true', decide_eq_true_eq] at h5
  obtain ⟨⟨⟨⟨⟨g1, g2⟩, g3⟩, g4⟩, g5⟩, g6⟩ := h5
  simp [Cond.before, Cond.holds, Cond.value, h1, h2, h3, h4, g1, g2, g3, g4, g5, g6]
def isCode : Jvm.Cond → Bool
  | .code _ _ _ _ => true
  | _ => false
theorem all_split {L : List Jvm.Cond} {P : Jvm.Cond → Bool} (h1 : L.all (fun c => isCode c || P c) = true) (h2 : ∀ c ∈ L.filter isCode, P c = true) : L.all P = true := by
  refine List.all_eq_true.mpr fun c hc => ?_
  have h := List.all_eq_true.mp h1 c hc
  rcases Bool.eq_false_or_eq_true (isCode c) with hi | hi
  · exact h2 c (List.mem_filter.mpr ⟨hc, hi⟩)
  · simpa [hi] using h
set_option maxRecDepth 65536 in
theorem w_c0 : (Jvm.Cond.code x code maxLocals ret).before args0 about1 = true := code_word (m := ⟨1, 2⟩) (meth := k1m2) (c := k1c2) (by decide +kernel) rfl rfl rfl (by decide +kernel)
set_option maxRecDepth 65536 in
theorem w_c1 : (Jvm.Cond.code ({ cls := "com/example/keys_to_bits/keystobits/hash/CellRange", name := "<init>", desc := "(J)V" } : Jvm.MethodName) prog_12_method_1_code (3 : Nat) (Option.none : Option Jvm.ClassFile.FieldType)).before args0 about1 = true := code_word (m := ⟨2, 0⟩) (meth := k2m0) (c := k2c0) (by decide +kernel) rfl rfl rfl (by decide +kernel)
set_option maxRecDepth 65536 in
theorem w_c2 : (Jvm.Cond.code ({ cls := "java/lang/Object", name := "<init>", desc := "()V" } : Jvm.MethodName) object_method_1_code (1 : Nat) (Option.none : Option Jvm.ClassFile.FieldType)).before args0 about1 = true := code_word (m := ⟨0, 0⟩) (meth := k0m0) (c := k0c0) (by decide +kernel) rfl rfl rfl (by decide +kernel)
set_option maxRecDepth 65536 in
theorem w_c3 : (Jvm.Cond.code ({ cls := "java/lang/Long", name := "divideUnsigned", desc := "(JJ)J" } : Jvm.MethodName) jdk_35_method_44_code (8 : Nat) (Option.some Jvm.ClassFile.FieldType.long)).before args0 about1 = true := code_word (m := ⟨8, 0⟩) (meth := k8m0) (c := k8c0) (by decide +kernel) rfl rfl rfl (by decide +kernel)
set_option maxRecDepth 65536 in
theorem w_c4 : (Jvm.Cond.code ({ cls := "com/example/keys_to_bits/keystobits/hash/CellRange$Walk", name := "<init>", desc := "(Lcom/example/keys_to_bits/keystobits/hash/CellRange;JJ)V" } : Jvm.MethodName) prog_13_method_1_code (6 : Nat) (Option.none : Option Jvm.ClassFile.FieldType)).before args0 about1 = true := code_word (m := ⟨9, 0⟩) (meth := k9m0) (c := k9c0) (by decide +kernel) rfl rfl rfl (by decide +kernel)
set_option maxRecDepth 65536 in
theorem w_c5 : (Jvm.Cond.code ({ cls := "com/example/keys_to_bits/keystobits/hash/CellRange$Walk", name := "next", desc := "()J" } : Jvm.MethodName) prog_13_method_2_code (3 : Nat) (Option.some Jvm.ClassFile.FieldType.long)).before args0 about1 = true := code_word (m := ⟨9, 1⟩) (meth := k9m1) (c := k9c1) (by decide +kernel) rfl rfl rfl (by decide +kernel)
set_option maxRecDepth 65536 in
theorem w_c6 : (Jvm.Cond.code ({ cls := "com/example/keys_to_bits/keystobits/hash/CellRange", name := "reduce", desc := "(JJJ)J" } : Jvm.MethodName) prog_12_method_4_code (10 : Nat) (Option.some Jvm.ClassFile.FieldType.long)).before args0 about1 = true := code_word (m := ⟨2, 1⟩) (meth := k2m1) (c := k2c1) (by decide +kernel) rfl rfl rfl (by decide +kernel)
set_option maxRecDepth 65536 in
theorem w_c7 : (Jvm.Cond.code ({ cls := "java/lang/Math", name := "multiplyHigh", desc := "(JJ)J" } : Jvm.MethodName) jdk_29_method_45_code (20 : Nat) (Option.some Jvm.ClassFile.FieldType.long)).before args0 about1 = true := code_word (m := ⟨10, 1⟩) (meth := k10m1) (c := k10c1) (by decide +kernel) rfl rfl rfl (by decide +kernel)
set_option maxRecDepth 65536 in
theorem w_c8 : (Jvm.Cond.code ({ cls := "com/example/keys_to_bits/keystobits/hash/WalkNextPinLaw", name := "ref", desc := "(JJ)J" } : Jvm.MethodName) method_2_code (4 : Nat) (Option.some Jvm.ClassFile.FieldType.long)).before args0 about1 = true := code_word (m := ⟨1, 1⟩) (meth := k1m1) (c := k1c1) (by decide +kernel) rfl rfl rfl (by decide +kernel)
def codes1 : List Jvm.Cond := [Jvm.Cond.code x code maxLocals ret, Jvm.Cond.code ({ cls := "com/example/keys_to_bits/keystobits/hash/CellRange", name := "<init>", desc := "(J)V" } : Jvm.MethodName) prog_12_method_1_code (3 : Nat) (Option.none : Option Jvm.ClassFile.FieldType), Jvm.Cond.code ({ cls := "java/lang/Object", name := "<init>", desc := "()V" } : Jvm.MethodName) object_method_1_code (1 : Nat) (Option.none : Option Jvm.ClassFile.FieldType), Jvm.Cond.code ({ cls := "java/lang/Long", name := "divideUnsigned", desc := "(JJ)J" } : Jvm.MethodName) jdk_35_method_44_code (8 : Nat) (Option.some Jvm.ClassFile.FieldType.long), Jvm.Cond.code ({ cls := "com/example/keys_to_bits/keystobits/hash/CellRange$Walk", name := "<init>", desc := "(Lcom/example/keys_to_bits/keystobits/hash/CellRange;JJ)V" } : Jvm.MethodName) prog_13_method_1_code (6 : Nat) (Option.none : Option Jvm.ClassFile.FieldType), Jvm.Cond.code ({ cls := "com/example/keys_to_bits/keystobits/hash/CellRange$Walk", name := "next", desc := "()J" } : Jvm.MethodName) prog_13_method_2_code (3 : Nat) (Option.some Jvm.ClassFile.FieldType.long), Jvm.Cond.code ({ cls := "com/example/keys_to_bits/keystobits/hash/CellRange", name := "reduce", desc := "(JJJ)J" } : Jvm.MethodName) prog_12_method_4_code (10 : Nat) (Option.some Jvm.ClassFile.FieldType.long), Jvm.Cond.code ({ cls := "java/lang/Math", name := "multiplyHigh", desc := "(JJ)J" } : Jvm.MethodName) jdk_29_method_45_code (20 : Nat) (Option.some Jvm.ClassFile.FieldType.long), Jvm.Cond.code ({ cls := "com/example/keys_to_bits/keystobits/hash/WalkNextPinLaw", name := "ref", desc := "(JJ)J" } : Jvm.MethodName) method_2_code (4 : Nat) (Option.some Jvm.ClassFile.FieldType.long)]
set_option maxRecDepth 65536 in
theorem codes_eq : words1.filter isCode = codes1 := rfl
theorem w_codes : ∀ c ∈ words1.filter isCode, c.before args0 about1 = true := by
  rw [codes_eq]
  intro c hc
  simp only [codes1, List.mem_cons, List.not_mem_nil, or_false] at hc
  rcases hc with rfl | rfl | rfl | rfl | rfl | rfl | rfl | rfl | rfl
  · exact w_c0
  · exact w_c1
  · exact w_c2
  · exact w_c3
  · exact w_c4
  · exact w_c5
  · exact w_c6
  · exact w_c7
  · exact w_c8
set_option maxRecDepth 65536 in
theorem w_t1 : (words1.take 24).all (fun c => isCode c || c.before args0 about1) = true := by decide +kernel
set_option maxRecDepth 65536 in
theorem w_t2 : ((words1.drop 24).take 24).all (fun c => isCode c || c.before args0 about1) = true := by decide +kernel
set_option maxRecDepth 65536 in
theorem w_t3 : ((words1.drop 24).drop 24).all (fun c => isCode c || c.before args0 about1) = true := by decide +kernel
theorem w_tables : (allAtoms (Jvm.Cond.code x code maxLocals ret :: tables_1)).before args0 about1 = true := by
  rw [allAtoms_all]
  show words1.all (fun c => c.before args0 about1) = true
  refine all_split ?_ w_codes
  rw [← List.take_append_drop 24 words1, List.all_append, w_t1, ← List.take_append_drop 24 (words1.drop 24), List.all_append, w_t2, w_t3]
  rfl
set_option maxRecDepth 65536 in
theorem w_case : (Jvm.Cond.and given_1 narrow_1).before args0 about1 = true := by decide +kernel
theorem w_applies : (headSpec (Jvm.Cond.code x code maxLocals ret :: tables_1) room_1).applies x e0.platform about1 = true :=
  (Spec.applies_iff w_frames).mpr ⟨w_running, w_runnable, w_alone, w_named, w_hears, w_ripe, w_room, w_tables⟩
theorem atStart : AtStart classFile x code maxLocals ret World_1 tables_1 room_1 Calls_1 rest_1 Pre_1 launch0 p0 e0 about1 theMethod args0 below0 :=
  ⟨lists_1, trivial, launch0.admits_env _ _ _, launch0.least_env, fairChoices_fair.cas, fairChoices_fair.clock, w_frames, w_args, w_heap, w_applies, trivial, trivial, w_case⟩
end start1
theorem witness_1 : WitnessClaimed_1 := ⟨start1.p0, start1.e0, start1.about1, start1.theMethod, start1.args0, start1.below0, start1.atStart⟩
end Jvm.Pilot.@@N@@
