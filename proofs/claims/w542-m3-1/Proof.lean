import JvmDerived
import JvmDerived.Pilot.@@N@@Statement
import JvmDerived.Pilot.@@N@@Code
set_option linter.unusedVariables false
set_option linter.unusedSimpArgs false
/- laws to paste: Road.backV, Road.eqW, Road.codOf (cut by pick.py; bodies as the Statement names them) -/
namespace Jvm.Pilot.@@N@@
namespace StrChars
open Jvm Sem ClassFile Op Lib Jvm.Stand Jvm.Free.XT Jvm.Free.ALB Jvm.Free.JM Jvm.Free
open Jvm.Lib.Cold (StaticIs)
/-- a char array whose places are chars -/
def Ch (a : Addr) (A : Cell) (U : State) : Prop := Arr .char a A U ∧ Typed .char A
theorem Ch.mv {a : Addr} {A : Cell} {U U' : State} (h : Ch a A U) (hal : U.vm.Alike U'.vm) (hh : U'.heap = U.heap) : Ch a A U' := ⟨h.1.mv hal hh, h.2⟩
theorem Ch.keep {a : Addr} {A : Cell} {U U' : State} (h : Ch a A U) (hal : U.vm.Alike U'.vm) (hk : U'.heap[a]? = some A) : Ch a A U' := ⟨h.1.keep hal hk, h.2⟩
/-- what place i of a char[]'s cell holds -/
def cv (A : Cell) (i : Nat) : Int32 := match A.slots[i]? with | some (.int x) => x | _ => 0
theorem Ch.get {a : Addr} {A : Cell} {U : State} (h : Ch a A U) {i : Nat} (hi : i < A.slots.size) : A.slots[i]? = some (.int (cv A i)) := by
  have e := Array.getElem?_eq_getElem hi
  have f := h.2 i _ e
  unfold cv; rw [e]
  generalize A.slots[i] = v at f
  cases v <;> simp [fits] at f ⊢
/-- the byte that i2b leaves of a char -/
def lo8 (x : Int32) : Int32 := x.toInt8.toInt32
theorem fits_lo8 (y : Int32) : fits .byte (.int (lo8 y)) = true := by
  have h1 := y.toInt8.le_toInt
  have h2 := y.toInt8.toInt_lt
  simp only [lo8, fits, Bool.and_eq_true, decide_eq_true_eq, Int32.le_iff_toInt_le, Int8.toInt_toInt32, show (-128 : Int32).toInt = -128 from by decide, show (127 : Int32).toInt = 127 from by decide]
  omega
/-- A' is A but that each place j of lo .. hi - 1 holds f j -/
def Laid (A A' : Cell) (lo hi : Nat) (f : Nat → Value) : Prop := A'.cls = A.cls ∧ A'.vm = A.vm ∧ A'.slots.size = A.slots.size ∧ ∀ i, A'.slots[i]? = if lo ≤ i ∧ i < hi then some (f i) else A.slots[i]?
theorem Laid.zero (A : Cell) (lo : Nat) (f : Nat → Value) : Laid A A lo (lo + 0) f := ⟨rfl, rfl, rfl, fun i => by rw [if_neg (by omega)]⟩
theorem Laid.step {A Ak : Cell} {lo k : Nat} {f : Nat → Value} {v : Value} (h : Laid A Ak lo k f) (hlo : lo ≤ k) (hk : k < Ak.slots.size) (hv : v = f k) : Laid A (Ak.setSlot k v) lo (k + 1) f := by
  refine ⟨h.1, h.2.1, by simpa [Cell.setSlot] using h.2.2.1, fun i => ?_⟩
  by_cases e : k = i
  · subst e; rw [Cell.slots_setSlot_self v hk, if_pos (by omega), hv]
  · rw [Cell.slots_setSlot_ne v e, h.2.2.2 i]
    by_cases q : lo ≤ i ∧ i < k
    · rw [if_pos q, if_pos (by omega)]
    · rw [if_neg q, if_neg (by omega)]
def U16 : String := "java/lang/StringUTF16"
namespace Cmp5
def yN : MethodName := ⟨"java/lang/StringUTF16", "compress", "([CI[BII)I"⟩
abbrev yB : ByteArray := jdk_52_method_21_code
theorem d0 : decode yB 0 = .ok (.iconst 0, 1) := by decide +kernel
theorem d1 : decode yB 1 = .ok (.istore 5, 2) := by decide +kernel
theorem d3 : decode yB 3 = .ok (.iload 5, 2) := by decide +kernel
theorem d5 : decode yB 5 = .ok (.iload 4, 2) := by decide +kernel
theorem d7 : decode yB 7 = .ok (.if_icmp (.ge) 37, 3) := by decide +kernel
theorem d10 : decode yB 10 = .ok (.aload_n 0, 1) := by decide +kernel
theorem d11 : decode yB 11 = .ok (.iload_n 1, 1) := by decide +kernel
theorem d12 : decode yB 12 = .ok (.caload, 1) := by decide +kernel
theorem d13 : decode yB 13 = .ok (.istore 6, 2) := by decide +kernel
theorem d15 : decode yB 15 = .ok (.iload 6, 2) := by decide +kernel
theorem d17 : decode yB 17 = .ok (.sipush 255, 3) := by decide +kernel
theorem d20 : decode yB 20 = .ok (.if_icmp (.le) 6, 3) := by decide +kernel
theorem d26 : decode yB 26 = .ok (.aload_n 2, 1) := by decide +kernel
theorem d27 : decode yB 27 = .ok (.iload_n 3, 1) := by decide +kernel
theorem d28 : decode yB 28 = .ok (.iload 6, 2) := by decide +kernel
theorem d30 : decode yB 30 = .ok (.i2b, 1) := by decide +kernel
theorem d31 : decode yB 31 = .ok (.bastore, 1) := by decide +kernel
theorem d32 : decode yB 32 = .ok (.iinc 1 1, 3) := by decide +kernel
theorem d35 : decode yB 35 = .ok (.iinc 3 1, 3) := by decide +kernel
theorem d38 : decode yB 38 = .ok (.iinc 5 1, 3) := by decide +kernel
theorem d41 : decode yB 41 = .ok (.goto (-38), 3) := by decide +kernel
theorem d44 : decode yB 44 = .ok (.iload 4, 2) := by decide +kernel
theorem d46 : decode yB 46 = .ok (.ireturn, 1) := by decide +kernel
def site : List Cond := []
def tab : Cond := tabOf yN yB 7 (some .int) site
def P (b : Addr) (A : Cell) (d : Addr) (B : Cell) (o q len : Nat) (args : Array Value) (s : State) : Prop := args = #[.ref b, .int (Int32.ofNat o), .ref d, .int (Int32.ofNat q), .int (Int32.ofNat len)] ∧ Ch b A s ∧ Arr .byte d B s ∧ b ≠ d ∧ o + len ≤ A.slots.size ∧ q + len ≤ B.slots.size ∧ ∀ i, i < len → ¬ 255 < cv A (o + i)
def E (b : Addr) (A : Cell) (d : Addr) (B : Cell) (o q len : Nat) (r : Option Value) (s u : State) : Prop := r = some (.int (Int32.ofNat len)) ∧ ∃ B', Put d B' s u ∧ Laid B B' q (q + len) (fun j => Value.int (lo8 (cv A (o + (j - q)))))
/-- no char of the range above 255: len; the places written hold each char's low byte -/
theorem law (l : Launch) (b : Addr) (A : Cell) (d : Addr) (B : Cell) (o q len : Nat) : Law l yN 5 5 0 0 yB 7 (some .int) site (P b A d B o q len) (E b A d B o q len) (copyLocs d q len) 0 0 := by
  refine Law.of_walk (plainFor_of_name (by decide +kernel)) (by decide +kernel) (by decide +kernel) (by decide) (fun _ _ h => by rw [h.1]; rfl) (fun _ U U' hal hh h => ⟨h.1, h.2.1.mv hal hh, h.2.2.1.mv hal hh, h.2.2.2⟩) (fun r U U' V V' h1 hal h2 h => ⟨h.1, h.2.elim fun B' q => ⟨B', q.1.mv h1 h2, q.2⟩⟩) ?_
  intro p e s m args below meth c s₁ X0 hexec hbytes hml hret hlk hnm hown hh0 W hP
  obtain ⟨rfl, hA, hB, hne, l1, l2, hp⟩ := hP
  have c1 : Steps p.tables e below (s₁.setTop (entryFrame m #[.ref b, .int (Int32.ofNat o), .ref d, .int (Int32.ofNat q), .int (Int32.ofNat len)] 7)) (s₁.setTop (mkF m 0 #[.val (.ref b), .val (.int (Int32.ofNat o)), .val (.ref d), .val (.int (Int32.ofNat q)), .val (.int (Int32.ofNat len)), .unset, .unset] [])) := entry rfl
  have hA0 := hA.1.mv X0.warmed.alike hh0
  have hB0 := hB.mv X0.warmed.alike hh0
  have a31 := hA.1.2.2.2
  have c2 : Steps p.tables e below (s₁.setTop (entryFrame m #[.ref b, .int (Int32.ofNat o), .ref d, .int (Int32.ofNat q), .int (Int32.ofNat len)] 7)) (s₁.setTop (mkF m 3 #[.val (.ref b), .val (.int (Int32.ofNat o)), .val (.ref d), .val (.int (Int32.ofNat q)), .val (.int (Int32.ofNat len)), .val (.int 0), .unset] [])) := c1.trans (by
    refine iconstV X0.here hexec rfl 0 (hb hbytes d0) (by decide) ?_
    refine XS.istore X0.here hexec rfl (hb hbytes d1) rfl rfl ?_
    exact Steps.refl _)
  have loop : ∀ (r i : Nat), i + r = len → ∀ (z : Slot), (z = .unset ∨ ∃ w, z = .val w ∧ w.category = 1) → ∀ (Tl : State) (Bk : Cell), Stand p l e { frames := 0, locals := 0, cells := 0, slots := 0 } s m #[.ref b, .int (Int32.ofNat o), .ref d, .int (Int32.ofNat q), .int (Int32.ofNat len)] below meth c Tl ([] ++ copyLocs d q i) 0 0 → Put d Bk s₁ Tl → Laid B Bk q (q + i) (fun j => Value.int (lo8 (cv A (o + (j - q))))) →
      Steps p.tables e below (s₁.setTop (entryFrame m #[.ref b, .int (Int32.ofNat o), .ref d, .int (Int32.ofNat q), .int (Int32.ofNat len)] 7)) (Tl.setTop (mkF m 3 #[.val (.ref b), .val (.int (Int32.ofNat (o + i))), .val (.ref d), .val (.int (Int32.ofNat (q + i))), .val (.int (Int32.ofNat len)), .val (.int (Int32.ofNat i)), z] [])) → ∃ (T' : State) (B' : Cell) (z' : Slot), Stand p l e { frames := 0, locals := 0, cells := 0, slots := 0 } s m #[.ref b, .int (Int32.ofNat o), .ref d, .int (Int32.ofNat q), .int (Int32.ofNat len)] below meth c T' ([] ++ copyLocs d q len) 0 0 ∧ Put d B' s₁ T' ∧ Laid B B' q (q + len) (fun j => Value.int (lo8 (cv A (o + (j - q))))) ∧
      Steps p.tables e below (s₁.setTop (entryFrame m #[.ref b, .int (Int32.ofNat o), .ref d, .int (Int32.ofNat q), .int (Int32.ofNat len)] 7)) (T'.setTop (mkF m 3 #[.val (.ref b), .val (.int (Int32.ofNat (o + len))), .val (.ref d), .val (.int (Int32.ofNat (q + len))), .val (.int (Int32.ofNat len)), .val (.int (Int32.ofNat len)), z'] [])) := by
    intro r
    induction r with
    | zero =>
      intro i hi z hz Tl Bk Xl pl fl cl
      have hil : i = len := by omega
      rw [hil] at Xl fl cl
      exact ⟨Tl, Bk, z, Xl, pl, fl, cl⟩
    | succ r ih =>
      intro i hi z hz Tl Bk Xl pl fl cl
      have all := X0.warmed.alike.symm.trans Xl.warmed.alike
      have hAl := hA0.keep all (pl.other hne hA0.1)
      have hBk := hB0.like all pl.1 fl.1 fl.2.1 fl.2.2.1
      have hlt : q + i < Bk.slots.size := by rw [fl.2.2.1]; omega
      have c3 : Steps p.tables e below (s₁.setTop (entryFrame m #[.ref b, .int (Int32.ofNat o), .ref d, .int (Int32.ofNat q), .int (Int32.ofNat len)] 7)) (Tl.setTop (mkF m 12 #[.val (.ref b), .val (.int (Int32.ofNat (o + i))), .val (.ref d), .val (.int (Int32.ofNat (q + i))), .val (.int (Int32.ofNat len)), .val (.int (Int32.ofNat i)), z] [.int (Int32.ofNat (o + i)), .ref b])) := cl.trans (by
        refine XS.iload Xl.here hexec rfl (hb hbytes d3) rfl ?_
        refine XS.iload Xl.here hexec rfl (hb hbytes d5) rfl ?_
        refine XS.icmpNo Xl.here hexec rfl (hb hbytes d7) rfl (ii_ge_f (lt32 (by omega) (by omega))) ?_
        refine XS.aloadN Xl.here hexec rfl (hb hbytes d10) rfl rfl ?_
        refine XS.iloadN Xl.here hexec rfl (hb hbytes d11) rfl ?_
        exact Steps.refl _)
      have c4 : Steps p.tables e below (s₁.setTop (entryFrame m #[.ref b, .int (Int32.ofNat o), .ref d, .int (Int32.ofNat q), .int (Int32.ofNat len)] 7)) (Tl.setTop (mkF m 13 #[.val (.ref b), .val (.int (Int32.ofNat (o + i))), .val (.ref d), .val (.int (Int32.ofNat (q + i))), .val (.int (Int32.ofNat len)), .val (.int (Int32.ofNat i)), z] [.int (cv A (o + i))])) := c3.trans (by
        refine Xl.aget hexec hAl rfl (hA.get (i := o + i) (by omega)) rfl rfl (hb hbytes d12) ?_
        exact Steps.refl _)
      have c5 : Steps p.tables e below (s₁.setTop (entryFrame m #[.ref b, .int (Int32.ofNat o), .ref d, .int (Int32.ofNat q), .int (Int32.ofNat len)] 7)) (Tl.setTop (mkF m 15 #[.val (.ref b), .val (.int (Int32.ofNat (o + i))), .val (.ref d), .val (.int (Int32.ofNat (q + i))), .val (.int (Int32.ofNat len)), .val (.int (Int32.ofNat i)), .val (.int (cv A (o + i)))] [])) := c4.trans (by
        refine XS.istoreS Xl.here hexec rfl (hb hbytes d13) rfl rfl hz ?_
        exact Steps.refl _)
      have c6 : Steps p.tables e below (s₁.setTop (entryFrame m #[.ref b, .int (Int32.ofNat o), .ref d, .int (Int32.ofNat q), .int (Int32.ofNat len)] 7)) (Tl.setTop (mkF m 31 #[.val (.ref b), .val (.int (Int32.ofNat (o + i))), .val (.ref d), .val (.int (Int32.ofNat (q + i))), .val (.int (Int32.ofNat len)), .val (.int (Int32.ofNat i)), .val (.int (cv A (o + i)))] [.int (lo8 (cv A (o + i))), .int (Int32.ofNat (q + i)), .ref d])) := c5.trans (by
        refine XS.iload Xl.here hexec rfl (hb hbytes d15) rfl ?_
        refine sipushV Xl.here hexec rfl 255 (hb hbytes d17) (by decide) ?_
        refine XS.icmpYes Xl.here hexec rfl (pc0 := 20) rfl (hb hbytes d20) rfl (ii_le_t (hp i (by omega))) (by decide) rfl ?_
        refine XS.aloadN Xl.here hexec rfl (hb hbytes d26) rfl rfl ?_
        refine XS.iloadN Xl.here hexec rfl (hb hbytes d27) rfl ?_
        refine XS.iload Xl.here hexec rfl (hb hbytes d28) rfl ?_
        refine i2b Xl.here hexec rfl (hb hbytes d30) rfl ?_
        exact Steps.refl _)
      obtain ⟨T7, X7, p7, st7⟩ := Xl.aput hexec hBk rfl hlt rfl (fits_lo8 (cv A (o + i))) (g := (mkF m 31 #[.val (.ref b), .val (.int (Int32.ofNat (o + i))), .val (.ref d), .val (.int (Int32.ofNat (q + i))), .val (.int (Int32.ofNat len)), .val (.int (Int32.ofNat i)), .val (.int (cv A (o + i)))] [.int (lo8 (cv A (o + i))), .int (Int32.ofNat (q + i)), .ref d])) rfl (rest := []) rfl (hb hbytes d31)
      have c8 : Steps p.tables e below (s₁.setTop (entryFrame m #[.ref b, .int (Int32.ofNat o), .ref d, .int (Int32.ofNat q), .int (Int32.ofNat len)] 7)) (T7.setTop (mkF m 32 #[.val (.ref b), .val (.int (Int32.ofNat (o + i))), .val (.ref d), .val (.int (Int32.ofNat (q + i))), .val (.int (Int32.ofNat len)), .val (.int (Int32.ofNat i)), .val (.int (cv A (o + i)))] [])) := c6.trans (st7 _ (Steps.refl _))
      have c9 : Steps p.tables e below (s₁.setTop (entryFrame m #[.ref b, .int (Int32.ofNat o), .ref d, .int (Int32.ofNat q), .int (Int32.ofNat len)] 7)) (T7.setTop (mkF m 3 #[.val (.ref b), .val (.int (Int32.ofNat (o + i) + 1)), .val (.ref d), .val (.int (Int32.ofNat (q + i) + 1)), .val (.int (Int32.ofNat len)), .val (.int (Int32.ofNat i + 1)), .val (.int (cv A (o + i)))] [])) := c8.trans (by
        refine iincV X7.here hexec rfl 1 (hb hbytes d32) (by decide) rfl rfl ?_
        refine iincV X7.here hexec rfl 1 (hb hbytes d35) (by decide) rfl rfl ?_
        refine iincV X7.here hexec rfl 1 (hb hbytes d38) (by decide) rfl rfl ?_
        refine XS.goto X7.here hexec rfl (pc0 := 41) rfl (hb hbytes d41) (by decide) rfl ?_
        exact Steps.refl _)
      have c10 : Steps p.tables e below (s₁.setTop (entryFrame m #[.ref b, .int (Int32.ofNat o), .ref d, .int (Int32.ofNat q), .int (Int32.ofNat len)] 7)) (T7.setTop (mkF m 3 #[.val (.ref b), .val (.int (Int32.ofNat (o + (i + 1)))), .val (.ref d), .val (.int (Int32.ofNat (q + (i + 1)))), .val (.int (Int32.ofNat len)), .val (.int (Int32.ofNat (i + 1))), .val (.int (cv A (o + i)))] [])) := by
        have := c9
        rw [succ32, succ32, succ32] at this
        exact this
      exact ih (i + 1) (by omega) _ (Or.inr ⟨_, rfl, rfl⟩) T7 _ (by rw [copyLocs_step, ← List.append_assoc]; exact X7) (pl.trans p7) (fl.step (by omega) hlt (by simp)) c10
  obtain ⟨T9, B9, z9, X9, p9, f9, g9⟩ := loop len 0 (by omega) .unset (Or.inl rfl) s₁ B (by simpa [copyLocs] using X0) ⟨hB0.1, fun _ _ => rfl, rfl⟩ (Laid.zero _ _ _) c2
  have c11 : Steps p.tables e below (s₁.setTop (entryFrame m #[.ref b, .int (Int32.ofNat o), .ref d, .int (Int32.ofNat q), .int (Int32.ofNat len)] 7)) (T9.setTop (mkF m 46 #[.val (.ref b), .val (.int (Int32.ofNat (o + len))), .val (.ref d), .val (.int (Int32.ofNat (q + len))), .val (.int (Int32.ofNat len)), .val (.int (Int32.ofNat len)), z9] [.int (Int32.ofNat len)])) := g9.trans (by
    refine XS.iload X9.here hexec rfl (hb hbytes d3) rfl ?_
    refine XS.iload X9.here hexec rfl (hb hbytes d5) rfl ?_
    refine XS.icmpYes X9.here hexec rfl (pc0 := 7) rfl (hb hbytes d7) rfl (ii_ge_t (nlt32 (by omega) (Nat.le_refl _))) (by decide) rfl ?_
    refine XS.iload X9.here hexec rfl (hb hbytes d44) rfl ?_
    exact Steps.refl _)
  exact ⟨T9, some (.int (Int32.ofNat len)), _, _, _, X9, by simp, rfl, rfl, (fun h => by cases h), ⟨rfl, B9, p9.from hh0, f9⟩, fun fs hl => c11.trans (X9.ireturnOut hexec hret rfl (Or.inl rfl) (hb hbytes d46) hl)⟩
end Cmp5
namespace Cmp3
def yN : MethodName := ⟨"java/lang/StringUTF16", "compress", "([CII)[B"⟩
abbrev yB : ByteArray := jdk_52_method_16_code
theorem d0 : decode yB 0 = .ok (.iload_n 2, 1) := by decide +kernel
theorem d1 : decode yB 1 = .ok (.newarray .byte, 2) := by decide +kernel
theorem d3 : decode yB 3 = .ok (.astore_n 3, 1) := by decide +kernel
theorem d4 : decode yB 4 = .ok (.aload_n 0, 1) := by decide +kernel
theorem d5 : decode yB 5 = .ok (.iload_n 1, 1) := by decide +kernel
theorem d6 : decode yB 6 = .ok (.aload_n 3, 1) := by decide +kernel
theorem d7 : decode yB 7 = .ok (.iconst 0, 1) := by decide +kernel
theorem d8 : decode yB 8 = .ok (.iload_n 2, 1) := by decide +kernel
theorem d9 : decode yB 9 = .ok (.invokestatic 115, 3) := by decide +kernel
theorem d12 : decode yB 12 = .ok (.istore 4, 2) := by decide +kernel
theorem d14 : decode yB 14 = .ok (.iload 4, 2) := by decide +kernel
theorem d16 : decode yB 16 = .ok (.iload_n 2, 1) := by decide +kernel
theorem d17 : decode yB 17 = .ok (.if_icmp (.eq) 40, 3) := by decide +kernel
theorem d57 : decode yB 57 = .ok (.aload_n 3, 1) := by decide +kernel
theorem d58 : decode yB 58 = .ok (.areturn, 1) := by decide +kernel
def site : List Cond := [.arrayClass .byte, Cmp5.tab] ++ staticW U16 115 Cmp5.yN
def tab : Cond := tabOf yN yB 6 (some (.array .byte)) site
def P (b : Addr) (A : Cell) (o len : Nat) (args : Array Value) (s : State) : Prop := args = #[.ref b, .int (Int32.ofNat o), .int (Int32.ofNat len)] ∧ Ch b A s ∧ o + len ≤ A.slots.size ∧ len ≤ 536870912 ∧ ∀ i, i < len → ¬ 255 < cv A (o + i)
def E (b : Addr) (A : Cell) (o len : Nat) (r : Option Value) (s u : State) : Prop := NewArr .byte "[B" len (fun j => .int (lo8 (cv A (o + j)))) r s u ∧ u.heap.size = s.heap.size + 1
/-- no char of the range above 255: a new byte[] of their low bytes -/
theorem law (l : Launch) (b : Addr) (A : Cell) (o len : Nat) : Law l yN 3 3 1 18 yB 6 (some (.array .byte)) site (P b A o len) (E b A o len) [] 1 len := by
  refine Law.of_walk (plainFor_of_name (by decide +kernel)) (by decide +kernel) (by decide +kernel) (by decide) (fun _ _ h => by rw [h.1]; rfl) (fun _ U U' hal hh h => ⟨h.1, h.2.1.mv hal hh, h.2.2⟩) (fun r U U' V V' h1 hal h2 h => ⟨NewArr.mv r U U' V V' h1 hal h2 h.1, by rw [h1, h2]; exact h.2⟩) ?_
  intro p e s m args below meth c s₁ X0 hexec hbytes hml hret hlk hnm hown hh0 W hP
  obtain ⟨rfl, hA, l1, l2, hp⟩ := hP
  have a31 := hA.1.2.2.2
  have c1 : Steps p.tables e below (s₁.setTop (entryFrame m #[.ref b, .int (Int32.ofNat o), .int (Int32.ofNat len)] 6)) (s₁.setTop (mkF m 0 #[.val (.ref b), .val (.int (Int32.ofNat o)), .val (.int (Int32.ofNat len)), .unset, .unset, .unset] [])) := entry rfl
  have c2 : Steps p.tables e below (s₁.setTop (entryFrame m #[.ref b, .int (Int32.ofNat o), .int (Int32.ofNat len)] 6)) (s₁.setTop (mkF m 1 #[.val (.ref b), .val (.int (Int32.ofNat o)), .val (.int (Int32.ofNat len)), .unset, .unset, .unset] [.int (Int32.ofNat len)])) := c1.trans (by
    refine XS.iloadN X0.here hexec rfl (hb hbytes d0) rfl ?_
    exact Steps.refl _)
  obtain ⟨T3, B3, X3, ba3, bs3, bv3, bh3, bf3, st3⟩ := X0.anew hexec (atype := .byte) (wk W (.arrayClass .byte)) rfl (by show len * 1 ≤ _; omega) (by omega) (g := (mkF m 1 #[.val (.ref b), .val (.int (Int32.ofNat o)), .val (.int (Int32.ofNat len)), .unset, .unset, .unset] [.int (Int32.ofNat len)])) rfl (hb hbytes d1) (rest := []) rfl (Nat.le_refl _) (by show 0 + len ≤ len; omega)
  rw [hh0] at ba3 st3
  have kp3 : XT.Kept s T3 := (XT.Kept.of_eq hh0).push bh3
  have hA3 := hA.keep X3.warmed.alike (kp3 _ _ hA.1.1)
  have hne : b ≠ s.heap.size := hA.1.ne
  have c4 : Steps p.tables e below (s₁.setTop (entryFrame m #[.ref b, .int (Int32.ofNat o), .int (Int32.ofNat len)] 6)) (T3.setTop (mkF m 3 #[.val (.ref b), .val (.int (Int32.ofNat o)), .val (.int (Int32.ofNat len)), .unset, .unset, .unset] [.ref s.heap.size])) := c2.trans (st3 _ (Steps.refl _))
  have c5 : Steps p.tables e below (s₁.setTop (entryFrame m #[.ref b, .int (Int32.ofNat o), .int (Int32.ofNat len)] 6)) (T3.setTop (mkF m 9 #[.val (.ref b), .val (.int (Int32.ofNat o)), .val (.int (Int32.ofNat len)), .val (.ref s.heap.size), .unset, .unset] [.int (Int32.ofNat len), .int 0, .ref s.heap.size, .int (Int32.ofNat o), .ref b])) := c4.trans (by
    refine XS.astoreN X3.here hexec rfl (hb hbytes d3) rfl rfl rfl ?_
    refine XS.aloadN X3.here hexec rfl (hb hbytes d4) rfl rfl ?_
    refine XS.iloadN X3.here hexec rfl (hb hbytes d5) rfl ?_
    refine XS.aloadN X3.here hexec rfl (hb hbytes d6) rfl rfl ?_
    refine iconstV X3.here hexec rfl 0 (hb hbytes d7) (by decide) ?_
    refine XS.iloadN X3.here hexec rfl (hb hbytes d8) rfl ?_
    exact Steps.refl _)
  obtain ⟨v6, T6, X6, E6, g6⟩ := X3.callS hexec (Cmp5.law l b A s.heap.size B3 o 0 len) hown (wks W (staticW U16 115 Cmp5.yN)) (wk W Cmp5.tab) (W := 0) (Nat.le_of_ble_eq_true rfl) (Nat.le_of_ble_eq_true rfl) (Nat.le_refl _) (by show 0 + len + 0 ≤ len; omega) (g := (mkF m 9 #[.val (.ref b), .val (.int (Int32.ofNat o)), .val (.int (Int32.ofNat len)), .val (.ref s.heap.size), .unset, .unset] [.int (Int32.ofNat len), .int (Int32.ofNat 0), .ref s.heap.size, .int (Int32.ofNat o), .ref b])) rfl (by rw [hml]; rfl) c5 (argsL := [.ref b, .int (Int32.ofNat o), .ref s.heap.size, .int (Int32.ofNat 0), .int (Int32.ofNat len)]) (rest := []) rfl rfl (by show 2 * 0 + 0 ≤ _; decide) (hb hbytes d9) (⟨rfl, hA3, ba3, hne, l1, by rw [bs3]; simp, hp⟩)
  obtain ⟨rfl, B6, p6, f6⟩ := E6
  have c7 : Steps p.tables e below (s₁.setTop (entryFrame m #[.ref b, .int (Int32.ofNat o), .int (Int32.ofNat len)] 6)) (T6.setTop (mkF m 12 #[.val (.ref b), .val (.int (Int32.ofNat o)), .val (.int (Int32.ofNat len)), .val (.ref s.heap.size), .unset, .unset] [.int (Int32.ofNat len)])) := g6
  have c8 : Steps p.tables e below (s₁.setTop (entryFrame m #[.ref b, .int (Int32.ofNat o), .int (Int32.ofNat len)] 6)) (T6.setTop (mkF m 58 #[.val (.ref b), .val (.int (Int32.ofNat o)), .val (.int (Int32.ofNat len)), .val (.ref s.heap.size), .val (.int (Int32.ofNat len)), .unset] [.ref s.heap.size])) := c7.trans (by
    refine XS.istore X6.here hexec rfl (hb hbytes d12) rfl rfl ?_
    refine XS.iload X6.here hexec rfl (hb hbytes d14) rfl ?_
    refine XS.iloadN X6.here hexec rfl (hb hbytes d16) rfl ?_
    refine XS.icmpYes X6.here hexec rfl (pc0 := 17) rfl (hb hbytes d17) rfl (ii_eq_t rfl) (by decide) rfl ?_
    refine XS.aloadN X6.here hexec rfl (hb hbytes d57) rfl rfl ?_
    exact Steps.refl _)
  have X8 := X6.wide (L' := []) (cells' := 1) (slots' := len) (fun x hx hlt => by
    simp only [List.nil_append, copyLocs, List.mem_map, List.mem_range] at hx
    obtain ⟨i, -, rfl⟩ := hx
    exact absurd hlt (Nat.lt_irrefl _)) (Nat.le_refl _) (by omega)
  exact ⟨T6, some (.ref s.heap.size), _, _, _, X8, rfl, rfl, rfl, (fun h => by cases h), ⟨⟨rfl, B6, ba3.like (X3.warmed.alike.symm.trans X6.warmed.alike) p6.1 f6.1 f6.2.1 f6.2.2.1, f6.2.1.trans bv3, by rw [X6.warmed.alike.findClass, f6.1]; exact bf3, by rw [f6.2.2.1, bs3]; simp, fun j hj => by rw [f6.2.2.2 j, if_pos (by omega)]; rfl, kp3.put p6 (Nat.le_refl _)⟩, by rw [p6.2.2, bh3, hh0]; simp⟩, fun fs hl => c8.trans (X8.areturnOut hexec rfl hret rfl (hb hbytes d58) hl)⟩
end Cmp3
namespace CodL
def yN : MethodName := ⟨"java/lang/StringUTF16", "coderFromArrayLen", "([BI)B"⟩
abbrev yB : ByteArray := jdk_52_method_15_code
theorem d0 : decode yB 0 = .ok (.iload_n 1, 1) := by decide +kernel
theorem d1 : decode yB 1 = .ok (.aload_n 0, 1) := by decide +kernel
theorem d2 : decode yB 2 = .ok (.arraylength, 1) := by decide +kernel
theorem d3 : decode yB 3 = .ok (.isub, 1) := by decide +kernel
theorem d4 : decode yB 4 = .ok (.bipush 31, 2) := by decide +kernel
theorem d6 : decode yB 6 = .ok (.iushr, 1) := by decide +kernel
theorem d7 : decode yB 7 = .ok (.i2b, 1) := by decide +kernel
theorem d8 : decode yB 8 = .ok (.ireturn, 1) := by decide +kernel
def site : List Cond := []
def tab : Cond := tabOf yN yB 2 (some .byte) site
def P (d : Addr) (B : Cell) (args : Array Value) (s : State) : Prop := args = #[.ref d, .int (Int32.ofNat B.slots.size)] ∧ Arr .byte d B s
def E (r : Option Value) (s u : State) : Prop := XT.PureE (some (.int 0)) r s u
/-- an array as long as the number of chars: LATIN1 -/
theorem law (l : Launch) (d : Addr) (B : Cell) : Law l yN 2 2 0 0 yB 2 (some .byte) site (P d B) E [] 0 0 := by
  refine Law.of_walk (plainFor_of_name (by decide +kernel)) (by decide +kernel) (by decide +kernel) (by decide) (fun _ _ h => by rw [h.1]; rfl) (fun _ U U' hal hh h => ⟨h.1, h.2.mv hal hh⟩) (fun r U U' V V' h1 hal h2 h => XT.PureE.mv r U U' V V' h1 hal h2 h) ?_
  intro p e s m args below meth c s₁ X0 hexec hbytes hml hret hlk hnm hown hh0 W hP
  obtain ⟨rfl, hB⟩ := hP
  have hB0 := hB.mv X0.warmed.alike hh0
  have c1 : Steps p.tables e below (s₁.setTop (entryFrame m #[.ref d, .int (Int32.ofNat B.slots.size)] 2)) (s₁.setTop (mkF m 0 #[.val (.ref d), .val (.int (Int32.ofNat B.slots.size))] [])) := entry rfl
  have c2 : Steps p.tables e below (s₁.setTop (entryFrame m #[.ref d, .int (Int32.ofNat B.slots.size)] 2)) (s₁.setTop (mkF m 2 #[.val (.ref d), .val (.int (Int32.ofNat B.slots.size))] [.ref d, .int (Int32.ofNat B.slots.size)])) := c1.trans (by
    refine XS.iloadN X0.here hexec rfl (hb hbytes d0) rfl ?_
    refine XS.aloadN X0.here hexec rfl (hb hbytes d1) rfl rfl ?_
    exact Steps.refl _)
  have c3 : Steps p.tables e below (s₁.setTop (entryFrame m #[.ref d, .int (Int32.ofNat B.slots.size)] 2)) (s₁.setTop (mkF m 8 #[.val (.ref d), .val (.int (Int32.ofNat B.slots.size))] [.int (lo8 (ushr (Int32.ofNat B.slots.size - Int32.ofNat B.slots.size) 31))])) := c2.trans (by
    refine X0.alen hexec hB0 rfl rfl (hb hbytes d2) ?_
    refine XS.isub X0.here hexec rfl (hb hbytes d3) rfl ?_
    refine bipushV X0.here hexec rfl 31 (hb hbytes d4) (by decide) ?_
    refine iushr X0.here hexec rfl (hb hbytes d6) rfl ?_
    refine i2b X0.here hexec rfl (hb hbytes d7) rfl ?_
    exact Steps.refl _)
  have e0 : lo8 (ushr (Int32.ofNat B.slots.size - Int32.ofNat B.slots.size) 31) = 0 := by rw [Int32.sub_self]; decide
  rw [e0] at c3
  exact ⟨s₁, some (.int 0), _, _, _, X0, rfl, rfl, rfl, (fun h => by cases h), ⟨rfl, hh0⟩, fun fs hl => c3.trans (X0.ireturnOut hexec hret rfl (Or.inr (Or.inr (Or.inl rfl))) (hb hbytes d8) hl)⟩
end CodL
/-- the String at a is Latin-1 over a new byte[] (the heap's one new cell): the low bytes of the len chars of A from o on; every cell but a is kept -/
def Got (a : Addr) (D : Cell) (fV fC : Field) (A : Cell) (o len : Nat) (r : Option Value) (s u : State) : Prop := r = none ∧ ∃ D' V : Cell, Blank "java/lang/String" a D' u ∧ Same D D' [fV.slot, fC.slot] ∧ D'.slots[fV.slot]? = some (.ref s.heap.size) ∧ D'.slots[fC.slot]? = some (.int 0) ∧ Arr .byte s.heap.size V u ∧ V.vm = .none ∧ u.vm.findClass "[B" = some V.cls ∧ V.slots.size = len ∧ (∀ j, j < len → V.slots[j]? = some (.int (lo8 (cv A (o + j))))) ∧ (∀ (y : Addr) (c : Cell), y ≠ a → s.heap[y]? = some c → u.heap[y]? = some c) ∧ u.heap.size = s.heap.size + 1
theorem Got.mv {a : Addr} {D A : Cell} {fV fC : Field} {o len : Nat} : ∀ r (U U' V V' : State), U'.heap = U.heap → V.vm.Alike V'.vm → V'.heap = V.heap → Got a D fV fC A o len r U V → Got a D fV fC A o len r U' V' :=
  fun r U U' V V' h1 hal h2 ⟨e0, D', X, a1, a2, a3, a4, a5, a6, a7, a8, a9, a10, a11⟩ => ⟨e0, D', X, a1.mv hal h2, a2, by rw [h1]; exact a3, a4, by rw [h1]; exact a5.mv hal h2, a6, by rw [hal.findClass]; exact a7, a8, a9, by rw [h1, h2]; exact a10, by rw [h1, h2]; exact a11⟩
namespace New4
def yN : MethodName := ⟨"java/lang/String", "<init>", "([CIILjava/lang/Void;)V"⟩
abbrev yB : ByteArray := jdk_42_method_149_code
theorem d0 : decode yB 0 = .ok (.aload_n 0, 1) := by decide +kernel
theorem d1 : decode yB 1 = .ok (.invokespecial 1, 3) := by decide +kernel
theorem d4 : decode yB 4 = .ok (.iload_n 3, 1) := by decide +kernel
theorem d5 : decode yB 5 = .ok (.ifCond (.ne) 22, 3) := by decide +kernel
theorem d27 : decode yB 27 = .ok (.getstatic 38, 3) := by decide +kernel
theorem d30 : decode yB 30 = .ok (.ifCond (.eq) 28, 3) := by decide +kernel
theorem d33 : decode yB 33 = .ok (.aload_n 1, 1) := by decide +kernel
theorem d34 : decode yB 34 = .ok (.iload_n 2, 1) := by decide +kernel
theorem d35 : decode yB 35 = .ok (.iload_n 3, 1) := by decide +kernel
theorem d36 : decode yB 36 = .ok (.invokestatic 177, 3) := by decide +kernel
theorem d39 : decode yB 39 = .ok (.astore 5, 2) := by decide +kernel
theorem d41 : decode yB 41 = .ok (.aload_n 0, 1) := by decide +kernel
theorem d42 : decode yB 42 = .ok (.aload 5, 2) := by decide +kernel
theorem d44 : decode yB 44 = .ok (.iload_n 3, 1) := by decide +kernel
theorem d45 : decode yB 45 = .ok (.invokestatic 47, 3) := by decide +kernel
theorem d48 : decode yB 48 = .ok (.putfield 15, 3) := by decide +kernel
theorem d51 : decode yB 51 = .ok (.aload_n 0, 1) := by decide +kernel
theorem d52 : decode yB 52 = .ok (.aload 5, 2) := by decide +kernel
theorem d54 : decode yB 54 = .ok (.putfield 9, 3) := by decide +kernel
theorem d57 : decode yB 57 = .ok (.return_, 1) := by decide +kernel
def site : List Cond := [.fieldLink "java/lang/String" 38 "java/lang/String" "COMPACT_STRINGS" "Z", Cmp3.tab, CodL.tab, .laysFinal "java/lang/String" "java/lang/String" "value" "[B", .fieldLink "java/lang/String" 9 "java/lang/String" "value" "[B", .laysFinal "java/lang/String" "java/lang/String" "coder" "B", .fieldLink "java/lang/String" 15 "java/lang/String" "coder" "B"] ++ objW "java/lang/String" 1 ++ staticW "java/lang/String" 177 Cmp3.yN ++ staticW "java/lang/String" 47 CodL.yN
def tab : Cond := tabOf yN yB 6 none site
def P (a : Addr) (D : Cell) (fV fC : Field) (b : Addr) (A : Cell) (z : Int32) (o len : Nat) (args : Array Value) (s : State) : Prop := args = #[.ref a, .ref b, .int (Int32.ofNat o), .int (Int32.ofNat len), .null] ∧ Blank "java/lang/String" a D s ∧ Found "java/lang/String" "value" "[B" fV s ∧ Found "java/lang/String" "coder" "B" fC s ∧ Ch b A s ∧ StaticIs s "java/lang/String" "COMPACT_STRINGS" "Z" (.int z) ∧ ¬ z = 0 ∧ 0 < len ∧ o + len ≤ A.slots.size ∧ len ≤ 536870912 ∧ ∀ i, i < len → ¬ 255 < cv A (o + i)
def E (a : Addr) (D : Cell) (fV fC : Field) (A : Cell) (o len : Nat) (r : Option Value) (s u : State) : Prop := Got a D fV fC A o len r s u
/-- len > 0, no char of the range above 255: a Latin-1 String of their low bytes -/
theorem law (l : Launch) (a : Addr) (D : Cell) (fV fC : Field) (b : Addr) (A : Cell) (z : Int32) (o len : Nat) : Law l yN 5 4 2 35 yB 6 none site (P a D fV fC b A z o len) (E a D fV fC A o len) [⟨a, fC.slot⟩, ⟨a, fV.slot⟩] 1 len := by
  refine Law.of_walk (plainFor_of_name (by decide +kernel)) (by decide +kernel) (by decide +kernel) (by decide) (fun _ _ h => by rw [h.1]; rfl) (fun _ U U' hal hh h => ⟨h.1, h.2.1.mv hal hh, h.2.2.1.al hal, h.2.2.2.1.al hal, h.2.2.2.2.1.mv hal hh, h.2.2.2.2.2.1.there hal hh, h.2.2.2.2.2.2⟩) (fun r U U' V V' h1 hal h2 h => Got.mv r U U' V V' h1 hal h2 h) ?_
  intro p e s m args below meth c s₁ X0 hexec hbytes hml hret hlk hnm hown hh0 W hP
  obtain ⟨rfl, hB, f1, f2, hA, s1, hz, l0, l1, l2, hp⟩ := hP
  have a31 := hA.1.2.2.2
  have c1 : Steps p.tables e below (s₁.setTop (entryFrame m #[.ref a, .ref b, .int (Int32.ofNat o), .int (Int32.ofNat len), .null] 6)) (s₁.setTop (mkF m 0 #[.val (.ref a), .val (.ref b), .val (.int (Int32.ofNat o)), .val (.int (Int32.ofNat len)), .val .null, .unset] [])) := entry rfl
  have c2 : Steps p.tables e below (s₁.setTop (entryFrame m #[.ref a, .ref b, .int (Int32.ofNat o), .int (Int32.ofNat len), .null] 6)) (s₁.setTop (mkF m 1 #[.val (.ref a), .val (.ref b), .val (.int (Int32.ofNat o)), .val (.int (Int32.ofNat len)), .val .null, .unset] [.ref a])) := c1.trans (by
    refine XS.aloadN X0.here hexec rfl (hb hbytes d0) rfl rfl ?_
    exact Steps.refl _)
  obtain ⟨T3, X3, q3, st3⟩ := X0.oinit hexec hown (wks W (objW "java/lang/String" 1)) (g := (mkF m 1 #[.val (.ref a), .val (.ref b), .val (.int (Int32.ofNat o)), .val (.int (Int32.ofNat len)), .val .null, .unset] [.ref a])) rfl (by rw [hml]; rfl) (rest := []) rfl (hb hbytes d1) (W := 0) (by show 2 * 0 + 0 ≤ _; decide) (Nat.le_of_ble_eq_true rfl) (Nat.le_of_ble_eq_true rfl)
  have hh3 := q3.trans hh0
  have c4 : Steps p.tables e below (s₁.setTop (entryFrame m #[.ref a, .ref b, .int (Int32.ofNat o), .int (Int32.ofNat len), .null] 6)) (T3.setTop (mkF m 27 #[.val (.ref a), .val (.ref b), .val (.int (Int32.ofNat o)), .val (.int (Int32.ofNat len)), .val .null, .unset] [])) := (c2.trans (st3 _ (Steps.refl _))).trans (by
    refine XS.iloadN X3.here hexec rfl (hb hbytes d4) rfl ?_
    refine XS.ifYes X3.here hexec rfl (pc0 := 5) rfl (hb hbytes d5) rfl (i0_ne_t (nz32 (by omega) l0)) (by decide) rfl ?_
    exact Steps.refl _)
  obtain ⟨T5, X5, q5, st5⟩ := X3.sget hexec hown (wk W (.fieldLink "java/lang/String" 38 "java/lang/String" "COMPACT_STRINGS" "Z")) s1 (fun _ _ h => by rw [hh3]; exact h) (g := (mkF m 27 #[.val (.ref a), .val (.ref b), .val (.int (Int32.ofNat o)), .val (.int (Int32.ofNat len)), .val .null, .unset] [])) rfl (hb hbytes d27)
  have hh5 := q5.trans hh3
  have c6 : Steps p.tables e below (s₁.setTop (entryFrame m #[.ref a, .ref b, .int (Int32.ofNat o), .int (Int32.ofNat len), .null] 6)) (T5.setTop (mkF m 30 #[.val (.ref a), .val (.ref b), .val (.int (Int32.ofNat o)), .val (.int (Int32.ofNat len)), .val .null, .unset] [.int z])) := c4.trans (st5 _ (Steps.refl _))
  have c7 : Steps p.tables e below (s₁.setTop (entryFrame m #[.ref a, .ref b, .int (Int32.ofNat o), .int (Int32.ofNat len), .null] 6)) (T5.setTop (mkF m 36 #[.val (.ref a), .val (.ref b), .val (.int (Int32.ofNat o)), .val (.int (Int32.ofNat len)), .val .null, .unset] [.int (Int32.ofNat len), .int (Int32.ofNat o), .ref b])) := c6.trans (by
    refine XS.ifNo X5.here hexec rfl (hb hbytes d30) rfl (i0_eq_f hz) ?_
    refine XS.aloadN X5.here hexec rfl (hb hbytes d33) rfl rfl ?_
    refine XS.iloadN X5.here hexec rfl (hb hbytes d34) rfl ?_
    refine XS.iloadN X5.here hexec rfl (hb hbytes d35) rfl ?_
    exact Steps.refl _)
  obtain ⟨v8, T8, X8, E8, g8⟩ := X5.callS hexec (Cmp3.law l b A o len) hown (wks W (staticW "java/lang/String" 177 Cmp3.yN)) (wk W Cmp3.tab) (W := 0) (Nat.le_of_ble_eq_true rfl) (Nat.le_of_ble_eq_true rfl) (Nat.le_refl _) (by show 0 + len ≤ len; omega) (g := (mkF m 36 #[.val (.ref a), .val (.ref b), .val (.int (Int32.ofNat o)), .val (.int (Int32.ofNat len)), .val .null, .unset] [.int (Int32.ofNat len), .int (Int32.ofNat o), .ref b])) rfl (by rw [hml]; rfl) c7 (argsL := [.ref b, .int (Int32.ofNat o), .int (Int32.ofNat len)]) (rest := []) rfl rfl (by show 2 * 0 + 0 ≤ _; decide) (hb hbytes d36) (⟨rfl, hA.mv X5.warmed.alike hh5, l1, l2, hp⟩)
  obtain ⟨e8, z8⟩ := E8
  obtain ⟨rfl, N, n1, n2, n3, n4, n5, n6⟩ := NewArr.mv _ T5 s _ _ hh5.symm (Vm.Alike.refl _) rfl e8
  rw [hh5] at z8
  have hB1 := hB.keep X8.warmed.alike (n6 _ _ hB.1)
  have hne : s.heap.size ≠ a := (Nat.ne_of_lt (Array.getElem?_eq_some_iff.mp hB.1).1).symm
  have c9 : Steps p.tables e below (s₁.setTop (entryFrame m #[.ref a, .ref b, .int (Int32.ofNat o), .int (Int32.ofNat len), .null] 6)) (T8.setTop (mkF m 39 #[.val (.ref a), .val (.ref b), .val (.int (Int32.ofNat o)), .val (.int (Int32.ofNat len)), .val .null, .unset] [.ref s.heap.size])) := g8
  have c10 : Steps p.tables e below (s₁.setTop (entryFrame m #[.ref a, .ref b, .int (Int32.ofNat o), .int (Int32.ofNat len), .null] 6)) (T8.setTop (mkF m 45 #[.val (.ref a), .val (.ref b), .val (.int (Int32.ofNat o)), .val (.int (Int32.ofNat len)), .val .null, .val (.ref s.heap.size)] [.int (Int32.ofNat N.slots.size), .ref s.heap.size, .ref a])) := by
    have hc : Steps p.tables e below (s₁.setTop (entryFrame m #[.ref a, .ref b, .int (Int32.ofNat o), .int (Int32.ofNat len), .null] 6)) (T8.setTop (mkF m 45 #[.val (.ref a), .val (.ref b), .val (.int (Int32.ofNat o)), .val (.int (Int32.ofNat len)), .val .null, .val (.ref s.heap.size)] [.int (Int32.ofNat len), .ref s.heap.size, .ref a])) := c9.trans (by
      refine XS.astore X8.here hexec rfl (hb hbytes d39) rfl rfl rfl ?_
      refine XS.aloadN X8.here hexec rfl (hb hbytes d41) rfl rfl ?_
      refine XS.aload X8.here hexec rfl (hb hbytes d42) rfl rfl ?_
      refine XS.iloadN X8.here hexec rfl (hb hbytes d44) rfl ?_
      exact Steps.refl _)
    rw [n4]; exact hc
  obtain ⟨v11, T11, X11, E11, g11⟩ := X8.callS hexec (CodL.law l s.heap.size N) hown (wks W (staticW "java/lang/String" 47 CodL.yN)) (wk W CodL.tab) (W := 1) (Nat.le_of_ble_eq_true rfl) (Nat.le_of_ble_eq_true rfl) (Nat.le_refl _) (by show 0 + len + 0 ≤ len; omega) (g := (mkF m 45 #[.val (.ref a), .val (.ref b), .val (.int (Int32.ofNat o)), .val (.int (Int32.ofNat len)), .val .null, .val (.ref s.heap.size)] [.int (Int32.ofNat N.slots.size), .ref s.heap.size, .ref a])) rfl (by rw [hml]; rfl) c10 (argsL := [.ref s.heap.size, .int (Int32.ofNat N.slots.size)]) (rest := [.ref a]) rfl rfl (by show 2 * 0 + (1 + 0) ≤ _; decide) (hb hbytes d45) (⟨rfl, n1⟩)
  obtain ⟨rfl, q11⟩ := E11
  have hB11 := hB1.mv (X8.warmed.alike.symm.trans X11.warmed.alike) q11
  have c12 : Steps p.tables e below (s₁.setTop (entryFrame m #[.ref a, .ref b, .int (Int32.ofNat o), .int (Int32.ofNat len), .null] 6)) (T11.setTop (mkF m 48 #[.val (.ref a), .val (.ref b), .val (.int (Int32.ofNat o)), .val (.int (Int32.ofNat len)), .val .null, .val (.ref s.heap.size)] [.int 0, .ref a])) := g11
  obtain ⟨T13, X13, p13, bl13, sl13, st13⟩ := X11.finit hexec hown (wk W (.fieldLink "java/lang/String" 15 "java/lang/String" "coder" "B")) (Or.inr ⟨_, (wk W (.laysFinal "java/lang/String" "java/lang/String" "coder" "B"))⟩) (Or.inl ⟨rfl, hnm⟩) f2 (Or.inl rfl) hB11 (t := .byte) (by decide +kernel) rfl (g := (mkF m 48 #[.val (.ref a), .val (.ref b), .val (.int (Int32.ofNat o)), .val (.int (Int32.ofNat len)), .val .null, .val (.ref s.heap.size)] [.int 0, .ref a])) rfl (rest := []) rfl (hb hbytes d48)
  have c14 : Steps p.tables e below (s₁.setTop (entryFrame m #[.ref a, .ref b, .int (Int32.ofNat o), .int (Int32.ofNat len), .null] 6)) (T13.setTop (mkF m 54 #[.val (.ref a), .val (.ref b), .val (.int (Int32.ofNat o)), .val (.int (Int32.ofNat len)), .val .null, .val (.ref s.heap.size)] [.ref s.heap.size, .ref a])) := (c12.trans (st13 _ (Steps.refl _))).trans (by
    refine XS.aloadN X13.here hexec rfl (hb hbytes d51) rfl rfl ?_
    refine XS.aload X13.here hexec rfl (hb hbytes d52) rfl rfl ?_
    exact Steps.refl _)
  obtain ⟨T15, X15, p15, bl15, sl15, st15⟩ := X13.finit hexec hown (wk W (.fieldLink "java/lang/String" 9 "java/lang/String" "value" "[B")) (Or.inr ⟨_, (wk W (.laysFinal "java/lang/String" "java/lang/String" "value" "[B"))⟩) (Or.inl ⟨rfl, hnm⟩) f1 (Or.inl rfl) bl13 (t := (.array .byte)) (by decide +kernel) rfl (g := (mkF m 54 #[.val (.ref a), .val (.ref b), .val (.int (Int32.ofNat o)), .val (.int (Int32.ofNat len)), .val .null, .val (.ref s.heap.size)] [.ref s.heap.size, .ref a])) rfl (rest := []) rfl (hb hbytes d54)
  have c16 : Steps p.tables e below (s₁.setTop (entryFrame m #[.ref a, .ref b, .int (Int32.ofNat o), .int (Int32.ofNat len), .null] 6)) (T15.setTop (mkF m 57 #[.val (.ref a), .val (.ref b), .val (.int (Int32.ofNat o)), .val (.int (Int32.ofNat len)), .val .null, .val (.ref s.heap.size)] [])) := c14.trans (st15 _ (Steps.refl _))
  have ap := apart (Or.inr ⟨_, (wk W (.laysFinal "java/lang/String" "java/lang/String" "value" "[B"))⟩) (Or.inr ⟨_, (wk W (.laysFinal "java/lang/String" "java/lang/String" "coder" "B"))⟩) f1 f2 (t₁ := .array .byte) (t₂ := .byte) (by decide +kernel) (by decide +kernel) (by decide)
  have al := X8.warmed.alike.symm.trans X15.warmed.alike
  have n7 : T11.heap[s.heap.size]? = some N := by rw [q11]; exact n1.1
  exact ⟨T15, none, _, _, _, X15, by simp, rfl, by omega, (fun _ => rfl), ⟨rfl, _, N, bl15, ((Same.refl D _).set _ (by simp)).set _ (by simp), sl15, (Cell.slots_setSlot_ne _ ap).trans sl13, n1.keep al (p15.other hne (p13.other hne n7)), n2, by rw [al.findClass]; exact n3, n4, n5, fun y c h1 h2 => p15.other h1 (p13.other h1 (by rw [q11]; exact n6 y c h2)), by rw [p15.2.2, p13.2.2, q11]; exact z8⟩, fun fs hl => c16.trans (X15.returnOut hexec hret (hb hbytes d57) hl)⟩
end New4
namespace New1
def yN : MethodName := ⟨"java/lang/String", "<init>", "([C)V"⟩
abbrev yB : ByteArray := jdk_42_method_3_code
theorem d0 : decode yB 0 = .ok (.aload_n 0, 1) := by decide +kernel
theorem d1 : decode yB 1 = .ok (.aload_n 1, 1) := by decide +kernel
theorem d2 : decode yB 2 = .ok (.iconst 0, 1) := by decide +kernel
theorem d3 : decode yB 3 = .ok (.aload_n 1, 1) := by decide +kernel
theorem d4 : decode yB 4 = .ok (.arraylength, 1) := by decide +kernel
theorem d5 : decode yB 5 = .ok (.aconst_null, 1) := by decide +kernel
theorem d6 : decode yB 6 = .ok (.invokespecial 27, 3) := by decide +kernel
theorem d9 : decode yB 9 = .ok (.return_, 1) := by decide +kernel
def site : List Cond := [New4.tab] ++ initW "java/lang/String" 27 New4.yN
def tab : Cond := tabOf yN yB 2 none site
def P (a : Addr) (D : Cell) (fV fC : Field) (b : Addr) (A : Cell) (z : Int32) (args : Array Value) (s : State) : Prop := args = #[.ref a, .ref b] ∧ Blank "java/lang/String" a D s ∧ Found "java/lang/String" "value" "[B" fV s ∧ Found "java/lang/String" "coder" "B" fC s ∧ Ch b A s ∧ StaticIs s "java/lang/String" "COMPACT_STRINGS" "Z" (.int z) ∧ ¬ z = 0 ∧ 0 < A.slots.size ∧ A.slots.size ≤ 536870912 ∧ ∀ i, i < A.slots.size → ¬ 255 < cv A i
def E (a : Addr) (D : Cell) (fV fC : Field) (A : Cell) (r : Option Value) (s u : State) : Prop := Got a D fV fC A 0 A.slots.size r s u
/-- new String(chars), not empty, no char above 255: a Latin-1 String of their low bytes -/
theorem law (l : Launch) (a : Addr) (D : Cell) (fV fC : Field) (b : Addr) (A : Cell) (z : Int32) : Law l yN 2 1 3 52 yB 2 none site (P a D fV fC b A z) (E a D fV fC A) [⟨a, fC.slot⟩, ⟨a, fV.slot⟩] 1 A.slots.size := by
  refine Law.of_walk (plainFor_of_name (by decide +kernel)) (by decide +kernel) (by decide +kernel) (by decide) (fun _ _ h => by rw [h.1]; rfl) (fun _ U U' hal hh h => ⟨h.1, h.2.1.mv hal hh, h.2.2.1.al hal, h.2.2.2.1.al hal, h.2.2.2.2.1.mv hal hh, h.2.2.2.2.2.1.there hal hh, h.2.2.2.2.2.2⟩) (fun r U U' V V' h1 hal h2 h => Got.mv r U U' V V' h1 hal h2 h) ?_
  intro p e s m args below meth c s₁ X0 hexec hbytes hml hret hlk hnm hown hh0 W hP
  obtain ⟨rfl, hB, f1, f2, hA, s1, hz, l0, l2, hp⟩ := hP
  have c1 : Steps p.tables e below (s₁.setTop (entryFrame m #[.ref a, .ref b] 2)) (s₁.setTop (mkF m 0 #[.val (.ref a), .val (.ref b)] [])) := entry rfl
  have c2 : Steps p.tables e below (s₁.setTop (entryFrame m #[.ref a, .ref b] 2)) (s₁.setTop (mkF m 6 #[.val (.ref a), .val (.ref b)] [.null, .int (Int32.ofNat A.slots.size), .int 0, .ref b, .ref a])) := c1.trans (by
    refine XS.aloadN X0.here hexec rfl (hb hbytes d0) rfl rfl ?_
    refine XS.aloadN X0.here hexec rfl (hb hbytes d1) rfl rfl ?_
    refine iconstV X0.here hexec rfl 0 (hb hbytes d2) (by decide) ?_
    refine XS.aloadN X0.here hexec rfl (hb hbytes d3) rfl rfl ?_
    refine X0.alen hexec (hA.1.mv X0.warmed.alike hh0) rfl rfl (hb hbytes d4) ?_
    refine XS.aconstNull X0.here hexec rfl (hb hbytes d5) ?_
    exact Steps.refl _)
  obtain ⟨v3, T3, X3, E3, g3⟩ := X0.callN hexec (New4.law l a D fV fC b A z 0 A.slots.size) rfl hown (wks W (initW "java/lang/String" 27 New4.yN)) (W New4.tab (by simp only [site, List.mem_cons, List.mem_append, true_or, or_true])) (W := 0) (Nat.le_of_ble_eq_true rfl) (Nat.le_of_ble_eq_true rfl) (Nat.le_refl _) (by show 0 + A.slots.size ≤ A.slots.size; omega) (g := (mkF m 6 #[.val (.ref a), .val (.ref b)] [.null, .int (Int32.ofNat A.slots.size), .int (Int32.ofNat 0), .ref b, .ref a])) rfl (by rw [hml]; rfl) c2 (argsL := [.ref b, .int (Int32.ofNat 0), .int (Int32.ofNat A.slots.size), .null]) (rest := []) rfl rfl (by show 2 * 0 + 0 ≤ _; decide) (hb hbytes d6) (⟨rfl, hB.mv X0.warmed.alike hh0, f1.al X0.warmed.alike, f2.al X0.warmed.alike, hA.mv X0.warmed.alike hh0, s1.there X0.warmed.alike hh0, hz, l0, by omega, l2, fun i hi => by rw [Nat.zero_add]; exact hp i hi⟩)
  have e0 := Got.mv _ s₁ s _ _ hh0.symm (Vm.Alike.refl _) rfl E3
  obtain rfl := e0.1
  have c4 : Steps p.tables e below (s₁.setTop (entryFrame m #[.ref a, .ref b] 2)) (T3.setTop (mkF m 9 #[.val (.ref a), .val (.ref b)] [])) := g3
  exact ⟨T3, none, _, _, _, X3, by simp, rfl, by omega, (fun _ => rfl), e0, fun fs hl => c4.trans (X3.returnOut hexec hret (hb hbytes d9) hl)⟩
theorem pays {l : Launch} {R : Room} {p : Program} {e : Env} {below : List Frame} {s : State} {sargs : Array Value} {len W : Nat} (a : Addr) (D : Cell) (fV fC : Field) (b : Addr) (A : Cell) (z : Int32) (htab : tab.before sargs s = true) (hfr : 4 ≤ R.frames) (hlo : W + 65 ≤ R.locals) :
    Back l R p e below s sargs yN len W (fun A₁ a₁ => A₁.cells + 1 ≤ R.cells ∧ A₁.slots + A.slots.size ≤ R.slots ∧ P a D fV fC b A z a₁ A₁.U) (fun A₁ _ v₁ B₁ => E a D fV fC A v₁ A₁.U B₁.U ∧ B₁.locs = A₁.locs ++ [⟨a, fC.slot⟩, ⟨a, fV.slot⟩] ∧ B₁.cells = A₁.cells + 1 ∧ B₁.slots = A₁.slots + A.slots.size) :=
  (law l a D fV fC b A z).pays htab hfr (by omega)
end New1
/-- the byte, read back as charAt reads it, is the char -/
theorem lo8_mask {x : Int32} (h0 : ¬ x < 0) (h1 : ¬ 255 < x) : lo8 x &&& 255 = x := by
  have t : ∀ k : Fin 256, lo8 (Int32.ofNat k.val) &&& 255 = Int32.ofNat k.val := by decide +kernel
  rw [Int32.lt_iff_toInt_lt] at h0 h1
  have e0 : (0 : Int32).toInt = 0 := rfl
  have e1 : (255 : Int32).toInt = 255 := rfl
  obtain ⟨k, hk⟩ : ∃ k : Nat, x.toInt = k := ⟨x.toInt.toNat, by omega⟩
  have hx : x = Int32.ofNat k := Int32.toInt_inj.mp (by rw [hk, Int32.toInt_ofNat_small (by omega)])
  rw [hx]
  exact t ⟨k, by omega⟩
end StrChars
namespace StrChars.Road
open Jvm Sem ClassFile Op Lib Jvm.Stand Jvm.Free Jvm.Free.XT
open Jvm.Lib.Cold (StaticIs)
abbrev ST : String := "java/lang/String"
/-- every table word that New1's law asks, flat -/
abbrev words : List Jvm.Cond := [.code New1.yN New1.yB 2 none, .initialized ST, .methodLink ST 27 New4.yN, .instanceMethod New4.yN,
  .code New4.yN New4.yB 6 none, .fieldLink ST 38 ST "COMPACT_STRINGS" "Z", .laysFinal ST ST "value" "[B", .fieldLink ST 9 ST "value" "[B", .laysFinal ST ST "coder" "B", .fieldLink ST 15 ST "coder" "B",
  .methodLink ST 1 Lib.objectInit, .instanceMethod Lib.objectInit, .code Lib.objectInit ⟨#[0xb1]⟩ 1 none, .methodLink ST 177 Cmp3.yN, .static Cmp3.yN, .methodLink ST 47 CodL.yN, .static CodL.yN,
  .code Cmp3.yN Cmp3.yB 6 (some (.array .byte)), .initialized U16, .arrayClass .byte, .methodLink U16 115 Cmp5.yN, .static Cmp5.yN, .code Cmp5.yN Cmp5.yB 7 (some .int), .code CodL.yN CodL.yB 2 (some .byte)]
theorem tab_of {a : Array Value} {s : State} (h : ∀ w ∈ words, w.before a s = true) : New1.tab.before a s = true := by
  have h5 : Cmp5.tab.before a s = true := unparts (wk h (.code Cmp5.yN Cmp5.yB 7 (some .int))) (wks h (.initialized Cmp5.yN.cls :: Cmp5.site))
  have hc : CodL.tab.before a s = true := unparts (wk h (.code CodL.yN CodL.yB 2 (some .byte))) (wks h (.initialized CodL.yN.cls :: CodL.site))
  have q5 : ∀ w ∈ Cmp5.tab :: words, w.before a s = true := fun w hw => (List.mem_cons.mp hw).elim (fun e => e ▸ h5) (h w)
  have h3 : Cmp3.tab.before a s = true := unparts (wk q5 (.code Cmp3.yN Cmp3.yB 6 (some (.array .byte)))) (wks q5 (.initialized Cmp3.yN.cls :: Cmp3.site))
  have q3 : ∀ w ∈ Cmp3.tab :: CodL.tab :: words, w.before a s = true := fun w hw => (List.mem_cons.mp hw).elim (fun e => e ▸ h3) fun hw => (List.mem_cons.mp hw).elim (fun e => e ▸ hc) (h w)
  have h4 : New4.tab.before a s = true := unparts (wk q3 (.code New4.yN New4.yB 6 none)) (wks q3 (.initialized New4.yN.cls :: New4.site))
  have q4 : ∀ w ∈ New4.tab :: words, w.before a s = true := fun w hw => (List.mem_cons.mp hw).elim (fun e => e ▸ h4) (h w)
  exact unparts (wk q4 (.code New1.yN New1.yB 2 none)) (wks q4 (.initialized New1.yN.cls :: New1.site))
/-- the words ride from the start Z to the walk's own state -/
theorem moved {Z s : State} {a0 args : Array Value} (hZ : Z.Warmed39 s.vm) (hw : ∀ d ∈ words, d.before a0 Z = true) : ∀ d ∈ words, d.before args s = true := fun d hd => by
  have q := hw d hd
  have t : ∀ d ∈ words, d = .arrayClass .byte ∨ (d.onTables && d.keepsFace) = true := by decide +kernel
  rcases t d hd with rfl | t
  · exact RoadKit.mvA hZ q
  · exact RoadKit.mv hZ q t
/-- WHAT COMES BACK, over the tables of the start Z: h the heap at the call, h' behind it -/
def Q (Z : State) (x : Addr) (A : Cell) (h : Heap) (v : Option Value) (h' : Heap) (L : List Loc) : Prop := v = none ∧ (∀ y ∈ L, y.base = x) ∧ RoadKit.Keep h h' [x] ∧ h'.size = h.size + 1 ∧ RoadKit.Exa Z h' x ST ∧ RoadKit.Fld Z h' x ST "value" "[B" (.ref h.size) ∧ RoadKit.Fld Z h' x ST "coder" "B" (.int 0) ∧
  (∃ V : Cell, RoadKit.Arr Z h' h.size V .byte ∧ V.vm = .none ∧ Z.vm.findClass "[B" = some V.cls ∧ V.slots.size = A.slots.size ∧ ∀ j, j < A.slots.size → V.slots[j]? = some (.int (lo8 (cv A j)))) ∧
  ∀ (O n d : String) (w : Value), RoadKit.Fld Z h x O n d w → RoadKit.slotOf Z O n d ≠ RoadKit.slotOf Z ST "value" "[B" → RoadKit.slotOf Z O n d ≠ RoadKit.slotOf Z ST "coder" "B" → RoadKit.Fld Z h' x O n d w
/-- **new String(chars) AT A CALL, IN THE ROAD'S FORM**: for specialBack behind newO: x the fresh String, b the char[] with the cell A -/
theorem back {p : Program} {l : Launch} {e : Env} {R : Room} {s : State} {args : Array Value} {below : List Frame} {len W : Nat} {Z : State} {a0 : Array Value} {h : Heap} (hZ : Z.Warmed39 s.vm) (hw : ∀ d ∈ words, d.before a0 Z = true) {kI : Nat} (wi : (Jvm.Cond.instantiable ST kI).before a0 Z = true)
    {x b : Addr} {A : Cell} {z : Int32} {v0 c0 : Value} (E : RoadKit.Exa Z h x ST) (V : RoadKit.Fld Z h x ST "value" "[B" v0) (C : RoadKit.Fld Z h x ST "coder" "B" c0) (K : RoadKit.Arr Z h b A .char) (hty : Typed .char A) (S : RoadKit.Sta Z h ST "COMPACT_STRINGS" "Z" (.int z)) (hz : ¬ z = 0)
    (l0 : 0 < A.slots.size) (l2 : A.slots.size ≤ 536870912) (hp : ∀ i, i < A.slots.size → ¬ 255 < cv A i) (hfr : 4 ≤ R.frames) (hlo : W + 65 ≤ R.locals) :
    Back l R p e below s args New1.yN len W (fun P a => a = #[.ref x, .ref b] ∧ P.U.heap = h ∧ P.cells + 1 ≤ R.cells ∧ P.slots + A.slots.size ≤ R.slots)
      (fun P _ v B => ∃ L, Q Z x A h v B.U.heap L ∧ B.locs = P.locs ++ L ∧ B.cells = P.cells + 1 ∧ B.slots = P.slots + A.slots.size) := by
  intro m meth c P g ig mk a X hg hsize hdg hW hn hp'
  obtain ⟨rfl, rfl, r1, r2⟩ := hp'
  have al : Z.vm.Alike P.U.vm := hZ.alike.trans X.warmed.alike
  obtain ⟨D, cfV, kV, iV, fV, hD, gV, stV, knV, obV, asV, slV⟩ := id V
  obtain ⟨D', cfC, kC, iC, fC, hD', gC, stC, -, -, asC, slC⟩ := id C
  cases hD.symm.trans hD'
  obtain ⟨D2, kD, e1, e2, e3, e4, e5⟩ := id E
  cases hD.symm.trans e1
  obtain ⟨c2, k2, i1, i2, i3, -⟩ := Cond.instantiable_spec wi
  cases e2.symm.trans i1
  cases e3.symm.trans i2
  obtain ⟨kU, u1, u2⟩ := al.2.2 _ _ e3
  have hB : Blank ST x D P.U := ⟨hD, ⟨knV, fun q hq => by rw [hq] at obV; cases obV⟩, by rw [al.findClass]; exact e2, kU, u1, by rw [u2]; exact i3, by rw [u2]; exact e5 i3⟩
  have F1 : Found ST "value" "[B" fV P.U := ⟨SBG.found_only al ⟨cfV, kV, iV, gV⟩, stV⟩
  have F2 : Found ST "coder" "B" fC P.U := ⟨SBG.found_only al ⟨cfC, kC, iC, gC⟩, stC⟩
  have hA : Ch b A P.U := ⟨⟨K.1, State.isArrayOf_alike al K.2.1, K.2.2, by omega⟩, hty⟩
  have hS : StaticIs P.U ST "COMPACT_STRINGS" "Z" (.int z) := by
    obtain ⟨cfS, iS, kS, fS, st, cS, t1, t2, t3, t4, t5, t6, t7⟩ := S
    exact StaticIs.there (s := { Z with heap := P.U.heap }) ⟨cfS, iS, kS, fS, st, cS, t1, t2, t3, t4, t5, (fun q => by rw [q] at t6; cases t6), t7⟩ al rfl
  obtain ⟨v, B, X', ⟨⟨hv, E', V', q1, q2, q3, q4, q5, q6, q7, q8, q9, q10, q11⟩, hl, hc, hs⟩, st⟩ := New1.pays x D fV fC b A z (tab_of (moved hZ hw)) hfr hlo m meth c P g ig mk _ X hg hsize hdg hW hn ⟨r1, r2, rfl, hB, F1, F2, hA, hS, hz, l0, l2, hp⟩
  have al' : Z.vm.Alike B.U.vm := hZ.alike.trans X'.warmed.alike
  have hsz : E'.slots.size = D.slots.size := by
    obtain ⟨-, -, -, kB, w1, w2, w3⟩ := q1
    obtain ⟨kB', y1, y2⟩ := al'.2.2 _ _ e3
    rw [q2.2.1] at w1
    cases w1.symm.trans y1
    rw [w3, e5 i3, y2]
  refine ⟨v, B, X', ⟨_, ⟨hv, ?_, ⟨by omega, fun y cy hy hn' => q10 y cy (by simpa using hn') hy, fun y cy hy => ?_⟩, q11, ⟨E', _, q1.1, by rw [q2.2.1]; exact e2, by rw [q2.2.1]; exact e3, by rw [q2.1]; exact obV, fun _ => by rw [hsz]; exact e5 i3⟩,
    ⟨E', cfV, kV, iV, fV, q1.1, gV, stV, by rw [q2.1]; exact knV, by rw [q2.1]; exact obV, by rw [q2.2.1]; exact asV, q3⟩, ⟨E', cfC, kC, iC, fC, q1.1, gC, stC, by rw [q2.1]; exact knV, by rw [q2.1]; exact obV, by rw [q2.2.1]; exact asC, q4⟩,
    ⟨V', ⟨q5.1, State.isArrayOf_alike al'.symm q5.2.1, q5.2.2.1⟩, q6, by rw [← al'.findClass]; exact q7, q8, fun j hj => by have := q9 j hj; rwa [Nat.zero_add] at this⟩, fun O n d w F n1 n2 => ?_⟩, hl, hc, hs⟩, st⟩
  · intro y hy
    simp only [List.mem_cons, List.not_mem_nil, or_false] at hy
    rcases hy with rfl | rfl <;> rfl
  · by_cases q : y = x
    · subst q
      cases hD.symm.trans hy
      exact ⟨E', q1.1, q2.2.1, q2.1, hsz⟩
    · exact ⟨cy, q10 y cy q hy, rfl, rfl, rfl⟩
  · obtain ⟨D3, cf, k, i, f, g1, g2, g3, g4, g5, g6, g7⟩ := F
    cases hD.symm.trans g1
    simp only [RoadKit.slotOf, g2, gV, gC, Option.map_some, Option.getD_some] at n1 n2
    exact ⟨E', cf, k, i, f, q1.1, g2, g3, by rw [q2.1]; exact g4, by rw [q2.1]; exact g5, by rw [q2.2.1]; exact g6, by rw [q2.2.2 f.slot (by simp [n1, n2])]; exact g7⟩
end StrChars.Road
namespace StrChars.Road
open Jvm Sem ClassFile Op Lib Jvm.Stand Jvm.Free Jvm.Free.XT
/-- WHAT COMES BACK, the byte[] as a list of values -/
def QA (Z : State) (x : Addr) (zn : Int32) (cs : List Int32) (h : Heap) (v : Option Value) (h' : Heap) (L : List Loc) : Prop := v = none ∧ (∀ y ∈ L, y.base = x) ∧ RoadKit.Keep h h' [x] ∧ h'.size = h.size + 1 ∧ RoadKit.Exa Z h' x ST ∧ RoadKit.Fld Z h' x ST "value" "[B" (.ref h.size) ∧ RoadKit.Fld Z h' x ST "coder" "B" (.int 0) ∧
  (∃ kb, Z.vm.findClass "[B" = some kb ∧ RoadKit.Arv Z h' h.size kb .byte zn (cs.map fun c => .int (lo8 c)) (.int 0)) ∧
  ∀ (O n d : String) (w : Value), RoadKit.Fld Z h x O n d w → RoadKit.slotOf Z O n d ≠ RoadKit.slotOf Z ST "value" "[B" → RoadKit.slotOf Z O n d ≠ RoadKit.slotOf Z ST "coder" "B" → RoadKit.Fld Z h' x O n d w
/-- **new String(chars) AT A CALL, THE ARRAYS AS LISTS**: the char[] at b holds cs, not empty, no char above 255 -/
theorem backArv {p : Program} {l : Launch} {e : Env} {R : Room} {s : State} {args : Array Value} {below : List Frame} {len W : Nat} {Z : State} {a0 : Array Value} {h : Heap} (hZ : Z.Warmed39 s.vm) (hw : ∀ d ∈ words, d.before a0 Z = true) {kI : Nat} (wi : (Jvm.Cond.instantiable ST kI).before a0 Z = true)
    {x b : Addr} {k : ClassId} {zn z : Int32} {cs : List Int32} {dv v0 c0 : Value} (E : RoadKit.Exa Z h x ST) (V : RoadKit.Fld Z h x ST "value" "[B" v0) (C : RoadKit.Fld Z h x ST "coder" "B" c0) (K : RoadKit.Arv Z h b k .char zn (cs.map Value.int) dv) (S : RoadKit.Sta Z h ST "COMPACT_STRINGS" "Z" (.int z)) (hz : ¬ z = 0)
    (hlen : zn.toNatClampNeg = cs.length) (h0 : 0 < cs.length) (hbig : cs.length ≤ 536870912) (hall : ∀ c ∈ cs, ¬ 255 < c) (hfr : 4 ≤ R.frames) (hlo : W + 65 ≤ R.locals) :
    Back l R p e below s args New1.yN len W (fun P a => a = #[.ref x, .ref b] ∧ P.U.heap = h ∧ P.cells + 1 ≤ R.cells ∧ P.slots + cs.length ≤ R.slots)
      (fun P _ v B => ∃ L, QA Z x zn cs h v B.U.heap L ∧ B.locs = P.locs ++ L ∧ B.cells = P.cells + 1 ∧ B.slots = P.slots + cs.length) := by
  obtain ⟨A, K1, K2, K3, K4, K5, K6⟩ := K
  have e : A.slots.size = cs.length := K3.trans hlen
  have hat : ∀ (i : Nat) (hi : i < cs.length), A.slots[i]? = some (.int cs[i]) := fun i hi => by rw [K5 i (by omega)]; simp [List.getD_eq_getElem?_getD, hi]
  have hcv : ∀ (i : Nat) (hi : i < cs.length), cv A i = cs[i] := fun i hi => by unfold cv; rw [hat i hi]
  have hty : Typed .char A := fun i v hv => by
    have hi : i < A.slots.size := (Array.getElem?_eq_some_iff.mp hv).1
    have q := K5 i hi
    rw [hv] at q
    rw [Option.some.inj q]
    exact K6 i hi
  refine Back.mono (back hZ hw wi E V C K1 hty S hz (by omega) (by omega) (fun i hi => by rw [hcv i (by omega)]; exact hall _ (List.getElem_mem _)) hfr hlo) (fun P a hp => ⟨hp.1, hp.2.1, hp.2.2.1, by rw [e]; exact hp.2.2.2⟩) (fun P a v B hp hq => ?_)
  obtain ⟨L, ⟨q1, q2, q3, q4, q5, q6, q7, ⟨V', v1, v2, v3, v4, v5⟩, q9⟩, hl, hc, hs⟩ := hq
  refine ⟨L, ⟨q1, q2, q3, q4, q5, q6, q7, ⟨V'.cls, v3, V', v1, rfl, by rw [v4, e, hlen], K4, fun i hi => ?_, fun i hi => ?_⟩, q9⟩, hl, hc, by rw [hs, e]⟩
  · have hi' : i < cs.length := by omega
    rw [v5 i (by omega), hcv i hi']; simp [List.getD_eq_getElem?_getD, hi']
  · have hi' : i < cs.length := by omega
    simp only [List.getD_eq_getElem?_getD, List.getElem?_map, List.getElem?_eq_getElem hi', Option.map_some, Option.getD_some]
    exact fits_lo8 _
end StrChars.Road
namespace StrChars.Road
open Jvm Sem ClassFile Op Lib Jvm.Stand Jvm.Free Jvm.Free.XT
/-- WHAT COMES BACK, in the writer's own shape -/
def QV (Z : State) (x : Addr) (N : Int32) (bs : List Int32) (h : Heap) (n0 : Nat) (v : Option Value) (h' : Heap) (L : List Loc) : Prop := v = none ∧ RoadKit.Fr n0 L ∧ RoadKit.Keep h h' [x] ∧ RoadKit.Exa Z h' x ST ∧ RoadKit.Fld Z h' x ST "coder" "B" (.int 0) ∧
  ∃ (t : Addr) (kb : ClassId), n0 ≤ t ∧ h.size ≤ t ∧ ¬ t = x ∧ RoadKit.Fld Z h' x ST "value" "[B" (.ref t) ∧ RoadKit.Arv Z h' t kb .byte N (bs.map Value.int) (.int 0)
/-- **new String(chars) AT A CALL, FOR THE WRITER**: a char[] of n known ints, each 0 to 255 -/
theorem backV {p : Program} {l : Launch} {e : Env} {R : Room} {s : State} {args : Array Value} {below : List Frame} {len W : Nat} {Z : State} {a0 : Array Value} {h : Heap} (hZ : Z.Warmed39 s.vm) (hw : ∀ d ∈ words, d.before a0 Z = true) {kI : Nat} (wi : (Jvm.Cond.instantiable ST kI).before a0 Z = true)
    {x b : Addr} {kC : ClassId} {cs bs : List Int32} {d v0 c0 : Value} {z N : Int32} {n n0 : Nat} (hx0 : n0 ≤ x) (hh0 : n0 ≤ h.size) (E : RoadKit.Exa Z h x ST) (V : RoadKit.Fld Z h x ST "value" "[B" v0) (C : RoadKit.Fld Z h x ST "coder" "B" c0) (K : RoadKit.Arv Z h b kC .char N (cs.map Value.int) d) (S : RoadKit.Sta Z h ST "COMPACT_STRINGS" "Z" (.int z)) (hz : ¬ z = 0)
    (hn : cs.length = n) (hN : N = Int32.ofNat n) (l0 : 0 < n) (l2 : n ≤ 4000) (hp : ∀ c ∈ cs, ¬ c < 0 ∧ ¬ (255 : Int32) < c) (hb : bs = cs.map (fun c => c.toInt8.toInt32)) (hfr : 4 ≤ R.frames) (hlo : W + 65 ≤ R.locals) :
    Back l R p e below s args (⟨"java/lang/String", "<init>", "([C)V"⟩ : MethodName) len W (fun P a => a = #[.ref x, .ref b] ∧ P.U.heap = h ∧ P.cells + 1 ≤ R.cells ∧ P.slots + n ≤ R.slots)
      (fun P _ v B => ∃ L, QV Z x N bs h n0 v B.U.heap L ∧ B.locs = P.locs ++ L ∧ B.cells = P.cells + 1 ∧ B.slots = P.slots + n) := by
  subst hn hN hb
  refine Back.mono (backArv hZ hw wi E V C K S hz (n32 (by omega)) l0 (by omega) (fun c hc => (hp c hc).2) hfr hlo) (fun P a hp => hp) (fun P a v B hp hq => ?_)
  obtain ⟨L, ⟨q1, q2, q3, q4, q5, q6, q7, ⟨kb, v1, v2⟩, q9⟩, hl, hc, hs⟩ := hq
  exact ⟨L, ⟨q1, fun y hy => by rw [q2 y hy]; exact hx0, q3, q5, q7, h.size, kb, hh0, Nat.le_refl _, Nat.ne_of_gt E.lt, q6, by rw [List.map_map]; exact v2⟩, hl, hc, hs⟩
end StrChars.Road
namespace StrChars
open Jvm Sem ClassFile Op Lib Jvm.Stand Jvm.Free.XT Jvm.Free.ALB Jvm.Free.JM Jvm.Free
open Jvm.Lib.Cold (StaticIs)
def hi8 (x : Int32) : Int32 := lo8 (x >>> ((8 : Int32) &&& 31))
/-- what StringUTF16.getChar makes of two bytes -/
def pairCh (u v : Int32) : Int32 := (((u &&& 255) <<< ((0 : Int32) &&& 31)) ||| ((v &&& 255) <<< ((8 : Int32) &&& 31))).toUInt32.toUInt16.toUInt32.toInt32
theorem lo8_and (x : Int32) : (lo8 x &&& 255).toBitVec.toNat = x.toBitVec.toNat % 256 := by
  have h : (lo8 x).toBitVec = (x.toBitVec.signExtend 8).signExtend 32 := by rw [lo8, Int8.toBitVec_toInt32, Int32.toBitVec_toInt8]
  rw [Int32.toBitVec_and, BitVec.toNat_and, h]
  have e : ((x.toBitVec.signExtend 8).signExtend 32).toNat % 256 = x.toBitVec.toNat % 256 := by
    rw [BitVec.toNat_signExtend]
    have hlt := x.toBitVec.isLt
    simp only [BitVec.toNat_setWidth, BitVec.toNat_signExtend]
    split <;> split <;> omega
  rw [← e]
  exact Nat.and_two_pow_sub_one_eq_mod _ 8
theorem pair_says {c : Int32} (h0 : ¬ c < 0) (h1 : ¬ 65535 < c) : pairCh (lo8 c) (hi8 c) = c := by
  rw [Int32.lt_iff_toInt_lt] at h0 h1
  have e0 : (0 : Int32).toInt = 0 := rfl
  have e1 : (65535 : Int32).toInt = 65535 := rfl
  have hc : c.toInt = c.toBitVec.toNat := by
    have := c.toBitVec.isLt
    have e : c.toInt = c.toBitVec.toInt := rfl
    rw [e] at h0 h1
    rw [e]
    rw [BitVec.toInt_eq_toNat_cond] at h0 h1 ⊢
    split at h0 <;> split <;> omega
  have hn : c.toBitVec.toNat < 65536 := by omega
  have a1 := lo8_and c
  have a2 : (hi8 c &&& 255).toBitVec.toNat = c.toBitVec.toNat / 256 := by
    rw [hi8, lo8_and]
    have e : ((8 : Int32) &&& 31) = 8 := by decide
    rw [e, Int32.toBitVec_shiftRight]
    have e2 : ((8 : Int32).toBitVec.smod 32) = 8#32 := by decide
    rw [e2, BitVec.sshiftRight_eq', BitVec.toNat_sshiftRight_of_msb_false (by rw [BitVec.msb_eq_false_iff_two_mul_lt]; omega)]
    show c.toBitVec.toNat >>> 8 % 256 = _
    rw [Nat.shiftRight_eq_div_pow]
    omega
  unfold pairCh
  apply Int32.toBitVec_inj.mp
  apply BitVec.eq_of_toNat_eq
  have f0 : ((0 : Int32) &&& 31) = 0 := by decide
  have f8 : ((8 : Int32) &&& 31) = 8 := by decide
  rw [f0, f8]
  have g : (((lo8 c &&& 255) <<< (0 : Int32)) ||| ((hi8 c &&& 255) <<< (8 : Int32))).toBitVec.toNat = c.toBitVec.toNat := by
    rw [Int32.toBitVec_or, Int32.toBitVec_shiftLeft, Int32.toBitVec_shiftLeft]
    have s0 : ((0 : Int32).toBitVec.smod 32) = 0#32 := by decide
    have s8 : ((8 : Int32).toBitVec.smod 32) = 8#32 := by decide
    rw [s0, s8, BitVec.toNat_or]
    simp only [BitVec.shiftLeft_eq', BitVec.toNat_shiftLeft, a1, a2]
    show (c.toBitVec.toNat % 256) <<< 0 % 2 ^ 32 ||| (c.toBitVec.toNat / 256) <<< 8 % 2 ^ 32 = _
    rw [Nat.shiftLeft_zero, Nat.mod_eq_of_lt (show c.toBitVec.toNat % 256 < 2 ^ 32 by omega), Nat.mod_eq_of_lt (show (c.toBitVec.toNat / 256) <<< 8 < 2 ^ 32 by rw [Nat.shiftLeft_eq]; omega), Nat.or_comm, ← Nat.shiftLeft_add_eq_or_of_lt (by omega), Nat.shiftLeft_eq]
    omega
  show BitVec.toNat (((((lo8 c &&& 255) <<< (0 : Int32)) ||| ((hi8 c &&& 255) <<< (8 : Int32))).toBitVec.setWidth 16).setWidth 32) = _
  rw [BitVec.toNat_setWidth, BitVec.toNat_setWidth, g]
  omega
end StrChars
namespace StrChars
open Jvm Sem ClassFile Op Lib Jvm.Stand Jvm.Free.XT Jvm.Free.ALB Jvm.Free.JM Jvm.Free
open Jvm.Lib.Cold (StaticIs)
/-- the array's cell V codes the n chars f 0 .. f (n - 1) by the coder cd, as the JDK does: coder 1 just where some char is above 255 -/
def Cod (cd : Int32) (n : Nat) (f : Nat → Int32) (V : Cell) : Prop := (cd = 0 ∧ V.slots.size = n ∧ ∀ j, j < n → V.slots[j]? = some (.int (lo8 (f j))) ∧ ¬ 255 < f j) ∨ (cd = 1 ∧ V.slots.size = 2 * n ∧ (∀ j, j < n → V.slots[2 * j]? = some (.int (lo8 (f j))) ∧ V.slots[2 * j + 1]? = some (.int (hi8 (f j)))) ∧ ∃ j, j < n ∧ 255 < f j)
/-- **x is a String of the n chars f 0 .. f (n - 1)**, Latin-1 or UTF-16; its array at t has the cell V -/
def Txt (x t : Addr) (V : Cell) (cd : Int32) (n : Nat) (f : Nat → Int32) (U : State) : Prop := Exact "java/lang/String" x U ∧ Has x "java/lang/String" "value" "[B" (.ref t) U ∧ Has x "java/lang/String" "coder" "B" (.int cd) U ∧ XT.Arr .byte t V U ∧ Cod cd n f V ∧ ∀ j, j < n → ¬ f j < 0 ∧ ¬ 65535 < f j
theorem Txt.mv {x t : Addr} {V : Cell} {cd : Int32} {n : Nat} {f : Nat → Int32} {U U' : State} (h : Txt x t V cd n f U) (hal : U.vm.Alike U'.vm) (hh : U'.heap = U.heap) : Txt x t V cd n f U' := ⟨h.1.mv hal hh, h.2.1.mv hal hh, h.2.2.1.mv hal hh, h.2.2.2.1.mv hal hh, h.2.2.2.2⟩
end StrChars
namespace StrChars.Road
open Jvm Sem ClassFile Op Lib Jvm.Stand Jvm.Free Jvm.Free.XT
open Jvm.Lib.Cold (StaticIs)
theorem consq {a : Array Value} {s : State} {c : Jvm.Cond} {L : List Jvm.Cond} (h0 : c.before a s = true) (h : ∀ w ∈ L, w.before a s = true) : ∀ w ∈ c :: L, w.before a s = true := fun w hw => (List.mem_cons.mp hw).elim (fun e => e ▸ h0) (h w)
/-- the bytes of the chars cs, low before high -/
def wideBytes : List Int32 → List Value
  | [] => []
  | c :: cs => .int (lo8 c) :: .int (hi8 c) :: wideBytes cs
theorem wide_lo (d : Value) : ∀ (cs : List Int32) (j : Nat), j < cs.length → (wideBytes cs).getD (2 * j) d = .int (lo8 (cs.getD j 0))
  | [], j, h => absurd h (Nat.not_lt_zero j)
  | c :: cs, 0, _ => rfl
  | c :: cs, j + 1, h => by
    have q := wide_lo d cs j (by simpa using h)
    rw [show 2 * (j + 1) = 2 * j + 1 + 1 from by omega]
    simpa [wideBytes] using q
theorem wide_hi (d : Value) : ∀ (cs : List Int32) (j : Nat), j < cs.length → (wideBytes cs).getD (2 * j + 1) d = .int (hi8 (cs.getD j 0))
  | [], j, h => absurd h (Nat.not_lt_zero j)
  | c :: cs, 0, _ => rfl
  | c :: cs, j + 1, h => by
    have q := wide_hi d cs j (by simpa using h)
    rw [show 2 * (j + 1) + 1 = 2 * j + 1 + 1 + 1 from by omega]
    simpa [wideBytes] using q
theorem low_at (d : Value) (cs : List Int32) (j : Nat) (h : j < cs.length) : (cs.map fun c => Value.int (lo8 c)).getD j d = .int (lo8 (cs.getD j 0)) := by
  simp [List.getD_eq_getElem?_getD, h]
/-- an array of N2 bytes vs codes the chars cs by the coder cd -/
def CodA (cs : List Int32) (cd N2 : Int32) (vs : List Value) : Prop := (cd = 0 ∧ N2 = Int32.ofNat cs.length ∧ vs = (cs.map fun c => Value.int (lo8 c)) ∧ ∀ c ∈ cs, ¬ 255 < c) ∨ (cd = 1 ∧ N2 = Int32.ofNat (2 * cs.length) ∧ vs = wideBytes cs ∧ ∃ c ∈ cs, 255 < c)
theorem CodA.cod {cs : List Int32} {cd N2 : Int32} {vs : List Value} {V : Cell} (h : CodA cs cd N2 vs) (hn : 2 * cs.length < 2 ^ 31) (hs : V.slots.size = N2.toNatClampNeg) (hv : RoadKit.Has V vs (.int 0)) : Cod cd cs.length (fun j => cs.getD j 0) V := by
  rcases h with ⟨rfl, rfl, rfl, h⟩ | ⟨rfl, rfl, rfl, c, hc, hw⟩
  · rw [n32 (by omega)] at hs
    exact Or.inl ⟨rfl, hs, fun j hj => ⟨by rw [hv j (by omega), low_at _ _ _ hj], by
      have e : cs.getD j 0 = cs[j] := by simp [List.getD_eq_getElem?_getD, hj]
      show ¬ 255 < cs.getD j 0
      rw [e]; exact h _ (List.getElem_mem _)⟩⟩
  · rw [n32 (by omega)] at hs
    obtain ⟨j, hj, rfl⟩ := List.getElem_of_mem hc
    exact Or.inr ⟨rfl, hs, fun j hj => ⟨by rw [hv _ (by omega), wide_lo _ _ _ hj], by rw [hv _ (by omega), wide_hi _ _ _ hj]⟩, j, hj, by
      have e : cs.getD j 0 = cs[j] := by simp [List.getD_eq_getElem?_getD, hj]
      show 255 < cs.getD j 0
      rw [e]; exact hw⟩
/-- an object of exactly java/lang/String, its two fields found: as the laws ask it -/
theorem strObj {Z U : State} {a0 : Array Value} {kI : Nat} (wi : (Jvm.Cond.instantiable ST kI).before a0 Z = true) (al : Z.vm.Alike U.vm) {x : Addr} {v0 c0 : Value} (E : RoadKit.Exa Z U.heap x ST) (V : RoadKit.Fld Z U.heap x ST "value" "[B" v0) (C : RoadKit.Fld Z U.heap x ST "coder" "B" c0) :
    ∃ (D : Cell) (fV fC : Field), Blank ST x D U ∧ Found ST "value" "[B" fV U ∧ Found ST "coder" "B" fC U ∧ D.slots[fV.slot]? = some v0 ∧ D.slots[fC.slot]? = some c0 ∧ RoadKit.slotOf Z ST "value" "[B" = fV.slot ∧ RoadKit.slotOf Z ST "coder" "B" = fC.slot := by
  obtain ⟨D, cfV, kV, iV, fV, hD, gV, stV, knV, obV, asV, slV⟩ := V
  obtain ⟨D', cfC, kC, iC, fC, hD', gC, stC, -, -, asC, slC⟩ := C
  cases hD.symm.trans hD'
  obtain ⟨D2, kD, e1, e2, e3, e4, e5⟩ := E
  cases hD.symm.trans e1
  obtain ⟨c2, k2, i1, i2, i3, -⟩ := Cond.instantiable_spec wi
  cases e2.symm.trans i1
  cases e3.symm.trans i2
  obtain ⟨kU, u1, u2⟩ := al.2.2 _ _ e3
  exact ⟨D, fV, fC, ⟨hD, ⟨knV, fun q hq => by rw [hq] at obV; cases obV⟩, by rw [al.findClass]; exact e2, kU, u1, by rw [u2]; exact i3, by rw [u2]; exact e5 i3⟩, ⟨SBG.found_only al ⟨cfV, kV, iV, gV⟩, stV⟩, ⟨SBG.found_only al ⟨cfC, kC, iC, gC⟩, stC⟩, slV, slC, by simp [RoadKit.slotOf, gV], by simp [RoadKit.slotOf, gC]⟩
theorem sta_is {Z U : State} (al : Z.vm.Alike U.vm) {C n d : String} {v : Value} (S : RoadKit.Sta Z U.heap C n d v) : StaticIs U C n d v := by
  obtain ⟨cfS, iS, kS, fS, st, cS, t1, t2, t3, t4, t5, t6, t7⟩ := S
  exact StaticIs.there (s := { Z with heap := U.heap }) ⟨cfS, iS, kS, fS, st, cS, t1, t2, t3, t4, t5, (fun q => by rw [q] at t6; cases t6), t7⟩ al rfl
end StrChars.Road
namespace StrChars
open Jvm Sem ClassFile Op Lib Jvm.Stand Jvm.Free.XT Jvm.Free.ALB Jvm.Free.JM Jvm.Free
open Jvm.Lib.Cold (StaticIs)
/-- what place i of a byte[]'s cell holds -/
def yv (A : Cell) (i : Nat) : Int32 := match A.slots[i]? with | some (.int x) => x | _ => 0
theorem yv_get {a : Addr} {A : Cell} {U : State} (h : XT.Arr .byte a A U) (ht : Typed .byte A) {i : Nat} (hi : i < A.slots.size) : A.slots[i]? = some (.int (yv A i)) := by
  have e := Array.getElem?_eq_getElem hi
  have f := ht i _ e
  unfold yv; rw [e]
  generalize A.slots[i] = v at f
  cases v <;> simp [fits] at f ⊢
/-- the two arrays are equal, place for place -/
def EqC (A B : Cell) : Prop := A.slots.size = B.slots.size ∧ ∀ i, i < A.slots.size → yv A i = yv B i
/-- a boolean that says whether p -/
def Says01 (q : Prop) (r : Option Value) (s u : State) : Prop := ∃ v : Int32, r = some (.int v) ∧ u.heap = s.heap ∧ ((v = 1 ∧ q) ∨ (v = 0 ∧ ¬ q))
theorem Says01.mv {q : Prop} : ∀ r (U U' V V' : State), U'.heap = U.heap → V.vm.Alike V'.vm → V'.heap = V.heap → Says01 q r U V → Says01 q r U' V' :=
  fun r U U' V V' h1 _ h2 ⟨v, a, b, c⟩ => ⟨v, a, by rw [h1, h2]; exact b, c⟩
namespace LEq
def yN : MethodName := ⟨"java/lang/StringLatin1", "equals", "([B[B)Z"⟩
abbrev yB : ByteArray := jdk_43_method_13_code
theorem d0 : decode yB 0 = .ok (.aload_n 0, 1) := by decide +kernel
theorem d1 : decode yB 1 = .ok (.arraylength, 1) := by decide +kernel
theorem d2 : decode yB 2 = .ok (.aload_n 1, 1) := by decide +kernel
theorem d3 : decode yB 3 = .ok (.arraylength, 1) := by decide +kernel
theorem d4 : decode yB 4 = .ok (.if_icmp (.ne) 30, 3) := by decide +kernel
theorem d7 : decode yB 7 = .ok (.iconst 0, 1) := by decide +kernel
theorem d8 : decode yB 8 = .ok (.istore_n 2, 1) := by decide +kernel
theorem d9 : decode yB 9 = .ok (.iload_n 2, 1) := by decide +kernel
theorem d10 : decode yB 10 = .ok (.aload_n 0, 1) := by decide +kernel
theorem d11 : decode yB 11 = .ok (.arraylength, 1) := by decide +kernel
theorem d12 : decode yB 12 = .ok (.if_icmp (.ge) 20, 3) := by decide +kernel
theorem d15 : decode yB 15 = .ok (.aload_n 0, 1) := by decide +kernel
theorem d16 : decode yB 16 = .ok (.iload_n 2, 1) := by decide +kernel
theorem d17 : decode yB 17 = .ok (.baload, 1) := by decide +kernel
theorem d18 : decode yB 18 = .ok (.aload_n 1, 1) := by decide +kernel
theorem d19 : decode yB 19 = .ok (.iload_n 2, 1) := by decide +kernel
theorem d20 : decode yB 20 = .ok (.baload, 1) := by decide +kernel
theorem d21 : decode yB 21 = .ok (.if_icmp (.eq) 5, 3) := by decide +kernel
theorem d24 : decode yB 24 = .ok (.iconst 0, 1) := by decide +kernel
theorem d25 : decode yB 25 = .ok (.ireturn, 1) := by decide +kernel
theorem d26 : decode yB 26 = .ok (.iinc 2 1, 3) := by decide +kernel
theorem d29 : decode yB 29 = .ok (.goto (-20), 3) := by decide +kernel
theorem d32 : decode yB 32 = .ok (.iconst 1, 1) := by decide +kernel
theorem d33 : decode yB 33 = .ok (.ireturn, 1) := by decide +kernel
theorem d34 : decode yB 34 = .ok (.iconst 0, 1) := by decide +kernel
theorem d35 : decode yB 35 = .ok (.ireturn, 1) := by decide +kernel
def site : List Cond := []
def tab : Cond := tabOf yN yB 3 (some .boolean) site
def P (a : Addr) (A : Cell) (b : Addr) (B : Cell) (args : Array Value) (s : State) : Prop := args = #[.ref a, .ref b] ∧ XT.Arr .byte a A s ∧ Typed .byte A ∧ XT.Arr .byte b B s ∧ Typed .byte B
/-- whether two byte[] are equal, place for place -/
theorem law (l : Launch) (a : Addr) (A : Cell) (b : Addr) (B : Cell) : Law l yN 2 2 0 0 yB 3 (some .boolean) site (P a A b B) (Says01 (EqC A B)) [] 0 0 := by
  refine Law.of_walk (plainFor_of_name (by decide +kernel)) (by decide +kernel) (by decide +kernel) (by decide) (fun _ _ h => by rw [h.1]; rfl) (fun _ U U' hal hh h => ⟨h.1, h.2.1.mv hal hh, h.2.2.1, h.2.2.2.1.mv hal hh, h.2.2.2.2⟩) (fun r U U' V V' h1 hal h2 h => Says01.mv r U U' V V' h1 hal h2 h) ?_
  intro p e s m args below meth c s₁ X0 hexec hbytes hml hret hlk hnm hown hh0 W hP
  obtain ⟨rfl, hA, tA, hB, tB⟩ := hP
  have a31 := hA.2.2.2
  have b31 := hB.2.2.2
  have hA0 := hA.mv X0.warmed.alike hh0
  have hB0 := hB.mv X0.warmed.alike hh0
  have c1 : Steps p.tables e below (s₁.setTop (entryFrame m #[.ref a, .ref b] 3)) (s₁.setTop (mkF m 0 #[.val (.ref a), .val (.ref b), .unset] [])) := entry rfl
  have c2 : Steps p.tables e below (s₁.setTop (entryFrame m #[.ref a, .ref b] 3)) (s₁.setTop (mkF m 4 #[.val (.ref a), .val (.ref b), .unset] [.int (Int32.ofNat B.slots.size), .int (Int32.ofNat A.slots.size)])) := c1.trans (by
    refine XS.aloadN X0.here hexec rfl (hb hbytes d0) rfl rfl ?_
    refine X0.alen hexec hA0 rfl rfl (hb hbytes d1) ?_
    refine XS.aloadN X0.here hexec rfl (hb hbytes d2) rfl rfl ?_
    refine X0.alen hexec hB0 rfl rfl (hb hbytes d3) ?_
    exact Steps.refl _)
  by_cases hs : A.slots.size = B.slots.size
  · have c3 : Steps p.tables e below (s₁.setTop (entryFrame m #[.ref a, .ref b] 3)) (s₁.setTop (mkF m 9 #[.val (.ref a), .val (.ref b), .val (.int 0)] [])) := c2.trans (by
      refine XS.icmpNo X0.here hexec rfl (hb hbytes d4) rfl (ii_ne_f (by rw [hs])) ?_
      refine iconstV X0.here hexec rfl 0 (hb hbytes d7) (by decide) ?_
      refine XS.istoreN X0.here hexec rfl (hb hbytes d8) rfl rfl ?_
      exact Steps.refl _)
    have loop : ∀ (r i : Nat), i + r = A.slots.size → (∀ j, j < i → yv A j = yv B j) → Steps p.tables e below (s₁.setTop (entryFrame m #[.ref a, .ref b] 3)) (s₁.setTop (mkF m 9 #[.val (.ref a), .val (.ref b), .val (.int (Int32.ofNat i))] [])) → ∃ (pc : Nat) (Ls : Array Slot) (v : Int32), (pc = 25 ∨ pc = 33) ∧ ((v = 1 ∧ EqC A B) ∨ (v = 0 ∧ ¬ EqC A B)) ∧ Steps p.tables e below (s₁.setTop (entryFrame m #[.ref a, .ref b] 3)) (s₁.setTop (mkF m pc Ls [.int v])) := by
      intro r
      induction r with
      | zero =>
        intro i hi he cl
        exact ⟨33, _, 1, Or.inr rfl, Or.inl ⟨rfl, hs, fun j hj => he j (by omega)⟩, cl.trans (by
          refine XS.iloadN X0.here hexec rfl (hb hbytes d9) rfl ?_
          refine XS.aloadN X0.here hexec rfl (hb hbytes d10) rfl rfl ?_
          refine X0.alen hexec hA0 rfl rfl (hb hbytes d11) ?_
          refine XS.icmpYes X0.here hexec rfl (pc0 := 12) rfl (hb hbytes d12) rfl (ii_ge_t (nlt32 (by omega) (by omega))) (by decide) rfl ?_
          refine iconstV X0.here hexec rfl 1 (hb hbytes d32) (by decide) ?_
          exact Steps.refl _)⟩
      | succ r ih =>
        intro i hi he cl
        have c4 : Steps p.tables e below (s₁.setTop (entryFrame m #[.ref a, .ref b] 3)) (s₁.setTop (mkF m 21 #[.val (.ref a), .val (.ref b), .val (.int (Int32.ofNat i))] [.int (yv B i), .int (yv A i)])) := cl.trans (by
          refine XS.iloadN X0.here hexec rfl (hb hbytes d9) rfl ?_
          refine XS.aloadN X0.here hexec rfl (hb hbytes d10) rfl rfl ?_
          refine X0.alen hexec hA0 rfl rfl (hb hbytes d11) ?_
          refine XS.icmpNo X0.here hexec rfl (hb hbytes d12) rfl (ii_ge_f (lt32 (by omega) (by omega))) ?_
          refine XS.aloadN X0.here hexec rfl (hb hbytes d15) rfl rfl ?_
          refine XS.iloadN X0.here hexec rfl (hb hbytes d16) rfl ?_
          refine X0.aget hexec hA0 rfl (yv_get hA tA (i := i) (by omega)) rfl rfl (hb hbytes d17) ?_
          refine XS.aloadN X0.here hexec rfl (hb hbytes d18) rfl rfl ?_
          refine XS.iloadN X0.here hexec rfl (hb hbytes d19) rfl ?_
          refine X0.aget hexec hB0 rfl (yv_get hB tB (i := i) (by omega)) rfl rfl (hb hbytes d20) ?_
          exact Steps.refl _)
        by_cases hv : yv A i = yv B i
        · have c5 : Steps p.tables e below (s₁.setTop (entryFrame m #[.ref a, .ref b] 3)) (s₁.setTop (mkF m 9 #[.val (.ref a), .val (.ref b), .val (.int (Int32.ofNat i + 1))] [])) := c4.trans (by
            refine XS.icmpYes X0.here hexec rfl (pc0 := 21) rfl (hb hbytes d21) rfl (ii_eq_t hv) (by decide) rfl ?_
            refine iincV X0.here hexec rfl 1 (hb hbytes d26) (by decide) rfl rfl ?_
            refine XS.goto X0.here hexec rfl (pc0 := 29) rfl (hb hbytes d29) (by decide) rfl ?_
            exact Steps.refl _)
          rw [succ32] at c5
          exact ih (i + 1) (by omega) (fun j hj => by
            by_cases e : j = i
            · rw [e]; exact hv
            · exact he j (by omega)) c5
        · exact ⟨25, _, 0, Or.inl rfl, Or.inr ⟨rfl, fun q => hv (q.2 i (by omega))⟩, c4.trans (by
            refine XS.icmpNo X0.here hexec rfl (hb hbytes d21) rfl (ii_eq_f hv) ?_
            refine iconstV X0.here hexec rfl 0 (hb hbytes d24) (by decide) ?_
            exact Steps.refl _)⟩
    obtain ⟨pc, Ls, v, hpc, hv, cz⟩ := loop A.slots.size 0 (by omega) (fun j hj => absurd hj (Nat.not_lt_zero j)) c3
    have nv : narrow .boolean (.int v) = .int v := by rcases hv with ⟨rfl, -⟩ | ⟨rfl, -⟩ <;> rfl
    rcases hpc with rfl | rfl
    · exact ⟨s₁, some (.int v), _, _, _, X0, rfl, rfl, rfl, (fun h => by cases h), ⟨v, rfl, hh0, hv⟩, fun fs hl => cz.trans (X0.ireturnOut hexec hret nv (Or.inr (Or.inl rfl)) (hb hbytes d25) hl)⟩
    · exact ⟨s₁, some (.int v), _, _, _, X0, rfl, rfl, rfl, (fun h => by cases h), ⟨v, rfl, hh0, hv⟩, fun fs hl => cz.trans (X0.ireturnOut hexec hret nv (Or.inr (Or.inl rfl)) (hb hbytes d33) hl)⟩
  · have c3 : Steps p.tables e below (s₁.setTop (entryFrame m #[.ref a, .ref b] 3)) (s₁.setTop (mkF m 35 #[.val (.ref a), .val (.ref b), .unset] [.int 0])) := c2.trans (by
      refine XS.icmpYes X0.here hexec rfl (pc0 := 4) rfl (hb hbytes d4) rfl (ii_ne_t (ne32 a31 b31 hs)) (by decide) rfl ?_
      refine iconstV X0.here hexec rfl 0 (hb hbytes d34) (by decide) ?_
      exact Steps.refl _)
    exact ⟨s₁, some (.int 0), _, _, _, X0, rfl, rfl, rfl, (fun h => by cases h), ⟨0, rfl, hh0, Or.inr ⟨rfl, fun q => hs q.1⟩⟩, fun fs hl => c3.trans (X0.ireturnOut hexec hret rfl (Or.inr (Or.inl rfl)) (hb hbytes d35) hl)⟩
end LEq
theorem Cod.ty {cd : Int32} {n : Nat} {f : Nat → Int32} {V : Cell} (h : Cod cd n f V) : Typed .byte V := fun i v hv => by
  have hi : i < V.slots.size := (Array.getElem?_eq_some_iff.mp hv).1
  rcases h with ⟨-, k1, k2⟩ | ⟨-, k1, k2, -⟩
  · rw [(k2 i (by omega)).1] at hv; cases hv; exact fits_lo8 _
  · rcases Nat.mod_two_eq_zero_or_one i with e | e
    · obtain ⟨j, rfl⟩ : ∃ j, i = 2 * j := ⟨i / 2, by omega⟩
      rw [(k2 j (by omega)).1] at hv; cases hv; exact fits_lo8 _
    · obtain ⟨j, rfl⟩ : ∃ j, i = 2 * j + 1 := ⟨i / 2, by omega⟩
      rw [(k2 j (by omega)).2] at hv; cases hv; exact fits_lo8 _
/-- the same text -/
def SameT (n : Nat) (f : Nat → Int32) (k : Nat) (g : Nat → Int32) : Prop := n = k ∧ ∀ j, j < n → f j = g j
theorem lo8_inj {x y : Int32} (h0 : ¬ x < 0) (h1 : ¬ 255 < x) (k0 : ¬ y < 0) (k1 : ¬ 255 < y) (h : lo8 x = lo8 y) : x = y := by
  rw [← lo8_mask h0 h1, ← lo8_mask k0 k1, h]
/-- arrays coded by one coder are equal just where the texts are -/
theorem Cod.eqv {cd : Int32} {n k : Nat} {f g : Nat → Int32} {V V' : Cell} (h : Cod cd n f V) (h' : Cod cd k g V') (hf : ∀ j, j < n → ¬ f j < 0 ∧ ¬ 65535 < f j) (hg : ∀ j, j < k → ¬ g j < 0 ∧ ¬ 65535 < g j) : EqC V V' ↔ SameT n f k g := by
  have yvv : ∀ {W : Cell} {i : Nat} {x : Int32}, W.slots[i]? = some (.int x) → yv W i = x := fun q => by unfold yv; rw [q]
  rcases h with ⟨rfl, k1, k2⟩ | ⟨rfl, k1, k2, -⟩
  · rcases h' with ⟨-, m1, m2⟩ | ⟨e, -⟩
    · constructor
      · rintro ⟨e1, e2⟩
        refine ⟨by omega, fun j hj => ?_⟩
        have q := e2 j (by omega)
        rw [yvv (k2 j hj).1, yvv (m2 j (by omega)).1] at q
        exact lo8_inj (hf j hj).1 (k2 j hj).2 (hg j (by omega)).1 (m2 j (by omega)).2 q
      · rintro ⟨rfl, e2⟩
        refine ⟨by omega, fun j hj => ?_⟩
        rw [yvv (k2 j (by omega)).1, yvv (m2 j (by omega)).1, e2 j (by omega)]
    · exact absurd e (by decide)
  · rcases h' with ⟨e, -⟩ | ⟨-, m1, m2, -⟩
    · exact absurd e (by decide)
    · constructor
      · rintro ⟨e1, e2⟩
        refine ⟨by omega, fun j hj => ?_⟩
        have q1 := e2 (2 * j) (by omega)
        have q2 := e2 (2 * j + 1) (by omega)
        rw [yvv (k2 j hj).1, yvv (m2 j (by omega)).1] at q1
        rw [yvv (k2 j hj).2, yvv (m2 j (by omega)).2] at q2
        rw [← pair_says (hf j hj).1 (hf j hj).2, ← pair_says (hg j (by omega)).1 (hg j (by omega)).2, q1, q2]
      · rintro ⟨rfl, e2⟩
        refine ⟨by omega, fun i hi => ?_⟩
        rcases Nat.mod_two_eq_zero_or_one i with e | e
        · obtain ⟨j, rfl⟩ : ∃ j, i = 2 * j := ⟨i / 2, by omega⟩
          rw [yvv (k2 j (by omega)).1, yvv (m2 j (by omega)).1, e2 j (by omega)]
        · obtain ⟨j, rfl⟩ : ∃ j, i = 2 * j + 1 := ⟨i / 2, by omega⟩
          rw [yvv (k2 j (by omega)).2, yvv (m2 j (by omega)).2, e2 j (by omega)]
/-- two codings differ: so do the texts -/
theorem Cod.dif {cd cd' : Int32} {n k : Nat} {f g : Nat → Int32} {V V' : Cell} (h : Cod cd n f V) (h' : Cod cd' k g V') (hne : ¬ cd = cd') : ¬ SameT n f k g := by
  rintro ⟨rfl, e⟩
  rcases h with ⟨rfl, -, k2⟩ | ⟨rfl, -, -, j, hj, hw⟩
  · rcases h' with ⟨rfl, -⟩ | ⟨-, -, -, j, hj, hw⟩
    · exact hne rfl
    · exact (k2 j hj).2 (by rw [e j hj]; exact hw)
  · rcases h' with ⟨-, -, m2⟩ | ⟨rfl, -⟩
    · exact (m2 j hj).2 (by rw [← e j hj]; exact hw)
    · exact hne rfl
/-- an object of exactly C is an instance of C -/
theorem cinst {p : Program} {l : Launch} {e : Env} {R : Room} {s : State} {m : MethodId} {args : Array Value} {below : List Frame} {meth : Method} {c : Code} {T : State} {locs : List Loc} {cells slots : Nat} (X : Stand p l e R s m args below meth c T locs cells slots) (hexec : p.tables.exec = Jvm.exec) {own C : String} {index : Nat} (hown : s.vm.findClass own = some m.cls) (hlink : (Cond.classLink own index C).before args s = true) {a : Addr} (hE : Exact C a T)
    {g : JFrame} (hg : g.method = m) {rest : List Value} (hstack : g.stack = .ref a :: rest) (hdg : decode c.code g.pc = .ok (.instanceof index, 3)) :
    ∃ T', Stand p l e R s m args below meth c T' locs cells slots ∧ T'.heap = T.heap ∧ ∀ target, Steps p.tables e below (T'.setTop { g with pc := g.pc + 3, stack := .int 1 :: rest }) target → Steps p.tables e below (T.setTop g) target := by
  obtain ⟨cB, h1, D, h2, h3, h4⟩ := hE
  have h1' : s.vm.findClass C = some cB := by rw [← X.warmed.alike.findClass]; exact h1
  obtain ⟨vm', X', st⟩ := X.instanceofYes hexec hown hlink h2 h4 h1' (by rw [h3]; exact Jvm.Free.SB.assignable_self _ _) hg hstack hdg
  exact ⟨_, X', rfl, st⟩
theorem cself {p : Program} {l : Launch} {e : Env} {R : Room} {s : State} {m : MethodId} {args : Array Value} {below : List Frame} {meth : Method} {c : Code} {T : State} {locs : List Loc} {cells slots : Nat} (X : Stand p l e R s m args below meth c T locs cells slots) (hexec : p.tables.exec = Jvm.exec) {own C : String} {index : Nat} (hown : s.vm.findClass own = some m.cls) (hlink : (Cond.classLink own index C).before args s = true) {a : Addr} (hE : Exact C a T)
    {g : JFrame} (hg : g.method = m) {rest : List Value} (hstack : g.stack = .ref a :: rest) (hdg : decode c.code g.pc = .ok (.checkcast index, 3)) :
    ∃ T', Stand p l e R s m args below meth c T' locs cells slots ∧ T'.heap = T.heap ∧ ∀ target, Steps p.tables e below (T'.setTop { g with pc := g.pc + 3, stack := .ref a :: rest }) target → Steps p.tables e below (T.setTop g) target := by
  obtain ⟨cB, h1, D, h2, h3, h4⟩ := hE
  have h1' : s.vm.findClass C = some cB := by rw [← X.warmed.alike.findClass]; exact h1
  obtain ⟨vm', X', st⟩ := X.checkcastYes hexec hown hlink h2 h4 h1' (by rw [h3]; exact Jvm.Free.SB.assignable_self _ _) hg hstack hdg
  exact ⟨_, X', rfl, fun t h => st t (by rw [← hstack] at h; exact h)⟩
namespace SEq
def yN : MethodName := ⟨"java/lang/String", "equals", "(Ljava/lang/Object;)Z"⟩
abbrev yB : ByteArray := jdk_42_method_66_code
theorem d0 : decode yB 0 = .ok (.aload_n 0, 1) := by decide +kernel
theorem d1 : decode yB 1 = .ok (.aload_n 1, 1) := by decide +kernel
theorem d2 : decode yB 2 = .ok (.if_acmp (.ne) 5, 3) := by decide +kernel
theorem d5 : decode yB 5 = .ok (.iconst 1, 1) := by decide +kernel
theorem d6 : decode yB 6 = .ok (.ireturn, 1) := by decide +kernel
theorem d7 : decode yB 7 = .ok (.aload_n 1, 1) := by decide +kernel
theorem d8 : decode yB 8 = .ok (.instanceof 10, 3) := by decide +kernel
theorem d11 : decode yB 11 = .ok (.ifCond (.eq) 43, 3) := by decide +kernel
theorem d14 : decode yB 14 = .ok (.aload_n 1, 1) := by decide +kernel
theorem d15 : decode yB 15 = .ok (.checkcast 10, 3) := by decide +kernel
theorem d18 : decode yB 18 = .ok (.astore_n 2, 1) := by decide +kernel
theorem d19 : decode yB 19 = .ok (.getstatic 38, 3) := by decide +kernel
theorem d22 : decode yB 22 = .ok (.ifCond (.eq) 14, 3) := by decide +kernel
theorem d25 : decode yB 25 = .ok (.aload_n 0, 1) := by decide +kernel
theorem d26 : decode yB 26 = .ok (.getfield 15, 3) := by decide +kernel
theorem d29 : decode yB 29 = .ok (.aload_n 2, 1) := by decide +kernel
theorem d30 : decode yB 30 = .ok (.getfield 15, 3) := by decide +kernel
theorem d33 : decode yB 33 = .ok (.if_icmp (.ne) 21, 3) := by decide +kernel
theorem d36 : decode yB 36 = .ok (.aload_n 0, 1) := by decide +kernel
theorem d37 : decode yB 37 = .ok (.getfield 9, 3) := by decide +kernel
theorem d40 : decode yB 40 = .ok (.aload_n 2, 1) := by decide +kernel
theorem d41 : decode yB 41 = .ok (.getfield 9, 3) := by decide +kernel
theorem d44 : decode yB 44 = .ok (.invokestatic 541, 3) := by decide +kernel
theorem d47 : decode yB 47 = .ok (.ifCond (.eq) 7, 3) := by decide +kernel
theorem d50 : decode yB 50 = .ok (.iconst 1, 1) := by decide +kernel
theorem d51 : decode yB 51 = .ok (.goto 4, 3) := by decide +kernel
theorem d54 : decode yB 54 = .ok (.iconst 0, 1) := by decide +kernel
theorem d55 : decode yB 55 = .ok (.ireturn, 1) := by decide +kernel
def site : List Cond := [.classLink "java/lang/String" 10 "java/lang/String", .fieldLink "java/lang/String" 38 "java/lang/String" "COMPACT_STRINGS" "Z", .fieldLink "java/lang/String" 15 "java/lang/String" "coder" "B", .fieldLink "java/lang/String" 9 "java/lang/String" "value" "[B", LEq.tab] ++ staticW "java/lang/String" 541 LEq.yN
def tab : Cond := tabOf yN yB 3 (some .boolean) site
def P (x t : Addr) (V : Cell) (cd : Int32) (n : Nat) (f : Nat → Int32) (y t' : Addr) (V' : Cell) (cd' : Int32) (k : Nat) (g : Nat → Int32) (z : Int32) (args : Array Value) (s : State) : Prop := args = #[.ref x, .ref y] ∧ Txt x t V cd n f s ∧ Txt y t' V' cd' k g s ∧ StaticIs s "java/lang/String" "COMPACT_STRINGS" "Z" (.int z) ∧ ¬ z = 0
/-- equals(Object) of two Strings: whether the texts are the same -/
theorem law (l : Launch) (x t : Addr) (V : Cell) (cd : Int32) (n : Nat) (f : Nat → Int32) (y t' : Addr) (V' : Cell) (cd' : Int32) (k : Nat) (g : Nat → Int32) (z : Int32) : Law l yN 2 1 1 14 yB 3 (some .boolean) site (P x t V cd n f y t' V' cd' k g z) (Says01 (SameT n f k g)) [] 0 0 := by
  refine Law.of_walk (plainFor_of_name (by decide +kernel)) (by decide +kernel) (by decide +kernel) (by decide) (fun _ _ h => by rw [h.1]; rfl) (fun _ U U' hal hh h => ⟨h.1, h.2.1.mv hal hh, h.2.2.1.mv hal hh, h.2.2.2.1.there hal hh, h.2.2.2.2⟩) (fun r U U' V V' h1 hal h2 h => Says01.mv r U U' V V' h1 hal h2 h) ?_
  intro p e s m args below meth c s₁ X0 hexec hbytes hml hret hlk hnm hown hh0 W hP
  obtain ⟨rfl, hx, hy, s1, hz⟩ := hP
  have c1 : Steps p.tables e below (s₁.setTop (entryFrame m #[.ref x, .ref y] 3)) (s₁.setTop (mkF m 2 #[.val (.ref x), .val (.ref y), .unset] [.ref y, .ref x])) := Steps.trans (entry rfl) (by
    show Steps p.tables e below (s₁.setTop (mkF m 0 #[.val (.ref x), .val (.ref y), .unset] [])) _
    refine XS.aloadN X0.here hexec rfl (hb hbytes d0) rfl rfl ?_
    refine XS.aloadN X0.here hexec rfl (hb hbytes d1) rfl rfl ?_
    exact Steps.refl _)
  by_cases hxy : x = y
  · have c2 : Steps p.tables e below (s₁.setTop (entryFrame m #[.ref x, .ref y] 3)) (s₁.setTop (mkF m 6 #[.val (.ref x), .val (.ref y), .unset] [.int 1])) := c1.trans (by
      refine acmpNo X0.here hexec rfl (hb hbytes d2) rfl rfl rfl (by simp [acmp, hxy]) ?_
      refine iconstV X0.here hexec rfl 1 (hb hbytes d5) (by decide) ?_
      exact Steps.refl _)
    subst hxy
    have ec : cd = cd' := by
      obtain ⟨D, fd, a1, a2, a3⟩ := hx.2.2.1
      obtain ⟨D', fd', b1, b2, b3⟩ := hy.2.2.1
      cases a1.symm.trans b1
      obtain ⟨q1, q2, q3, q4⟩ := a2.1
      obtain ⟨r1, r2, r3, r4⟩ := b2.1
      cases q4.symm.trans r4
      cases a3.symm.trans b3; rfl
    have et : t = t' := by
      obtain ⟨D, fd, a1, a2, a3⟩ := hx.2.1
      obtain ⟨D', fd', b1, b2, b3⟩ := hy.2.1
      cases a1.symm.trans b1
      obtain ⟨q1, q2, q3, q4⟩ := a2.1
      obtain ⟨r1, r2, r3, r4⟩ := b2.1
      cases q4.symm.trans r4
      cases a3.symm.trans b3; rfl
    subst ec et
    have ev : V = V' := by cases hx.2.2.2.1.1.symm.trans hy.2.2.2.1.1; rfl
    subst ev
    have hs : SameT n f k g := (Cod.eqv hx.2.2.2.2.1 hy.2.2.2.2.1 hx.2.2.2.2.2 hy.2.2.2.2.2).mp ⟨rfl, fun _ _ => rfl⟩
    exact ⟨s₁, some (.int 1), _, _, _, X0, rfl, rfl, rfl, (fun h => by cases h), ⟨1, rfl, hh0, Or.inl ⟨rfl, hs⟩⟩, fun fs hl => c2.trans (X0.ireturnOut hexec hret rfl (Or.inr (Or.inl rfl)) (hb hbytes d6) hl)⟩
  · have c2 : Steps p.tables e below (s₁.setTop (entryFrame m #[.ref x, .ref y] 3)) (s₁.setTop (mkF m 8 #[.val (.ref x), .val (.ref y), .unset] [.ref y])) := c1.trans (by
      refine acmpYes X0.here hexec rfl (pc0 := 2) rfl (hb hbytes d2) rfl rfl rfl (by simp [acmp, hxy]) (by decide) rfl ?_
      refine XS.aloadN X0.here hexec rfl (hb hbytes d7) rfl rfl ?_
      exact Steps.refl _)
    obtain ⟨T3, X3, q3, st3⟩ := cinst X0 hexec hown (wk W (.classLink "java/lang/String" 10 "java/lang/String")) (hy.mv X0.warmed.alike hh0).1 (g := (mkF m 8 #[.val (.ref x), .val (.ref y), .unset] [.ref y])) rfl (rest := []) rfl (hb hbytes d8)
    have hh3 := q3.trans hh0
    have c4 : Steps p.tables e below (s₁.setTop (entryFrame m #[.ref x, .ref y] 3)) (T3.setTop (mkF m 15 #[.val (.ref x), .val (.ref y), .unset] [.ref y])) := (c2.trans (st3 _ (Steps.refl _))).trans (by
      refine XS.ifNo X3.here hexec rfl (hb hbytes d11) rfl (i0_eq_f (by decide)) ?_
      refine XS.aloadN X3.here hexec rfl (hb hbytes d14) rfl rfl ?_
      exact Steps.refl _)
    obtain ⟨T5, X5, q5, st5⟩ := cself X3 hexec hown (wk W (.classLink "java/lang/String" 10 "java/lang/String")) (hy.mv X3.warmed.alike hh3).1 (g := (mkF m 15 #[.val (.ref x), .val (.ref y), .unset] [.ref y])) rfl (rest := []) rfl (hb hbytes d15)
    have hh5 := q5.trans hh3
    have c6 : Steps p.tables e below (s₁.setTop (entryFrame m #[.ref x, .ref y] 3)) (T5.setTop (mkF m 19 #[.val (.ref x), .val (.ref y), .val (.ref y)] [])) := (c4.trans (st5 _ (Steps.refl _))).trans (by
      refine XS.astoreN X5.here hexec rfl (hb hbytes d18) rfl rfl rfl ?_
      exact Steps.refl _)
    obtain ⟨T7, X7, q7, st7⟩ := X5.sget hexec hown (wk W (.fieldLink "java/lang/String" 38 "java/lang/String" "COMPACT_STRINGS" "Z")) s1 (fun _ _ h => by rw [hh5]; exact h) (g := (mkF m 19 #[.val (.ref x), .val (.ref y), .val (.ref y)] [])) rfl (hb hbytes d19)
    have hh7 := q7.trans hh5
    have c8 : Steps p.tables e below (s₁.setTop (entryFrame m #[.ref x, .ref y] 3)) (T7.setTop (mkF m 26 #[.val (.ref x), .val (.ref y), .val (.ref y)] [.ref x])) := (c6.trans (st7 _ (Steps.refl _))).trans (by
      refine XS.ifNo X7.here hexec rfl (hb hbytes d22) rfl (i0_eq_f hz) ?_
      refine XS.aloadN X7.here hexec rfl (hb hbytes d25) rfl rfl ?_
      exact Steps.refl _)
    obtain ⟨T9, X9, q9, st9⟩ := X7.hget hexec hown (wk W (.fieldLink "java/lang/String" 15 "java/lang/String" "coder" "B")) (hx.mv X7.warmed.alike hh7).2.2.1 (g := (mkF m 26 #[.val (.ref x), .val (.ref y), .val (.ref y)] [.ref x])) rfl (rest := []) rfl (hb hbytes d26)
    have hh9 := q9.trans hh7
    have c10 : Steps p.tables e below (s₁.setTop (entryFrame m #[.ref x, .ref y] 3)) (T9.setTop (mkF m 30 #[.val (.ref x), .val (.ref y), .val (.ref y)] [.ref y, .int cd])) := (c8.trans (st9 _ (Steps.refl _))).trans (by
      refine XS.aloadN X9.here hexec rfl (hb hbytes d29) rfl rfl ?_
      exact Steps.refl _)
    obtain ⟨T11, X11, q11, st11⟩ := X9.hget hexec hown (wk W (.fieldLink "java/lang/String" 15 "java/lang/String" "coder" "B")) (hy.mv X9.warmed.alike hh9).2.2.1 (g := (mkF m 30 #[.val (.ref x), .val (.ref y), .val (.ref y)] [.ref y, .int cd])) rfl (rest := [.int cd]) rfl (hb hbytes d30)
    have hh11 := q11.trans hh9
    have c12 : Steps p.tables e below (s₁.setTop (entryFrame m #[.ref x, .ref y] 3)) (T11.setTop (mkF m 33 #[.val (.ref x), .val (.ref y), .val (.ref y)] [.int cd', .int cd])) := c10.trans (st11 _ (Steps.refl _))
    by_cases hcd : cd = cd'
    · subst hcd
      have c13 : Steps p.tables e below (s₁.setTop (entryFrame m #[.ref x, .ref y] 3)) (T11.setTop (mkF m 37 #[.val (.ref x), .val (.ref y), .val (.ref y)] [.ref x])) := c12.trans (by
        refine XS.icmpNo X11.here hexec rfl (hb hbytes d33) rfl (ii_ne_f rfl) ?_
        refine XS.aloadN X11.here hexec rfl (hb hbytes d36) rfl rfl ?_
        exact Steps.refl _)
      obtain ⟨T14, X14, q14, st14⟩ := X11.hget hexec hown (wk W (.fieldLink "java/lang/String" 9 "java/lang/String" "value" "[B")) (hx.mv X11.warmed.alike hh11).2.1 (g := (mkF m 37 #[.val (.ref x), .val (.ref y), .val (.ref y)] [.ref x])) rfl (rest := []) rfl (hb hbytes d37)
      have hh14 := q14.trans hh11
      have c15 : Steps p.tables e below (s₁.setTop (entryFrame m #[.ref x, .ref y] 3)) (T14.setTop (mkF m 41 #[.val (.ref x), .val (.ref y), .val (.ref y)] [.ref y, .ref t])) := (c13.trans (st14 _ (Steps.refl _))).trans (by
        refine XS.aloadN X14.here hexec rfl (hb hbytes d40) rfl rfl ?_
        exact Steps.refl _)
      obtain ⟨T16, X16, q16, st16⟩ := X14.hget hexec hown (wk W (.fieldLink "java/lang/String" 9 "java/lang/String" "value" "[B")) (hy.mv X14.warmed.alike hh14).2.1 (g := (mkF m 41 #[.val (.ref x), .val (.ref y), .val (.ref y)] [.ref y, .ref t])) rfl (rest := [.ref t]) rfl (hb hbytes d41)
      have hh16 := q16.trans hh14
      have c17 : Steps p.tables e below (s₁.setTop (entryFrame m #[.ref x, .ref y] 3)) (T16.setTop (mkF m 44 #[.val (.ref x), .val (.ref y), .val (.ref y)] [.ref t', .ref t])) := c15.trans (st16 _ (Steps.refl _))
      obtain ⟨v18, T18, X18, E18, g18⟩ := X16.callS hexec (LEq.law l t V t' V') hown (wks W (staticW "java/lang/String" 541 LEq.yN)) (wk W LEq.tab) (W := 0) (Nat.le_of_ble_eq_true rfl) (Nat.le_of_ble_eq_true rfl) (Nat.le_refl _) (Nat.le_refl _) (g := (mkF m 44 #[.val (.ref x), .val (.ref y), .val (.ref y)] [.ref t', .ref t])) rfl (by rw [hml]; rfl) c17 (argsL := [.ref t, .ref t']) (rest := []) rfl rfl (by show 2 * 0 + 0 ≤ _; decide) (hb hbytes d44) (⟨rfl, hx.2.2.2.1.mv X16.warmed.alike hh16, hx.2.2.2.2.1.ty, hy.2.2.2.1.mv X16.warmed.alike hh16, hy.2.2.2.2.1.ty⟩)
      obtain ⟨v, rfl, q18, hv⟩ := E18
      have iff := Cod.eqv hx.2.2.2.2.1 hy.2.2.2.2.1 hx.2.2.2.2.2 hy.2.2.2.2.2
      rcases hv with ⟨rfl, he⟩ | ⟨rfl, he⟩
      · have c19 : Steps p.tables e below (s₁.setTop (entryFrame m #[.ref x, .ref y] 3)) (T18.setTop (mkF m 55 #[.val (.ref x), .val (.ref y), .val (.ref y)] [.int 1])) := Steps.trans g18 (by
          refine XS.ifNo X18.here hexec rfl (hb hbytes d47) rfl (i0_eq_f (by decide)) ?_
          refine iconstV X18.here hexec rfl 1 (hb hbytes d50) (by decide) ?_
          refine XS.goto X18.here hexec rfl (pc0 := 51) rfl (hb hbytes d51) (by decide) rfl ?_
          exact Steps.refl _)
        exact ⟨T18, some (.int 1), _, _, _, X18, rfl, rfl, rfl, (fun h => by cases h), ⟨1, rfl, q18.trans hh16, Or.inl ⟨rfl, iff.mp he⟩⟩, fun fs hl => c19.trans (X18.ireturnOut hexec hret rfl (Or.inr (Or.inl rfl)) (hb hbytes d55) hl)⟩
      · have c19 : Steps p.tables e below (s₁.setTop (entryFrame m #[.ref x, .ref y] 3)) (T18.setTop (mkF m 55 #[.val (.ref x), .val (.ref y), .val (.ref y)] [.int 0])) := Steps.trans g18 (by
          refine XS.ifYes X18.here hexec rfl (pc0 := 47) rfl (hb hbytes d47) rfl (i0_eq_t rfl) (by decide) rfl ?_
          refine iconstV X18.here hexec rfl 0 (hb hbytes d54) (by decide) ?_
          exact Steps.refl _)
        exact ⟨T18, some (.int 0), _, _, _, X18, rfl, rfl, rfl, (fun h => by cases h), ⟨0, rfl, q18.trans hh16, Or.inr ⟨rfl, fun q => he (iff.mpr q)⟩⟩, fun fs hl => c19.trans (X18.ireturnOut hexec hret rfl (Or.inr (Or.inl rfl)) (hb hbytes d55) hl)⟩
    · have c13 : Steps p.tables e below (s₁.setTop (entryFrame m #[.ref x, .ref y] 3)) (T11.setTop (mkF m 55 #[.val (.ref x), .val (.ref y), .val (.ref y)] [.int 0])) := c12.trans (by
        refine XS.icmpYes X11.here hexec rfl (pc0 := 33) rfl (hb hbytes d33) rfl (ii_ne_t hcd) (by decide) rfl ?_
        refine iconstV X11.here hexec rfl 0 (hb hbytes d54) (by decide) ?_
        exact Steps.refl _)
      exact ⟨T11, some (.int 0), _, _, _, X11, rfl, rfl, rfl, (fun h => by cases h), ⟨0, rfl, hh11, Or.inr ⟨rfl, Cod.dif hx.2.2.2.2.1 hy.2.2.2.2.1 hcd⟩⟩, fun fs hl => c13.trans (X11.ireturnOut hexec hret rfl (Or.inr (Or.inl rfl)) (hb hbytes d55) hl)⟩
theorem pays {l : Launch} {R : Room} {p : Program} {e : Env} {below : List Frame} {s : State} {sargs : Array Value} {len W : Nat} (x t : Addr) (V : Cell) (cd : Int32) (n : Nat) (f : Nat → Int32) (y t' : Addr) (V' : Cell) (cd' : Int32) (k : Nat) (g : Nat → Int32) (z : Int32) (htab : tab.before sargs s = true) (hfr : 2 ≤ R.frames) (hlo : W + 28 ≤ R.locals) :
    Back l R p e below s sargs yN len W (fun A₁ a₁ => A₁.cells + 0 ≤ R.cells ∧ A₁.slots + 0 ≤ R.slots ∧ P x t V cd n f y t' V' cd' k g z a₁ A₁.U) (fun A₁ _ v₁ B₁ => Says01 (SameT n f k g) v₁ A₁.U B₁.U ∧ B₁.locs = A₁.locs ++ [] ∧ B₁.cells = A₁.cells + 0 ∧ B₁.slots = A₁.slots + 0) :=
  (law l x t V cd n f y t' V' cd' k g z).pays htab hfr (by omega)
end SEq
end StrChars
namespace StrChars.Road
open Jvm Sem ClassFile Op Lib Jvm.Stand Jvm.Free Jvm.Free.XT
open Jvm.Lib.Cold (StaticIs)
/-- the words of String.equals(Object) -/
abbrev wordsEq : List Jvm.Cond := [.code SEq.yN SEq.yB 3 (some .boolean), .initialized ST, .classLink ST 10 ST, .fieldLink ST 38 ST "COMPACT_STRINGS" "Z", .fieldLink ST 15 ST "coder" "B", .fieldLink ST 9 ST "value" "[B", .methodLink ST 541 LEq.yN, .static LEq.yN, .code LEq.yN LEq.yB 3 (some .boolean), .initialized "java/lang/StringLatin1"]
theorem tabEq_of {a : Array Value} {s : State} (h : ∀ w ∈ wordsEq, w.before a s = true) : SEq.tab.before a s = true := by
  have hl : LEq.tab.before a s = true := unparts (wk h (.code LEq.yN LEq.yB 3 (some .boolean))) (wks h (.initialized LEq.yN.cls :: LEq.site))
  have q := consq hl h
  exact unparts (wk q (.code SEq.yN SEq.yB 3 (some .boolean))) (wks q (.initialized SEq.yN.cls :: SEq.site))
theorem movedEq {Z s : State} {a0 args : Array Value} (hZ : Z.Warmed39 s.vm) (hw : ∀ d ∈ wordsEq, d.before a0 Z = true) : ∀ d ∈ wordsEq, d.before args s = true := fun d hd => by
  have t : ∀ d ∈ wordsEq, (d.onTables && d.keepsFace) = true := by decide +kernel
  exact RoadKit.mv hZ (hw d hd) (t d hd)
/-- the road's facts of a String, as the laws ask it -/
theorem txt_of {Z U : State} {a0 : Array Value} {kI : Nat} (wi : (Jvm.Cond.instantiable ST kI).before a0 Z = true) (al : Z.vm.Alike U.vm) {x t : Addr} {kb : ClassId} {cs : List Int32} {cd N2 : Int32} {vs : List Value} (E : RoadKit.Exa Z U.heap x ST) (V : RoadKit.Fld Z U.heap x ST "value" "[B" (.ref t)) (C : RoadKit.Fld Z U.heap x ST "coder" "B" (.int cd)) (K : RoadKit.Arv Z U.heap t kb .byte N2 vs (.int 0)) (hc : CodA cs cd N2 vs) (hb : ∀ c ∈ cs, ¬ c < 0 ∧ ¬ (65535 : Int32) < c) (l2 : cs.length ≤ 4000) :
    ∃ A, Txt x t A cd cs.length (fun j => cs.getD j 0) U := by
  obtain ⟨A, K1, K2, K3, K4, K5, K6⟩ := K
  have hcod := hc.cod (by omega) K3 K5
  obtain ⟨D, fV, fC, hB, F1, F2, g1, g2, -, -⟩ := strObj wi al E V C
  exact ⟨A, ⟨_, hB.2.2.1, D, hB.1, rfl, by cases q : D.vm <;> first | rfl | exact absurd q (hB.2.1.2 _)⟩, Has.of hB F1 g1, Has.of hB F2 g2, ⟨K1.1, State.isArrayOf_alike al K1.2.1, K1.2.2, by rcases hcod with ⟨-, q, -⟩ | ⟨-, q, -⟩ <;> omega⟩, hcod, fun j hj => by
    have e : cs.getD j 0 = cs[j] := by simp [List.getD_eq_getElem?_getD, hj]
    show ¬ cs.getD j 0 < 0 ∧ ¬ 65535 < cs.getD j 0
    rw [e]; exact hb _ (List.getElem_mem _)⟩
theorem same_list (cs ds : List Int32) : SameT cs.length (fun j => cs.getD j 0) ds.length (fun j => ds.getD j 0) ↔ cs = ds := by
  constructor
  · rintro ⟨e, q⟩
    refine List.ext_getElem e fun j h1 h2 => ?_
    have := q j h1
    simpa [List.getD_eq_getElem?_getD, h1, h2] using this
  · rintro rfl
    exact ⟨rfl, fun _ _ => rfl⟩
/-- **equals(Object) OF TWO SUCH STRINGS**: 1 just where the chars are the same -/
theorem eqW {p : Program} {l : Launch} {e : Env} {R : Room} {s : State} {args : Array Value} {below : List Frame} {len W : Nat} {Z : State} {a0 : Array Value} {h : Heap} (hZ : Z.Warmed39 s.vm) (hw : ∀ d ∈ wordsEq, d.before a0 Z = true) {kI : Nat} (wi : (Jvm.Cond.instantiable ST kI).before a0 Z = true)
    {x t : Addr} {kb : ClassId} {cs : List Int32} {cd N2 : Int32} {vs : List Value} (E : RoadKit.Exa Z h x ST) (V : RoadKit.Fld Z h x ST "value" "[B" (.ref t)) (C : RoadKit.Fld Z h x ST "coder" "B" (.int cd)) (K : RoadKit.Arv Z h t kb .byte N2 vs (.int 0)) (hc : CodA cs cd N2 vs) (hb : ∀ c ∈ cs, ¬ c < 0 ∧ ¬ (65535 : Int32) < c) (l2 : cs.length ≤ 4000)
    {y t' : Addr} {kb' : ClassId} {ds : List Int32} {cd' N2' : Int32} {vs' : List Value} (E' : RoadKit.Exa Z h y ST) (V' : RoadKit.Fld Z h y ST "value" "[B" (.ref t')) (C' : RoadKit.Fld Z h y ST "coder" "B" (.int cd')) (K' : RoadKit.Arv Z h t' kb' .byte N2' vs' (.int 0)) (hc' : CodA ds cd' N2' vs') (hb' : ∀ c ∈ ds, ¬ c < 0 ∧ ¬ (65535 : Int32) < c) (l2' : ds.length ≤ 4000)
    {z : Int32} (S : RoadKit.Sta Z h ST "COMPACT_STRINGS" "Z" (.int z)) (hz : ¬ z = 0) (hfr : 2 ≤ R.frames) (hlo : W + 28 ≤ R.locals) :
    Back l R p e below s args (⟨"java/lang/String", "equals", "(Ljava/lang/Object;)Z"⟩ : MethodName) len W (fun P a => a = #[.ref x, .ref y] ∧ P.U.heap = h ∧ P.cells + 0 ≤ R.cells ∧ P.slots + 0 ≤ R.slots)
      (fun P _ v B => ∃ L, (((v = some (.int 1) ∧ cs = ds) ∨ (v = some (.int 0) ∧ ¬ cs = ds)) ∧ L = [] ∧ B.U.heap = h) ∧ B.locs = P.locs ++ L ∧ B.cells = P.cells + 0 ∧ B.slots = P.slots + 0) := by
  intro m meth c P g ig mk a X hg hsize hdg hW hn hp'
  obtain ⟨rfl, rfl, r1, r2⟩ := hp'
  have al : Z.vm.Alike P.U.vm := hZ.alike.trans X.warmed.alike
  obtain ⟨A, hx⟩ := txt_of wi al E V C K hc hb l2
  obtain ⟨A', hy⟩ := txt_of wi al E' V' C' K' hc' hb' l2'
  obtain ⟨v, B, X', ⟨⟨w, hv, hh, hq⟩, hl, hk, hs⟩, st⟩ := SEq.pays x t A cd cs.length (fun j => cs.getD j 0) y t' A' cd' ds.length (fun j => ds.getD j 0) z (tabEq_of (movedEq hZ hw)) hfr hlo m meth c P g ig mk _ X hg hsize hdg hW hn ⟨r1, r2, rfl, hx, hy, sta_is al S, hz⟩
  refine ⟨v, B, X', ⟨[], ⟨?_, rfl, hh⟩, hl, hk, hs⟩, st⟩
  rcases hq with ⟨rfl, q⟩ | ⟨rfl, q⟩
  · exact Or.inl ⟨hv, (same_list cs ds).mp q⟩
  · exact Or.inr ⟨hv, fun e => q ((same_list cs ds).mpr e)⟩
end StrChars.Road
namespace StrChars.Road
open Jvm Sem ClassFile Op Lib Jvm.Stand Jvm.Free Jvm.Free.XT
open Jvm.Lib.Cold (StaticIs)
/-- what backV says of its String, as the contracts of this text ask it: cs's low bytes, coder 0 -/
theorem codOf {cs : List Int32} {n : Nat} (hn : cs.length = n) (hb : ∀ c ∈ cs, ¬ 255 < c) : CodA cs 0 (Int32.ofNat n) ((cs.map lo8).map Value.int) := Or.inl ⟨rfl, by rw [hn], by simp [List.map_map, Function.comp_def], hb⟩
end StrChars.Road
end Jvm.Pilot.@@N@@
namespace Jvm.Pilot.@@N@@
open Jvm Jvm.ClassFile Sem Op Lib Jvm.Free Jvm.Stand Jvm.LawKit Jvm.RoadKit Bundle Jvm.Pilot.@@N@@.Jvm.D
theorem own_mvMN {Z s : State} {a0 args : Array Value} {own host : String} {index : Nat} {y : MethodName} (hZ : Z.Warmed39 s.vm) (w : (Jvm.Cond.methodLinkNest own index y host).before a0 Z = true) : (Jvm.Cond.methodLinkNest own index y host).before args s = true := (Cond.methodLinkNest_wide hZ w :)
theorem own_cat1 {v : Value} (h : v.isRef = true) : v.category = 1 := by cases v <;> simp [Value.isRef] at h <;> rfl
theorem own_fit {v : Value} {t : FieldType} (h : v.isRef = true) (ht : t.isReference = true) : fits t v = true := by
  cases t <;> first | (cases ht; done) | (cases v <;> simp [Value.isRef] at h <;> rfl)
theorem own_nar {v : Value} {t : FieldType} (h : v.isRef = true) (ht : t.isReference = true) : narrow t v = v := by
  cases t <;> first | (cases ht; done) | (cases v <;> simp [Value.isRef] at h <;> rfl)
theorem own_c255 (x : Int32) : ¬ nar .char ((x &&& (255 : Int32)).toUInt32.toUInt16.toUInt32.toInt32) < 0 ∧ ¬ (255 : Int32) < nar .char ((x &&& (255 : Int32)).toUInt32.toUInt16.toUInt32.toInt32) := by
  have e : nar .char ((x &&& (255 : Int32)).toUInt32.toUInt16.toUInt32.toInt32) = x &&& (255 : Int32) := by
    simp only [nar, UInt32.toUInt32_toInt32, UInt16.toUInt16_toUInt32]
    exact i2c_mask x
  have h := c_mask x (255 : Int32) 8 (by decide) (by decide)
  rw [e]
  rw [Int32.lt_iff_toInt_lt, Int32.lt_iff_toInt_lt]
  have e1 : (0 : Int32).toInt = 0 := by decide
  have e2 : (255 : Int32).toInt = 255 := by decide
  have e3 : ((2 ^ 8 : Nat) : Int) = 256 := by decide
  rw [e3] at h
  omega
/-- a char of one byte -/
def own_chr (c : Int32) : Prop := nar .char c = c ∧ ¬ c < 0 ∧ ¬ (255 : Int32) < c
def own_cs (n c0 c1 c2 : Int32) : List Int32 := if n = 0 then [] else if n = 1 then [c0] else if n = 2 then [c0, c1] else [c0, c1, c2]
theorem own_cs_mem {n c0 c1 c2 : Int32} (h0 : own_chr c0) (h1 : own_chr c1) (h2 : own_chr c2) : ∀ c ∈ own_cs n c0 c1 c2, ¬ c < 0 ∧ ¬ (255 : Int32) < c := by
  intro c hc
  unfold own_cs at hc
  split at hc
  · cases hc
  · split at hc
    · simp only [List.mem_cons, List.not_mem_nil, or_false] at hc; subst hc; exact h0.2
    · split at hc
      · simp only [List.mem_cons, List.not_mem_nil, or_false] at hc; rcases hc with rfl | rfl; · exact h0.2
        · exact h1.2
      · simp only [List.mem_cons, List.not_mem_nil, or_false] at hc; rcases hc with rfl | rfl | rfl; · exact h0.2
        · exact h1.2
        · exact h2.2
theorem own_cs_len (n c0 c1 c2 : Int32) : (own_cs n c0 c1 c2).length ≤ 4000 := by
  unfold own_cs
  split; · decide
  split; · simp
  split <;> simp
theorem own_up {cs : List Int32} (h : ∀ c ∈ cs, ¬ c < 0 ∧ ¬ (255 : Int32) < c) : ∀ c ∈ cs, ¬ c < 0 ∧ ¬ (65535 : Int32) < c := fun c hc => ⟨(h c hc).1, fun q => (h c hc).2 (by rw [Int32.lt_iff_toInt_lt] at q ⊢; have e1 : (65535 : Int32).toInt = 65535 := rfl; have e2 : (255 : Int32).toInt = 255 := rfl; omega)⟩
theorem own_chr_of {c : Int32} (h : ¬ c < 0 ∧ ¬ (255 : Int32) < c) : own_chr c := by
  refine ⟨?_, h⟩
  have h1 := c_i2c c
  rw [Int32.lt_iff_toInt_lt, Int32.lt_iff_toInt_lt] at h
  have e1 : (0 : Int32).toInt = 0 := by decide
  have e2 : (255 : Int32).toInt = 255 := by decide
  apply Int32.toInt_inj.mp
  show (c.toUInt32.toUInt16.toUInt32.toInt32).toInt = _
  omega
theorem own_mask (x : Int32) : ¬ (x &&& (255 : Int32)) < 0 ∧ ¬ (255 : Int32) < (x &&& (255 : Int32)) := by
  have h := c_mask x (255 : Int32) 8 (by decide) (by decide)
  rw [Int32.lt_iff_toInt_lt, Int32.lt_iff_toInt_lt]
  have e1 : (0 : Int32).toInt = 0 := by decide
  have e2 : (255 : Int32).toInt = 255 := by decide
  have e3 : ((2 ^ 8 : Nat) : Int) = 256 := by decide
  rw [e3] at h
  omega
theorem own_cmask (x : Int32) : own_chr ((x &&& (255 : Int32)).toUInt32.toUInt16.toUInt32.toInt32) := by
  rw [i2c_mask]; exact own_chr_of (own_mask x)
theorem own_flip {c : Int32} (h : own_chr c) : own_chr ((c ^^^ (32 : Int32)).toUInt32.toUInt16.toUInt32.toInt32) := by
  obtain ⟨-, h1, h2⟩ := h
  have t : ∀ k : Fin 256, ¬ ((Int32.ofNat k.val ^^^ (32 : Int32)).toUInt32.toUInt16.toUInt32.toInt32) < 0 ∧ ¬ (255 : Int32) < ((Int32.ofNat k.val ^^^ (32 : Int32)).toUInt32.toUInt16.toUInt32.toInt32) := by decide +kernel
  rw [Int32.lt_iff_toInt_lt] at h1 h2
  have e1 : (0 : Int32).toInt = 0 := by decide
  have e2 : (255 : Int32).toInt = 255 := by decide
  have e : c = Int32.ofNat c.toInt.toNat := by
    apply Int32.toInt_inj.mp
    rw [Int32.toInt_ofNat_small (by omega)]
    omega
  rw [e]
  exact own_chr_of (t ⟨c.toInt.toNat, by omega⟩)
theorem own_m4 (x : Int32) : (x &&& (3 : Int32)) = 0 ∨ (x &&& (3 : Int32)) = 1 ∨ (x &&& (3 : Int32)) = 2 ∨ (x &&& (3 : Int32)) = 3 := by
  have h := c_mask x (3 : Int32) 2 (by decide) (by decide)
  have e3 : ((2 ^ 2 : Nat) : Int) = 4 := by decide
  rw [e3] at h
  rcases (by omega : (x &&& (3 : Int32)).toInt = 0 ∨ (x &&& (3 : Int32)).toInt = 1 ∨ (x &&& (3 : Int32)).toInt = 2 ∨ (x &&& (3 : Int32)).toInt = 3) with q | q | q | q
  · exact Or.inl (Int32.toInt_inj.mp q)
  · exact Or.inr (Or.inl (Int32.toInt_inj.mp q))
  · exact Or.inr (Or.inr (Or.inl (Int32.toInt_inj.mp q)))
  · exact Or.inr (Or.inr (Or.inr (Int32.toInt_inj.mp q)))
theorem own_cs_ne {n m a b c d e f : Int32} (hn : n = 0 ∨ n = 1 ∨ n = 2 ∨ n = 3) (hm : m = 0 ∨ m = 1 ∨ m = 2 ∨ m = 3) (h : ¬ n = m) : ¬ own_cs n a b c = own_cs m d e f := by
  intro q
  have := congrArg List.length q
  rcases hn with rfl | rfl | rfl | rfl <;> rcases hm with rfl | rfl | rfl | rfl <;> first | exact h rfl | (simp [own_cs] at this)

theorem pn_0 : plainName "java/lang/Record" = true := by first | (simp [plainName, overriddenIn]; done) | decide +kernel
theorem dRC_0 : decode jdk_30_method_1_code 0 = .ok (.aload_n 0, 1) := by decide +kernel
theorem dRC_1 : decode jdk_30_method_1_code 1 = .ok (.invokespecial 1, 3) := by decide +kernel
theorem dRC_4 : decode jdk_30_method_1_code 4 = .ok (.return_, 1) := by decide +kernel
theorem ef_RC (m : MethodId) (x0 : Addr) : entryFrame m #[(.ref x0)] 1 = mkF m 0 #[.val (.ref x0)] [] := by first | (simp [entryFrame, mkF, argsToLocals, Value.category, maxLocals]; done) | rfl
def QRC (Z : State) (a : Addr) (h0 : Heap) (n0 : Nat) (v : Option Value) (h : Heap) (L : List Loc) : Prop := v = none ∧ Fr n0 L ∧ h = h0
set_option maxRecDepth 65536 in
set_option maxHeartbeats 40000000 in
theorem rmRC (l : Launch) (Z : State) (a0 : Array Value) (hw : ∀ d ∈ tables_1, d.before a0 Z = true) (ws : List Jvm.Cond) (a : Addr) (h0 : Heap) (n0 : Nat) (Z0 : n0 ≤ h0.size) :
    MetFree l (⟨"java/lang/Record", "<init>", "()V"⟩ : MethodName) (head1 (Jvm.Cond.code (⟨"java/lang/Record", "<init>", "()V"⟩ : MethodName) jdk_30_method_1_code 1 none :: ws) ({ frames := 1, cells := 0, slots := 0, locals := 12 } : Room)) (fun as_ U => as_ = #[(.ref a)] ∧ Z.Warmed39 U.vm ∧ U.heap = h0) (fun _ _ _ _ _ => True) (fun _ U o U' => ∃ v L, o = .returned v ∧ QRC Z a h0 n0 v U'.heap L ∧ FrameEnd U o U' L ({ frames := 1, cells := 0, slots := 0, locals := 12 } : Room).cells ({ frames := 1, cells := 0, slots := 0, locals := 12 } : Room).slots) := by
  refine MetFree.of_bodySF (plainFor_of_name pn_0) hisR ?_
  intro p e s m args below meth c s₁ Bd hml0 hP hK
  obtain ⟨rfl, hZ, hh⟩ := hP
  have hx := Bd.exec
  have hby := Bd.bytes
  have hml : c.maxLocals = 1 := hml0
  have hown : s.vm.findClass "java/lang/Record" = some m.cls := findClass_of_methodNamed Bd.named
  have hnm := (name_of_methodNamed Bd.named Bd.method).1
  have X0 : Stand p l e ({ frames := 1, cells := 0, slots := 0, locals := 12 } : Room) s m #[(.ref a)] below meth c s₁ [] 0 0 := Stand.of_body Bd
  have e0 : s₁.heap = h0 := by rw [← hh, Bd.state]; rfl
  have N0 := Fr.nil n0
  obtain ⟨E0, hE0⟩ : ∃ z, z = s₁.setTop (entryFrame m #[(.ref a)] 1) := ⟨_, rfl⟩
  rw [← hE0]
  have go0 : ∀ tgt, Steps p.tables e below (s₁.setTop (mkF m 0 #[.val (.ref a)] [])) tgt → Steps p.tables e below E0 tgt := fun tgt kont => by rw [hE0]; exact castTop (ef_RC m a) kont
  have go1 : ∀ tgt, Steps p.tables e below (s₁.setTop (mkF m 1 #[.val (.ref a)] [(.ref a)])) tgt → Steps p.tables e below E0 tgt := fun tgt kont => go0 tgt (by
    show Steps p.tables e below (s₁.setTop (mkF m 0 #[.val (.ref a)] [])) tgt
    refine XS.aloadN X0.here hx rfl (hb hby dRC_0) rfl rfl ?_
    exact kont)
  obtain ⟨T2, X2, e2, st2⟩ := initO X0 hx hZ hown (hw _ (List.mem_of_getElem? (i := 48) rfl)) (hw _ (List.mem_of_getElem? (i := 16) rfl)) (hw _ (List.mem_of_getElem? (i := 17) rfl)) e0 (g := (mkF m 1 #[.val (.ref a)] [(.ref a)])) rfl (by rw [hml]; rfl) rfl (hb hby dRC_1) (by decide) (W := 0) (by show 2 * 0 + _ ≤ _; exact Nat.le_of_eq rfl) (by decide)
  have go2 : ∀ tgt, Steps p.tables e below (T2.setTop (mkF m 4 #[.val (.ref a)] [])) tgt → Steps p.tables e below E0 tgt := fun tgt kont => go1 tgt (st2 tgt kont)
  obtain ⟨fs, hr, hrun, hended, hW, hsame⟩ := X2.leave (v := none) (fun _ => rfl)
  refine ⟨_, _, go2 _ ?_, hrun, hended, _, _, rfl, ?_, ⟨_, rfl⟩, hW, hsame.mono (by decide) (by decide)⟩
  · show Steps p.tables e below (T2.setTop (mkF m 4 #[.val (.ref a)] [])) _
    exact X2.returnOut hx Bd.returns (hb hby dRC_4) hr
  · show QRC Z a h0 n0 _ T2.heap _
    rw [e2]
    exact ⟨rfl, N0, rfl⟩
/-- the empty constant: not loaded since the start, or booked, with what it holds -/
def own_J (Z : State) (h : Heap) (vm : Vm) : Prop := IB Z vm [] ∨ ∃ (a b : Addr) (k : ClassId), Jvm.RoadKit.Lit (Z.setVm vm) "java/lang/String" 7 a ∧ Exa Z h a "java/lang/String" ∧ Fld Z h a "java/lang/String" "coder" "B" (.int (0 : Int32)) ∧ Fld Z h a "java/lang/String" "value" "[B" (.ref b) ∧ Arv Z h b k .byte (0 : Int32) [] (.int (0 : Int32))
theorem own_Jkeep {Z : State} {h h' : Heap} {vm : Vm} (J : own_J Z h vm) (K : Keep h h' []) : own_J Z h' vm := J.imp id fun ⟨a, b, k, L, E, C, F, A⟩ => ⟨a, b, k, L, E.keep K, C.keep K nin0, F.keep K nin0, A.keep K nin0⟩
theorem own_Jwarm {Z s : State} {h : Heap} {vm' : Vm} (J : own_J Z h s.vm) (hW : s.WarmedH vm') : own_J Z h vm' := by
  rcases J with ⟨more, e, q⟩ | ⟨a, b, k, L, r⟩
  · exact Or.inl ⟨more, hW.interned_eq.trans e, q⟩
  · exact Or.inr ⟨a, b, k, Jvm.RoadKit.Lit.stays (s := s) (vm0 := s.vm) L hW.wide, r⟩
theorem own_backJ {p : Program} {l : Launch} {e : Env} {R : Room} {s : State} {args : Array Value} {below : List Frame} {Z : State} {a0 : Array Value} {h : Heap} {y : MethodName} {bytes : ByteArray} {maxL : Nat} {ret : Option FieldType} {rm : Room} {len W : Nat} {as' : Array Value} {J : Vm → Prop} {Q : Option Value → Heap → List Loc → Vm → Prop}
    (hM : MetFree l y (head1 [Jvm.Cond.code y bytes maxL ret] rm) (fun a U => a = as' ∧ Z.Warmed39 U.vm ∧ U.heap = h ∧ J U.vm) (fun _ _ _ _ _ => True) (fun _ U o U' => ∃ v L, o = .returned v ∧ Q v U'.heap L U'.vm ∧ ReturnedEndW U o U' L rm.cells rm.slots))
    (hZ : Z.Warmed39 s.vm) (wc : (Jvm.Cond.code y bytes maxL ret).before a0 Z = true) (wz : (Jvm.Cond.initialized y.cls).before a0 Z = true) (hf : rm.frames + 1 ≤ R.frames) (hl : W + (maxL + 11) + rm.locals ≤ R.locals) :
    BackS l R p e below s args y len W (fun A a => a = as' ∧ A.U.heap = h ∧ J A.U.vm ∧ A.cells + rm.cells ≤ R.cells ∧ A.slots + rm.slots ≤ R.slots)
      (fun A _ v B => ∃ L, Q v B.U.heap L B.U.vm ∧ B.locs = A.locs ++ L ∧ B.cells = A.cells + rm.cells ∧ B.slots = A.slots + rm.slots) := by
  refine BackS.of_freeW (bytes := bytes) (maxL := maxL) (ret := ret) (E := fun _ _ o t L k n => k = rm.cells ∧ n = rm.slots ∧ ∃ v, o = .returned v ∧ Q v t.heap L t.vm) hM hf hl ?_ ?_ ?_ ?_ ?_
  · intro m meth c A a Y hp
    have hU : Z.Warmed39 A.U.vm := wtrans hZ Y.warmed
    refine ⟨?_, mv hU wc, mv hU wz, hp.2.2.2.1, hp.2.2.2.2⟩
    show (Jvm.Cond.and _ .tt).before a A.U = true
    rw [Cond.before_and, mv hU wc]; rfl
  · exact fun m meth c A a g mk Y hp => ⟨hp.1, wtrans hZ Y.warmed, hp.2.1, hp.2.2.1⟩
  · exact fun _ _ _ _ _ _ _ _ _ => trivial
  · rintro _ _ _ _ ⟨v, L, h1, h2, h3⟩
    exact ⟨L, _, _, h3, rfl, rfl, v, h1, h2⟩
  · rintro m meth c A a g mk v t L k n Y hp _ _ ⟨e1, e2, v', e3, e4⟩
    cases e3; subst e1 e2
    exact ⟨L, e4, rfl, rfl, rfl⟩

theorem pn_1 : plainName "java/lang/String" = true := by first | (simp [plainName, overriddenIn]; done) | decide +kernel
theorem dV0_0 : decode jdk_42_method_149_code 0 = .ok (.aload_n 0, 1) := by decide +kernel
theorem dV0_1 : decode jdk_42_method_149_code 1 = .ok (.invokespecial 1, 3) := by decide +kernel
theorem dV0_4 : decode jdk_42_method_149_code 4 = .ok (.iload_n 3, 1) := by decide +kernel
theorem dV0_5 : decode jdk_42_method_149_code 5 = .ok (.ifCond .ne 22, 3) := by decide +kernel
theorem dV0_8 : decode jdk_42_method_149_code 8 = .ok (.aload_n 0, 1) := by decide +kernel
theorem dV0_9 : decode jdk_42_method_149_code 9 = .ok (.ldc 7, 2) := by decide +kernel
theorem dV0_11 : decode jdk_42_method_149_code 11 = .ok (.getfield 9, 3) := by decide +kernel
theorem dV0_14 : decode jdk_42_method_149_code 14 = .ok (.putfield 9, 3) := by decide +kernel
theorem dV0_17 : decode jdk_42_method_149_code 17 = .ok (.aload_n 0, 1) := by decide +kernel
theorem dV0_18 : decode jdk_42_method_149_code 18 = .ok (.ldc 7, 2) := by decide +kernel
theorem dV0_20 : decode jdk_42_method_149_code 20 = .ok (.getfield 15, 3) := by decide +kernel
theorem dV0_23 : decode jdk_42_method_149_code 23 = .ok (.putfield 15, 3) := by decide +kernel
theorem dV0_26 : decode jdk_42_method_149_code 26 = .ok (.return_, 1) := by decide +kernel
theorem ef_V0 (m : MethodId) (x0 : Addr) (x1 : Addr) (x2 : Int32) (x3 : Int32) : entryFrame m #[(.ref x0), (.ref x1), (.int x2), (.int x3), .null] 6 = mkF m 0 #[.val (.ref x0), .val (.ref x1), .val (.int x2), .val (.int x3), .val .null, .unset] [] := by first | (simp [entryFrame, mkF, argsToLocals, Value.category, maxLocals]; done) | rfl
def QV0 (Z : State) (x : Addr) (ca : Addr) (h0 : Heap) (n0 : Nat) (v : Option Value) (h : Heap) (L : List Loc) (vm : Vm) : Prop := v = none ∧ Fr n0 L ∧ Keep h0 h [x] ∧ Exa Z h x "java/lang/String" ∧ Fld Z h x "java/lang/String" "coder" "B" (.int (0 : Int32)) ∧ ∃ (t : Addr) (kb : ClassId), Fld Z h x "java/lang/String" "value" "[B" (.ref t) ∧ Arv Z h t kb .byte (0 : Int32) [] (.int (0 : Int32)) ∧ own_J Z h vm
set_option maxRecDepth 65536 in
set_option maxHeartbeats 40000000 in
theorem rmV0 (l : Launch) (Z : State) (a0 : Array Value) (hw : ∀ d ∈ tables_1, d.before a0 Z = true) (ws : List Jvm.Cond) (x : Addr) (ca : Addr) (h0 : Heap) (n0 : Nat) (Z0 : n0 ≤ h0.size) (Ex : Exa Z h0 x "java/lang/String") (gx : n0 ≤ x) (Fv : Fld Z h0 x "java/lang/String" "value" "[B" .null) (Fc : Fld Z h0 x "java/lang/String" "coder" "B" (.int (0 : Int32))) (O0 : Old Z n0 h0) (hH : Jvm.Lit.constHeld Z "java/lang/String" 7) (hCW : Jvm.Lit.compactW.before a0 Z = true) :
    MetFree l (⟨"java/lang/String", "<init>", "([CIILjava/lang/Void;)V"⟩ : MethodName) (head1 (Jvm.Cond.code (⟨"java/lang/String", "<init>", "([CIILjava/lang/Void;)V"⟩ : MethodName) jdk_42_method_149_code 6 none :: ws) ({ frames := 1, cells := 2, slots := 4, locals := 12 } : Room)) (fun as_ U => as_ = #[(.ref x), (.ref ca), (.int (0 : Int32)), (.int (0 : Int32)), .null] ∧ Z.Warmed39 U.vm ∧ U.heap = h0 ∧ (own_J Z h0) U.vm) (fun _ _ _ _ _ => True) (fun _ U o U' => ∃ v L, o = .returned v ∧ QV0 Z x ca h0 n0 v U'.heap L U'.vm ∧ ReturnedEndW U o U' L ({ frames := 1, cells := 2, slots := 4, locals := 12 } : Room).cells ({ frames := 1, cells := 2, slots := 4, locals := 12 } : Room).slots) := by
  refine MetFree.of_bodySF (plainFor_of_name pn_1) hisR ?_
  intro p e s m args below meth c s₁ Bd hml0 hP hK
  obtain ⟨rfl, hZ, hh, hJ0⟩ := hP
  have hx := Bd.exec
  have hby := Bd.bytes
  have hml : c.maxLocals = 6 := hml0
  have hown : s.vm.findClass "java/lang/String" = some m.cls := findClass_of_methodNamed Bd.named
  have hnm := (name_of_methodNamed Bd.named Bd.method).1
  have X0 : Stand p l e ({ frames := 1, cells := 2, slots := 4, locals := 12 } : Room) (s.setVm s.vm) m #[(.ref x), (.ref ca), (.int (0 : Int32)), (.int (0 : Int32)), .null] below meth c s₁ [] 0 0 := Stand.of_body Bd
  have e0 : s₁.heap = h0 := by rw [← hh, Bd.state]; rfl
  have N0 := Fr.nil n0
  obtain ⟨E0, hE0⟩ : ∃ z, z = s₁.setTop (entryFrame m #[(.ref x), (.ref ca), (.int (0 : Int32)), (.int (0 : Int32)), .null] 6) := ⟨_, rfl⟩
  rw [← hE0]
  have go0 : ∀ tgt, Steps p.tables e below (s₁.setTop (mkF m 0 #[.val (.ref x), .val (.ref ca), .val (.int (0 : Int32)), .val (.int (0 : Int32)), .val .null, .unset] [])) tgt → Steps p.tables e below E0 tgt := fun tgt kont => by rw [hE0]; exact castTop (ef_V0 m x ca (0 : Int32) (0 : Int32)) kont
  have hS0 : s.Since s.vm h0.size := (State.WarmedH.refl s).since _
  have hk0 : h0.size ≤ h0.size := Nat.le_refl _
  have hwS : ∀ a ∈ Bundle.stringAtoms, a.before a0 Z = true := fun d hd => hw d ((by decide +kernel : ∀ d ∈ Bundle.stringAtoms, d ∈ tables_1) d hd)
  have go1 : ∀ tgt, Steps p.tables e below (s₁.setTop (mkF m 1 #[.val (.ref x), .val (.ref ca), .val (.int (0 : Int32)), .val (.int (0 : Int32)), .val .null, .unset] [(.ref x)])) tgt → Steps p.tables e below E0 tgt := fun tgt kont => go0 tgt (by
    show Steps p.tables e below (s₁.setTop (mkF m 0 #[.val (.ref x), .val (.ref ca), .val (.int (0 : Int32)), .val (.int (0 : Int32)), .val .null, .unset] [])) tgt
    refine XS.aloadN X0.here hx rfl (hb hby dV0_0) rfl rfl ?_
    exact kont)
  obtain ⟨T2, X2, e2, st2⟩ := initO X0 hx hZ hown (hw _ (List.mem_of_getElem? (i := 15) rfl)) (hw _ (List.mem_of_getElem? (i := 16) rfl)) (hw _ (List.mem_of_getElem? (i := 17) rfl)) e0 (g := (mkF m 1 #[.val (.ref x), .val (.ref ca), .val (.int (0 : Int32)), .val (.int (0 : Int32)), .val .null, .unset] [(.ref x)])) rfl (by rw [hml]; rfl) rfl (hb hby dV0_1) (by decide) (W := 0) (by show 2 * 0 + _ ≤ _; exact Nat.le_of_eq rfl) (by decide)
  have go2 : ∀ tgt, Steps p.tables e below (T2.setTop (mkF m 4 #[.val (.ref x), .val (.ref ca), .val (.int (0 : Int32)), .val (.int (0 : Int32)), .val .null, .unset] [])) tgt → Steps p.tables e below E0 tgt := fun tgt kont => go1 tgt (st2 tgt kont)
  have go3 : ∀ tgt, Steps p.tables e below (T2.setTop (mkF m 9 #[.val (.ref x), .val (.ref ca), .val (.int (0 : Int32)), .val (.int (0 : Int32)), .val .null, .unset] [(.ref x)])) tgt → Steps p.tables e below E0 tgt := fun tgt kont => go2 tgt (by
    show Steps p.tables e below (T2.setTop (mkF m 4 #[.val (.ref x), .val (.ref ca), .val (.int (0 : Int32)), .val (.int (0 : Int32)), .val .null, .unset] [])) tgt
    refine XS.iloadN X2.here hx rfl (hb hby dV0_4) rfl ?_
    show Steps p.tables e below (T2.setTop (mkF m 5 #[.val (.ref x), .val (.ref ca), .val (.int (0 : Int32)), .val (.int (0 : Int32)), .val .null, .unset] [(.int (0 : Int32))])) tgt
    refine XS.ifNo X2.here hx rfl (hb hby dV0_5) rfl ((if0 _ _).trans (teq rfl).2) ?_
    show Steps p.tables e below (T2.setTop (mkF m 8 #[.val (.ref x), .val (.ref ca), .val (.int (0 : Int32)), .val (.int (0 : Int32)), .val .null, .unset] [])) tgt
    refine XS.aloadN X2.here hx rfl (hb hby dV0_8) rfl rfl ?_
    exact kont)
  have hkeep0 : ∀ (b : Addr) (cl : Cell), Z.heap[b]? = some cl → s.heap[b]? = some cl := fun b cl q => by rw [hh]; exact O0.2.2 b cl q
  obtain ⟨la, lb, lk, vm4, T4, h4, k4, X4, e4, E4, hS4, hk4, hZ4, hown4, Ela, Cla, Vla, Ala, Lt, go4⟩ : ∃ (la lb : Addr) (lk : ClassId) (vm4 : Vm) (T4 : State) (h4 : Heap) (k4 : Nat), Stand p l e ({ frames := 1, cells := 2, slots := 4, locals := 12 } : Room) (s.setVm vm4) m #[(.ref x), (.ref ca), (.int (0 : Int32)), (.int (0 : Int32)), .null] below meth c T4 [] 2 4 ∧ T4.heap = h4 ∧ Ext h0 h4 ∧ s.Since vm4 k4 ∧ k4 ≤ h4.size ∧ Z.Warmed39 (s.setVm vm4).vm ∧ (s.setVm vm4).vm.findClass "java/lang/String" = some m.cls ∧ Exa Z h4 la "java/lang/String" ∧ Fld Z h4 la "java/lang/String" "coder" "B" (.int (0 : Int32)) ∧ Fld Z h4 la "java/lang/String" "value" "[B" (.ref lb) ∧ Arv Z h4 lb lk .byte (0 : Int32) [] (.int (0 : Int32)) ∧ Jvm.RoadKit.Lit (s.setVm vm4) "java/lang/String" 7 la ∧ ∀ tgt, Steps p.tables e below (T4.setTop (mkF m 11 #[.val (.ref x), .val (.ref ca), .val (.int (0 : Int32)), .val (.int (0 : Int32)), .val .null, .unset] [(.ref la), (.ref x)])) tgt → Steps p.tables e below E0 tgt := by
    rcases hJ0 with I | ⟨a, b, k, Lt, Ea, Ca, Va, Aa⟩
    · obtain ⟨a, T', h', k1, b, k, r1, r2, r3, r4, r5, r6, r7, r8, r9, r10, r11, -, -, -, r15, r16⟩ := ldcSVL X2 hx hZ hown (hw _ (List.mem_of_getElem? (i := 34) rfl)) hwS e2 hS0 hk0 (Fr.nil _) hkeep0 I (by simp) hH hCW (vs := []) (z := 0) ⟨by decide, by decide⟩ (by decide) (by decide) (g := (mkF m 9 #[.val (.ref x), .val (.ref ca), .val (.int (0 : Int32)), .val (.int (0 : Int32)), .val .null, .unset] [(.ref x)])) rfl (hb hby dV0_9) (n := 0) (by decide) (by decide) (by decide) (by decide)
      exact ⟨a, b, k, _, T', h', k1, r1, r2, r3, r4, r5, r6, r7, r8, r9, r10, r11, r15, fun tgt kont => go3 tgt (r16 tgt kont)⟩
    · exact ⟨a, b, k, s.vm, T2, h0, h0.size, X2.more (by decide) (by decide), e2, ⟨Nat.le_refl _, fun _ _ q => q⟩, hS0, hk0, hZ, hown, Ea, Ca, Va, Aa, Lt, fun tgt kont => go3 tgt (ldcAgain X2 hx hZ hown (hw _ (List.mem_of_getElem? (i := 34) rfl)) Lt (g := (mkF m 9 #[.val (.ref x), .val (.ref ca), .val (.int (0 : Int32)), .val (.int (0 : Int32)), .val .null, .unset] [(.ref x)])) rfl (hb hby dV0_9) tgt kont)⟩
  have z5 : n0 ≤ h4.size := Nat.le_trans Z0 E4.1
  have K6 : Keep h0 h4 [x] := (Keep.refl h0 [x]).ext E4
  have f7 : Fld Z h4 x "java/lang/String" "value" "[B" .null := (Fv.ext E4)
  have ne_la_x : la ≠ x := Vla.ne f7 (by simp)
  have f8 : Exa Z h4 x "java/lang/String" := (Ex.ext E4)
  have ne_x_lb : x ≠ lb := Exa.neArv f8 Ala (hw _ (List.mem_of_getElem? (i := 5) rfl))
  obtain ⟨T9, X9, e9, st9⟩ := getF X4 hx hZ4 hown4 (host := "") (Or.inl (hw _ (List.mem_of_getElem? (i := 32) rfl))) Via.refl e4 Vla (g := (mkF m 11 #[.val (.ref x), .val (.ref ca), .val (.int (0 : Int32)), .val (.int (0 : Int32)), .val .null, .unset] [(.ref la), (.ref x)])) rfl rfl (hb hby dV0_11)
  have go9 : ∀ tgt, Steps p.tables e below (T9.setTop (mkF m 14 #[.val (.ref x), .val (.ref ca), .val (.int (0 : Int32)), .val (.int (0 : Int32)), .val .null, .unset] [(.ref lb), (.ref x)])) tgt → Steps p.tables e below E0 tgt := fun tgt kont => go4 tgt (st9 tgt kont)
  obtain ⟨T10, h10, X10, e10, W10, st10⟩ := putF X9 hx hZ4 hown4 (host := "") (Or.inl (hw _ (List.mem_of_getElem? (i := 32) rfl))) Via.refl e9 f7 f8 (Or.inr ⟨(hw _ (List.mem_of_getElem? (i := 33) rfl)), rfl, hnm⟩) (hw _ (List.mem_of_getElem? (i := 5) rfl)) (ty := (.array .byte)) (by decide) rfl rfl (g := (mkF m 14 #[.val (.ref x), .val (.ref ca), .val (.int (0 : Int32)), .val (.int (0 : Int32)), .val .null, .unset] [(.ref lb), (.ref x)])) rfl rfl (hb hby dV0_14)
  have z11 : n0 ≤ h10.size := Nat.le_trans z5 (Keep.of_wr W10).1
  have K12 : Keep h0 h10 [x] := K6.wr W10 (Or.inl (List.mem_of_getElem? (i := 0) rfl))
  have N10 := Fr.snoc X10 N0 gx
  have f13 : Fld Z h10 x "java/lang/String" "value" "[B" (.ref lb) := (f7.same W10)
  have go10 : ∀ tgt, Steps p.tables e below (T10.setTop (mkF m 17 #[.val (.ref x), .val (.ref ca), .val (.int (0 : Int32)), .val (.int (0 : Int32)), .val .null, .unset] [])) tgt → Steps p.tables e below E0 tgt := fun tgt kont => go9 tgt (st10 tgt kont)
  have go14 : ∀ tgt, Steps p.tables e below (T10.setTop (mkF m 18 #[.val (.ref x), .val (.ref ca), .val (.int (0 : Int32)), .val (.int (0 : Int32)), .val .null, .unset] [(.ref x)])) tgt → Steps p.tables e below E0 tgt := fun tgt kont => go10 tgt (by
    show Steps p.tables e below (T10.setTop (mkF m 17 #[.val (.ref x), .val (.ref ca), .val (.int (0 : Int32)), .val (.int (0 : Int32)), .val .null, .unset] [])) tgt
    refine XS.aloadN X10.here hx rfl (hb hby dV0_17) rfl rfl ?_
    exact kont)
  have go15 : ∀ tgt, Steps p.tables e below (T10.setTop (mkF m 20 #[.val (.ref x), .val (.ref ca), .val (.int (0 : Int32)), .val (.int (0 : Int32)), .val .null, .unset] [(.ref la), (.ref x)])) tgt → Steps p.tables e below E0 tgt := fun tgt kont => go14 tgt (ldcAgain X10 hx hZ4 hown4 (hw _ (List.mem_of_getElem? (i := 34) rfl)) Lt (g := (mkF m 18 #[.val (.ref x), .val (.ref ca), .val (.int (0 : Int32)), .val (.int (0 : Int32)), .val .null, .unset] [(.ref x)])) rfl (hb hby dV0_18) tgt kont)
  have f16 : Fld Z h10 la "java/lang/String" "coder" "B" (.int (0 : Int32)) := (Cla.other W10 (Or.inl ne_la_x))
  obtain ⟨T17, X17, e17, st17⟩ := getF X10 hx hZ4 hown4 (host := "") (Or.inl (hw _ (List.mem_of_getElem? (i := 30) rfl))) Via.refl e10 f16 (g := (mkF m 20 #[.val (.ref x), .val (.ref ca), .val (.int (0 : Int32)), .val (.int (0 : Int32)), .val .null, .unset] [(.ref la), (.ref x)])) rfl rfl (hb hby dV0_20)
  have go17 : ∀ tgt, Steps p.tables e below (T17.setTop (mkF m 23 #[.val (.ref x), .val (.ref ca), .val (.int (0 : Int32)), .val (.int (0 : Int32)), .val .null, .unset] [(.int (0 : Int32)), (.ref x)])) tgt → Steps p.tables e below E0 tgt := fun tgt kont => go15 tgt (st17 tgt kont)
  have f18 : Fld Z h10 x "java/lang/String" "coder" "B" (.int (0 : Int32)) := ((Fc.ext E4).other W10 (Or.inr (slot_ne (Or.inr (hw _ (List.mem_of_getElem? (i := 31) rfl))) (Or.inr (hw _ (List.mem_of_getElem? (i := 33) rfl))) (by decide) (t := .byte) (t' := (.array .byte)) (by decide) (by decide))))
  have f19 : Exa Z h10 x "java/lang/String" := (f8.wr W10)
  obtain ⟨T20, h20, X20, e20, W20, st20⟩ := putF X17 hx hZ4 hown4 (host := "") (Or.inl (hw _ (List.mem_of_getElem? (i := 30) rfl))) Via.refl e17 f18 f19 (Or.inr ⟨(hw _ (List.mem_of_getElem? (i := 31) rfl)), rfl, hnm⟩) (hw _ (List.mem_of_getElem? (i := 5) rfl)) (ty := .byte) (by decide) rfl rfl (g := (mkF m 23 #[.val (.ref x), .val (.ref ca), .val (.int (0 : Int32)), .val (.int (0 : Int32)), .val .null, .unset] [(.int (0 : Int32)), (.ref x)])) rfl rfl (hb hby dV0_23)
  have z21 : n0 ≤ h20.size := Nat.le_trans z11 (Keep.of_wr W20).1
  have K22 : Keep h0 h20 [x] := K12.wr W20 (Or.inl (List.mem_of_getElem? (i := 0) rfl))
  have N20 := Fr.snoc X20 N10 gx
  have f23 : Fld Z h20 x "java/lang/String" "coder" "B" (.int (0 : Int32)) := (f18.same W20)
  have go20 : ∀ tgt, Steps p.tables e below (T20.setTop (mkF m 26 #[.val (.ref x), .val (.ref ca), .val (.int (0 : Int32)), .val (.int (0 : Int32)), .val .null, .unset] [])) tgt → Steps p.tables e below E0 tgt := fun tgt kont => go17 tgt (st20 tgt kont)
  have f24 : Exa Z h20 la "java/lang/String" := ((Ela.wr W10).wr W20)
  have f25 : Fld Z h20 la "java/lang/String" "coder" "B" (.int (0 : Int32)) := (f16.other W20 (Or.inl ne_la_x))
  have f26 : Fld Z h20 la "java/lang/String" "value" "[B" (.ref lb) := ((Vla.other W10 (Or.inl ne_la_x)).other W20 (Or.inl ne_la_x))
  have f27 : Arv Z h20 lb lk .byte (0 : Int32) [] (.int (0 : Int32)) := ((Ala.other W10 (Ne.symm ne_x_lb)).other W20 (Ne.symm ne_x_lb))
  have f28 : Exa Z h20 x "java/lang/String" := (f19.wr W20)
  have f29 : Fld Z h20 x "java/lang/String" "value" "[B" (.ref lb) := (f13.other W20 (Or.inr (slot_ne (Or.inr (hw _ (List.mem_of_getElem? (i := 33) rfl))) (Or.inr (hw _ (List.mem_of_getElem? (i := 31) rfl))) (by decide) (t := (.array .byte)) (t' := .byte) (by decide) (by decide))))
  obtain ⟨fs, hr, hrun, hended, hW⟩ := X20.leaveW hS4 (by rw [e20]; exact (Nat.le_trans hk4 (Nat.le_trans (Keep.of_wr W10).1 (Keep.of_wr W20).1))) (v := none) (fun _ => rfl)
  refine ⟨_, _, go20 _ ?_, hrun, hended, _, _, rfl, ?_, hW.1, hW.2.1, hW.2.2.1, hW.2.2.2.mono (by decide) (by decide)⟩
  · show Steps p.tables e below (T20.setTop (mkF m 26 #[.val (.ref x), .val (.ref ca), .val (.int (0 : Int32)), .val (.int (0 : Int32)), .val .null, .unset] [])) _
    exact X20.returnOut hx Bd.returns (hb hby dV0_26) hr
  · show QV0 Z x ca h0 n0 _ T20.heap _ T20.vm
    rw [e20]
    exact ⟨rfl, N20, K22, f28, f23, lb, lk, f29, f27, (own_Jwarm (s := s.setVm vm4) (Or.inr ⟨la, lb, lk, Lt, f24, f25, f26, f27⟩) X20.warmed)⟩
theorem pd_2 : parseMethodDescriptor "([CIILjava/lang/Void;)V" = some ⟨[(.array .char), .int, .int, (.object "java/lang/Void")], none⟩ := by decide +kernel
theorem dI0_0 : decode jdk_42_method_3_code 0 = .ok (.aload_n 0, 1) := by decide +kernel
theorem dI0_1 : decode jdk_42_method_3_code 1 = .ok (.aload_n 1, 1) := by decide +kernel
theorem dI0_2 : decode jdk_42_method_3_code 2 = .ok (.iconst 0, 1) := by decide +kernel
theorem dI0_3 : decode jdk_42_method_3_code 3 = .ok (.aload_n 1, 1) := by decide +kernel
theorem dI0_4 : decode jdk_42_method_3_code 4 = .ok (.arraylength, 1) := by decide +kernel
theorem dI0_5 : decode jdk_42_method_3_code 5 = .ok (.aconst_null, 1) := by decide +kernel
theorem dI0_6 : decode jdk_42_method_3_code 6 = .ok (.invokespecial 27, 3) := by decide +kernel
theorem dI0_9 : decode jdk_42_method_3_code 9 = .ok (.return_, 1) := by decide +kernel
theorem ef_I0 (m : MethodId) (x0 : Addr) (x1 : Addr) : entryFrame m #[(.ref x0), (.ref x1)] 2 = mkF m 0 #[.val (.ref x0), .val (.ref x1)] [] := by first | (simp [entryFrame, mkF, argsToLocals, Value.category, maxLocals]; done) | rfl
def QI0 (Z : State) (x : Addr) (ca : Addr) (kc : ClassId) (h0 : Heap) (n0 : Nat) (v : Option Value) (h : Heap) (L : List Loc) (vm : Vm) : Prop := v = none ∧ Fr n0 L ∧ Keep h0 h [x] ∧ Exa Z h x "java/lang/String" ∧ Fld Z h x "java/lang/String" "coder" "B" (.int (0 : Int32)) ∧ ∃ (t : Addr) (kb : ClassId), Fld Z h x "java/lang/String" "value" "[B" (.ref t) ∧ Arv Z h t kb .byte (0 : Int32) [] (.int (0 : Int32)) ∧ own_J Z h vm
set_option maxRecDepth 65536 in
set_option maxHeartbeats 40000000 in
theorem rmI0 (l : Launch) (Z : State) (a0 : Array Value) (hw : ∀ d ∈ tables_1, d.before a0 Z = true) (ws : List Jvm.Cond) (x : Addr) (ca : Addr) (kc : ClassId) (h0 : Heap) (n0 : Nat) (Z0 : n0 ≤ h0.size) (Ex : Exa Z h0 x "java/lang/String") (gx : n0 ≤ x) (Fv : Fld Z h0 x "java/lang/String" "value" "[B" .null) (Fc : Fld Z h0 x "java/lang/String" "coder" "B" (.int (0 : Int32))) (O0 : Old Z n0 h0) (hH : Jvm.Lit.constHeld Z "java/lang/String" 7) (hCW : Jvm.Lit.compactW.before a0 Z = true) (Ac : Arv Z h0 ca kc .char (0 : Int32) [] (.int (0 : Int32))) :
    MetFree l (⟨"java/lang/String", "<init>", "([C)V"⟩ : MethodName) (head1 (Jvm.Cond.code (⟨"java/lang/String", "<init>", "([C)V"⟩ : MethodName) jdk_42_method_3_code 2 none :: ws) ({ frames := 2, cells := 2, slots := 4, locals := 29 } : Room)) (fun as_ U => as_ = #[(.ref x), (.ref ca)] ∧ Z.Warmed39 U.vm ∧ U.heap = h0 ∧ (own_J Z h0) U.vm) (fun _ _ _ _ _ => True) (fun _ U o U' => ∃ v L, o = .returned v ∧ QI0 Z x ca kc h0 n0 v U'.heap L U'.vm ∧ ReturnedEndW U o U' L ({ frames := 2, cells := 2, slots := 4, locals := 29 } : Room).cells ({ frames := 2, cells := 2, slots := 4, locals := 29 } : Room).slots) := by
  refine MetFree.of_bodySF (plainFor_of_name pn_1) hisR ?_
  intro p e s m args below meth c s₁ Bd hml0 hP hK
  obtain ⟨rfl, hZ, hh, hJ0⟩ := hP
  have hx := Bd.exec
  have hby := Bd.bytes
  have hml : c.maxLocals = 2 := hml0
  have hown : s.vm.findClass "java/lang/String" = some m.cls := findClass_of_methodNamed Bd.named
  have hnm := (name_of_methodNamed Bd.named Bd.method).1
  have X0 : Stand p l e ({ frames := 2, cells := 2, slots := 4, locals := 29 } : Room) (s.setVm s.vm) m #[(.ref x), (.ref ca)] below meth c s₁ [] 0 0 := Stand.of_body Bd
  have e0 : s₁.heap = h0 := by rw [← hh, Bd.state]; rfl
  have N0 := Fr.nil n0
  obtain ⟨E0, hE0⟩ : ∃ z, z = s₁.setTop (entryFrame m #[(.ref x), (.ref ca)] 2) := ⟨_, rfl⟩
  rw [← hE0]
  have go0 : ∀ tgt, Steps p.tables e below (s₁.setTop (mkF m 0 #[.val (.ref x), .val (.ref ca)] [])) tgt → Steps p.tables e below E0 tgt := fun tgt kont => by rw [hE0]; exact castTop (ef_I0 m x ca) kont
  have hS0 : s.Since s.vm h0.size := (State.WarmedH.refl s).since _
  have hk0 : h0.size ≤ h0.size := Nat.le_refl _
  have hwS : ∀ a ∈ Bundle.stringAtoms, a.before a0 Z = true := fun d hd => hw d ((by decide +kernel : ∀ d ∈ Bundle.stringAtoms, d ∈ tables_1) d hd)
  have go1 : ∀ tgt, Steps p.tables e below (s₁.setTop (mkF m 4 #[.val (.ref x), .val (.ref ca)] [(.ref ca), (.int (0 : Int32)), (.ref ca), (.ref x)])) tgt → Steps p.tables e below E0 tgt := fun tgt kont => go0 tgt (by
    show Steps p.tables e below (s₁.setTop (mkF m 0 #[.val (.ref x), .val (.ref ca)] [])) tgt
    refine XS.aloadN X0.here hx rfl (hb hby dI0_0) rfl rfl ?_
    show Steps p.tables e below (s₁.setTop (mkF m 1 #[.val (.ref x), .val (.ref ca)] [(.ref x)])) tgt
    refine XS.aloadN X0.here hx rfl (hb hby dI0_1) rfl rfl ?_
    show Steps p.tables e below (s₁.setTop (mkF m 2 #[.val (.ref x), .val (.ref ca)] [(.ref ca), (.ref x)])) tgt
    refine XS.iconst X0.here hx rfl (hb hby dI0_2) ?_
    show Steps p.tables e below (s₁.setTop (mkF m 3 #[.val (.ref x), .val (.ref ca)] [(.int (0 : Int32)), (.ref ca), (.ref x)])) tgt
    refine XS.aloadN X0.here hx rfl (hb hby dI0_3) rfl rfl ?_
    exact kont)
  obtain ⟨c2, Ar2, q2, S2, M2, -, -⟩ := id Ac
  have go3 : ∀ tgt, Steps p.tables e below (s₁.setTop (mkF m 6 #[.val (.ref x), .val (.ref ca)] [.null, (.int (0 : Int32)), (.int (0 : Int32)), (.ref ca), (.ref x)])) tgt → Steps p.tables e below E0 tgt := fun tgt kont => go1 tgt (by
    show Steps p.tables e below (s₁.setTop (mkF m 4 #[.val (.ref x), .val (.ref ca)] [(.ref ca), (.int (0 : Int32)), (.ref ca), (.ref x)])) tgt
    refine X0.arraylength hx (by rw [e0]; exact Ar2.1) (State.isArrayOf_alike hZ.alike Ar2.2.1) (g := (mkF m 4 #[.val (.ref x), .val (.ref ca)] [(.ref ca), (.int (0 : Int32)), (.ref ca), (.ref x)])) rfl rfl (hb hby dI0_4) _ ?_
    rw [len_of S2 M2]
    show Steps p.tables e below (s₁.setTop (mkF m 5 #[.val (.ref x), .val (.ref ca)] [(.int (0 : Int32)), (.int (0 : Int32)), (.ref ca), (.ref x)])) tgt
    refine XS.aconstNull X0.here hx rfl (hb hby dI0_5) ?_
    exact kont)
  obtain ⟨_, _, ⟨T4, L4, k4, n4⟩, -, Xp4, hSp4, hgp4, ⟨Lc4, hQ4, l4, y4, z4⟩, st4⟩ := X0.specialBackS hx (y := (⟨"java/lang/String", "<init>", "([CIILjava/lang/Void;)V"⟩ : MethodName)) rfl hown (mvT hZ (hw _ (List.mem_of_getElem? (i := 11) rfl))) (mvT hZ (hw _ (List.mem_of_getElem? (i := 12) rfl))) (mvT hZ (hw _ (List.mem_of_getElem? (i := 14) rfl))) (by decide) (own_backJ (W := 0) (rmV0 l Z a0 hw [] x ca h0 n0 Z0 Ex gx Fv Fc O0 hH hCW) hZ (hw _ (List.mem_of_getElem? (i := 14) rfl)) (hw _ (List.mem_of_getElem? (i := 6) rfl)) (by decide) (by decide)) (g := (mkF m 6 #[.val (.ref x), .val (.ref ca)] [.null, (.int (0 : Int32)), (.int (0 : Int32)), (.ref ca), (.ref x)])) rfl (by rw [hml]; rfl) (Steps.refl _) (a := x) (argsL := [(.ref ca), (.int (0 : Int32)), (.int (0 : Int32)), .null]) (rest := []) (lenOf pd_2 rfl) rfl (by show 2 * 0 + _ ≤ _; exact Nat.le_of_eq rfl) (hb hby dI0_6) (fun _ hwm => ⟨rfl, e0, (own_Jwarm hJ0 hwm), (by decide : 0 + 2 ≤ _), (by decide : 0 + 4 ≤ _)⟩)
  dsimp only [Pt.U, Pt.locs, Pt.cells, Pt.slots] at Xp4 hSp4 hgp4 l4 y4 z4 st4 hQ4
  subst l4 y4 z4
  obtain ⟨X4, hS4, hZ4, hown4⟩ := rebS hS0 (by rw [e0]; exact hk0) Xp4 hSp4 hgp4 hZ hown
  obtain ⟨rfl, N4q, K1, E1, C1, t1, kb1, V1, A1, J1⟩ := hQ4
  have N4 := Fr.app N0 N4q
  have z5 : n0 ≤ T4.heap.size := Nat.le_trans Z0 K1.1
  have K6 : Keep h0 T4.heap [x] := (Keep.refl h0 [x]).trans K1 (allS (Or.inl (List.mem_of_getElem? (i := 0) rfl)) all0)
  have go4 : ∀ tgt, Steps p.tables e below (T4.setTop (mkF m 9 #[.val (.ref x), .val (.ref ca)] [])) tgt → Steps p.tables e below E0 tgt := fun tgt kont => go3 tgt (st4.trans kont)
  obtain ⟨fs, hr, hrun, hended, hW⟩ := X4.leaveW hS4 (Nat.le_refl _) (v := none) (fun _ => rfl)
  refine ⟨_, _, go4 _ ?_, hrun, hended, _, _, rfl, ?_, hW.1, hW.2.1, hW.2.2.1, hW.2.2.2.mono (by decide) (by decide)⟩
  · show Steps p.tables e below (T4.setTop (mkF m 9 #[.val (.ref x), .val (.ref ca)] [])) _
    exact X4.returnOut hx Bd.returns (hb hby dI0_9) hr
  · show QI0 Z x ca kc h0 n0 _ T4.heap _ T4.vm
    exact ⟨rfl, N4, K6, E1, C1, t1, kb1, V1, A1, own_Jwarm (s := s.setVm T4.vm) J1 X4.warmed⟩
theorem pd_3 : parseMethodDescriptor "([C)V" = some ⟨[(.array .char)], none⟩ := by decide +kernel
theorem pn_4 : plainName "com/example/caskwright/caskwright/io/ViewEntryVersionedPinLaw" = true := by first | (simp [plainName, overriddenIn]; done) | decide +kernel
theorem dMK_0 : decode method_3_code 0 = .ok (.iload_n 0, 1) := by decide +kernel
theorem dMK_1 : decode method_3_code 1 = .ok (.ifCond .ne 14, 3) := by decide +kernel
theorem dMK_4 : decode method_3_code 4 = .ok (.new 27, 3) := by decide +kernel
theorem dMK_7 : decode method_3_code 7 = .ok (.dup, 1) := by decide +kernel
theorem dMK_8 : decode method_3_code 8 = .ok (.iconst 0, 1) := by decide +kernel
theorem dMK_9 : decode method_3_code 9 = .ok (.newarray .char, 2) := by decide +kernel
theorem dMK_11 : decode method_3_code 11 = .ok (.invokespecial 29, 3) := by decide +kernel
theorem dMK_14 : decode method_3_code 14 = .ok (.areturn, 1) := by decide +kernel
theorem dMK_15 : decode method_3_code 15 = .ok (.iload_n 0, 1) := by decide +kernel
theorem dMK_16 : decode method_3_code 16 = .ok (.iconst 1, 1) := by decide +kernel
theorem dMK_17 : decode method_3_code 17 = .ok (.if_icmp .ne 18, 3) := by decide +kernel
theorem dMK_20 : decode method_3_code 20 = .ok (.new 27, 3) := by decide +kernel
theorem dMK_23 : decode method_3_code 23 = .ok (.dup, 1) := by decide +kernel
theorem dMK_24 : decode method_3_code 24 = .ok (.iconst 1, 1) := by decide +kernel
theorem dMK_25 : decode method_3_code 25 = .ok (.newarray .char, 2) := by decide +kernel
theorem dMK_27 : decode method_3_code 27 = .ok (.dup, 1) := by decide +kernel
theorem dMK_28 : decode method_3_code 28 = .ok (.iconst 0, 1) := by decide +kernel
theorem dMK_29 : decode method_3_code 29 = .ok (.iload_n 1, 1) := by decide +kernel
theorem dMK_30 : decode method_3_code 30 = .ok (.castore, 1) := by decide +kernel
theorem dMK_31 : decode method_3_code 31 = .ok (.invokespecial 29, 3) := by decide +kernel
theorem dMK_34 : decode method_3_code 34 = .ok (.areturn, 1) := by decide +kernel
theorem dMK_35 : decode method_3_code 35 = .ok (.iload_n 0, 1) := by decide +kernel
theorem dMK_36 : decode method_3_code 36 = .ok (.iconst 2, 1) := by decide +kernel
theorem dMK_37 : decode method_3_code 37 = .ok (.if_icmp .ne 22, 3) := by decide +kernel
theorem dMK_40 : decode method_3_code 40 = .ok (.new 27, 3) := by decide +kernel
theorem dMK_43 : decode method_3_code 43 = .ok (.dup, 1) := by decide +kernel
theorem dMK_44 : decode method_3_code 44 = .ok (.iconst 2, 1) := by decide +kernel
theorem dMK_45 : decode method_3_code 45 = .ok (.newarray .char, 2) := by decide +kernel
theorem dMK_47 : decode method_3_code 47 = .ok (.dup, 1) := by decide +kernel
theorem dMK_48 : decode method_3_code 48 = .ok (.iconst 0, 1) := by decide +kernel
theorem dMK_49 : decode method_3_code 49 = .ok (.iload_n 1, 1) := by decide +kernel
theorem dMK_50 : decode method_3_code 50 = .ok (.castore, 1) := by decide +kernel
theorem dMK_51 : decode method_3_code 51 = .ok (.dup, 1) := by decide +kernel
theorem dMK_52 : decode method_3_code 52 = .ok (.iconst 1, 1) := by decide +kernel
theorem dMK_53 : decode method_3_code 53 = .ok (.iload_n 2, 1) := by decide +kernel
theorem dMK_54 : decode method_3_code 54 = .ok (.castore, 1) := by decide +kernel
theorem dMK_55 : decode method_3_code 55 = .ok (.invokespecial 29, 3) := by decide +kernel
theorem dMK_58 : decode method_3_code 58 = .ok (.areturn, 1) := by decide +kernel
theorem dMK_59 : decode method_3_code 59 = .ok (.new 27, 3) := by decide +kernel
theorem dMK_62 : decode method_3_code 62 = .ok (.dup, 1) := by decide +kernel
theorem dMK_63 : decode method_3_code 63 = .ok (.iconst 3, 1) := by decide +kernel
theorem dMK_64 : decode method_3_code 64 = .ok (.newarray .char, 2) := by decide +kernel
theorem dMK_66 : decode method_3_code 66 = .ok (.dup, 1) := by decide +kernel
theorem dMK_67 : decode method_3_code 67 = .ok (.iconst 0, 1) := by decide +kernel
theorem dMK_68 : decode method_3_code 68 = .ok (.iload_n 1, 1) := by decide +kernel
theorem dMK_69 : decode method_3_code 69 = .ok (.castore, 1) := by decide +kernel
theorem dMK_70 : decode method_3_code 70 = .ok (.dup, 1) := by decide +kernel
theorem dMK_71 : decode method_3_code 71 = .ok (.iconst 1, 1) := by decide +kernel
theorem dMK_72 : decode method_3_code 72 = .ok (.iload_n 2, 1) := by decide +kernel
theorem dMK_73 : decode method_3_code 73 = .ok (.castore, 1) := by decide +kernel
theorem dMK_74 : decode method_3_code 74 = .ok (.dup, 1) := by decide +kernel
theorem dMK_75 : decode method_3_code 75 = .ok (.iconst 2, 1) := by decide +kernel
theorem dMK_76 : decode method_3_code 76 = .ok (.iload_n 3, 1) := by decide +kernel
theorem dMK_77 : decode method_3_code 77 = .ok (.castore, 1) := by decide +kernel
theorem dMK_78 : decode method_3_code 78 = .ok (.invokespecial 29, 3) := by decide +kernel
theorem dMK_81 : decode method_3_code 81 = .ok (.areturn, 1) := by decide +kernel
theorem ef_MK (m : MethodId) (x0 : Int32) (x1 : Int32) (x2 : Int32) (x3 : Int32) : entryFrame m #[(.int x0), (.int x1), (.int x2), (.int x3)] 4 = mkF m 0 #[.val (.int x0), .val (.int x1), .val (.int x2), .val (.int x3)] [] := by first | (simp [entryFrame, mkF, argsToLocals, Value.category, maxLocals]; done) | rfl
def QMK (Z : State) (k : Int32) (c0 : Int32) (c1 : Int32) (c2 : Int32) (G : Int32) (h0 : Heap) (n0 : Nat) (v : Option Value) (h : Heap) (L : List Loc) (vm : Vm) : Prop := v = some (.ref h0.size) ∧ Fr n0 L ∧ Keep h0 h [] ∧ Exa Z h h0.size "java/lang/String" ∧ Fld Z h h0.size "java/lang/String" "coder" "B" (.int (0 : Int32)) ∧ ∃ (t : Addr) (kb : ClassId), t < h.size ∧ Fld Z h h0.size "java/lang/String" "value" "[B" (.ref t) ∧ Arv Z h t kb .byte (Int32.ofNat (own_cs k c0 c1 c2).length) (((own_cs k c0 c1 c2).map (fun c => c.toInt8.toInt32)).map Value.int) (.int (0 : Int32)) ∧ own_J Z h vm
set_option maxRecDepth 65536 in
set_option maxHeartbeats 40000000 in
theorem rmMK (l : Launch) (Z : State) (a0 : Array Value) (hw : ∀ d ∈ tables_1, d.before a0 Z = true) (ws : List Jvm.Cond) (k : Int32) (c0 : Int32) (c1 : Int32) (c2 : Int32) (G : Int32) (h0 : Heap) (n0 : Nat) (Z0 : n0 ≤ h0.size) (q0 : own_chr c0) (q1 : own_chr c1) (q2 : own_chr c2) (SC : Sta Z Z.heap "java/lang/String" "COMPACT_STRINGS" "Z" (.int G)) (hG : ¬ (G = (0 : Int32))) (O0 : Old Z n0 h0) (hH : Jvm.Lit.constHeld Z "java/lang/String" 7) (hCW : Jvm.Lit.compactW.before a0 Z = true) :
    MetFree l (⟨"com/example/caskwright/caskwright/io/ViewEntryVersionedPinLaw", "make", "(ICCC)Ljava/lang/String;"⟩ : MethodName) (head1 (Jvm.Cond.code (⟨"com/example/caskwright/caskwright/io/ViewEntryVersionedPinLaw", "make", "(ICCC)Ljava/lang/String;"⟩ : MethodName) method_3_code 4 (some (.object "java/lang/String")) :: ws) ({ frames := 4, cells := 4, slots := 10, locals := 66 } : Room)) (fun as_ U => as_ = #[(.int k), (.int c0), (.int c1), (.int c2)] ∧ Z.Warmed39 U.vm ∧ U.heap = h0 ∧ (own_J Z h0) U.vm) (fun _ _ _ _ _ => True) (fun _ U o U' => ∃ v L, o = .returned v ∧ QMK Z k c0 c1 c2 G h0 n0 v U'.heap L U'.vm ∧ ReturnedEndW U o U' L ({ frames := 4, cells := 4, slots := 10, locals := 66 } : Room).cells ({ frames := 4, cells := 4, slots := 10, locals := 66 } : Room).slots) := by
  refine MetFree.of_bodySF (plainFor_of_name pn_4) hisR ?_
  intro p e s m args below meth c s₁ Bd hml0 hP hK
  obtain ⟨rfl, hZ, hh, hJ0⟩ := hP
  have hx := Bd.exec
  have hby := Bd.bytes
  have hml : c.maxLocals = 4 := hml0
  have hown : s.vm.findClass "com/example/caskwright/caskwright/io/ViewEntryVersionedPinLaw" = some m.cls := findClass_of_methodNamed Bd.named
  have hnm := (name_of_methodNamed Bd.named Bd.method).1
  have X0 : Stand p l e ({ frames := 4, cells := 4, slots := 10, locals := 66 } : Room) (s.setVm s.vm) m #[(.int k), (.int c0), (.int c1), (.int c2)] below meth c s₁ [] 0 0 := Stand.of_body Bd
  have e0 : s₁.heap = h0 := by rw [← hh, Bd.state]; rfl
  have N0 := Fr.nil n0
  obtain ⟨E0, hE0⟩ : ∃ z, z = s₁.setTop (entryFrame m #[(.int k), (.int c0), (.int c1), (.int c2)] 4) := ⟨_, rfl⟩
  rw [← hE0]
  have go0 : ∀ tgt, Steps p.tables e below (s₁.setTop (mkF m 0 #[.val (.int k), .val (.int c0), .val (.int c1), .val (.int c2)] [])) tgt → Steps p.tables e below E0 tgt := fun tgt kont => by rw [hE0]; exact castTop (ef_MK m k c0 c1 c2) kont
  have hS0 : s.Since s.vm h0.size := (State.WarmedH.refl s).since _
  have hk0 : h0.size ≤ h0.size := Nat.le_refl _
  have hwS : ∀ a ∈ Bundle.stringAtoms, a.before a0 Z = true := fun d hd => hw d ((by decide +kernel : ∀ d ∈ Bundle.stringAtoms, d ∈ tables_1) d hd)
  have hws : ∀ d ∈ StrChars.Road.words, d.before a0 Z = true := fun d hd => hw d ((by decide +kernel : ∀ d ∈ StrChars.Road.words, d ∈ tables_1) d hd)
  have go1 : ∀ tgt, Steps p.tables e below (s₁.setTop (mkF m 1 #[.val (.int k), .val (.int c0), .val (.int c1), .val (.int c2)] [(.int k)])) tgt → Steps p.tables e below E0 tgt := fun tgt kont => go0 tgt (by
    show Steps p.tables e below (s₁.setTop (mkF m 0 #[.val (.int k), .val (.int c0), .val (.int c1), .val (.int c2)] [])) tgt
    refine XS.iloadN X0.here hx rfl (hb hby dMK_0) rfl ?_
    exact kont)
  by_cases u0 : k = (0 : Int32)
  · have go2 : ∀ tgt, Steps p.tables e below (s₁.setTop (mkF m 4 #[.val (.int k), .val (.int c0), .val (.int c1), .val (.int c2)] [])) tgt → Steps p.tables e below E0 tgt := fun tgt kont => go1 tgt (by
      show Steps p.tables e below (s₁.setTop (mkF m 1 #[.val (.int k), .val (.int c0), .val (.int c1), .val (.int c2)] [(.int k)])) tgt
      refine XS.ifNo X0.here hx rfl (hb hby dMK_1) rfl ((if0 _ _).trans (teq u0).2) ?_
      exact kont)
    obtain ⟨T3, h3, X3, e3, E3, A3, D3, -, st3⟩ := newO X0 hx hZ hown (hw _ (List.mem_of_getElem? (i := 4) rfl)) (hw _ (List.mem_of_getElem? (i := 5) rfl)) (hw _ (List.mem_of_getElem? (i := 6) rfl)) e0 (g := (mkF m 4 #[.val (.int k), .val (.int c0), .val (.int c1), .val (.int c2)] [])) rfl (hb hby dMK_4) (by decide) (by decide)
    obtain ⟨st, g3⟩ : ∃ z, z = h0.size := ⟨_, rfl⟩
    rw [← g3] at A3 D3 st3
    have ge_st : n0 ≤ st := Nat.le_trans Z0 (Nat.le_of_eq g3.symm)
    have hz_st : h0.size ≤ st := Nat.le_trans (Keep.refl h0 []).1 (Nat.le_of_eq g3.symm)
    have z4 : n0 ≤ h3.size := Nat.le_trans Z0 E3.1
    have K5 : Keep h0 h3 [] := (Keep.refl h0 []).ext E3
    have Fcoder_st : Fld Z h3 st "java/lang/String" "coder" "B" (.int (0 : Int32)) := D3 (Or.inr (hw _ (List.mem_of_getElem? (i := 31) rfl))) (ty := .byte) (by decide)
    have Fvalue_st : Fld Z h3 st "java/lang/String" "value" "[B" .null := D3 (Or.inr (hw _ (List.mem_of_getElem? (i := 33) rfl))) (ty := (.array .byte)) (by decide)
    have go3 : ∀ tgt, Steps p.tables e below (T3.setTop (mkF m 7 #[.val (.int k), .val (.int c0), .val (.int c1), .val (.int c2)] [(.ref st)])) tgt → Steps p.tables e below E0 tgt := fun tgt kont => go2 tgt (st3 tgt kont)
    have go6 : ∀ tgt, Steps p.tables e below (T3.setTop (mkF m 9 #[.val (.int k), .val (.int c0), .val (.int c1), .val (.int c2)] [(.int (0 : Int32)), (.ref st), (.ref st)])) tgt → Steps p.tables e below E0 tgt := fun tgt kont => go3 tgt (by
      show Steps p.tables e below (T3.setTop (mkF m 7 #[.val (.int k), .val (.int c0), .val (.int c1), .val (.int c2)] [(.ref st)])) tgt
      refine XS.dup X3.here hx rfl (hb hby dMK_7) rfl rfl ?_
      show Steps p.tables e below (T3.setTop (mkF m 8 #[.val (.int k), .val (.int c0), .val (.int c1), .val (.int c2)] [(.ref st), (.ref st)])) tgt
      refine XS.iconst X3.here hx rfl (hb hby dMK_8) ?_
      exact kont)
    obtain ⟨T7, h7, k7, X7, e7, E7, A7, st7⟩ := newP X3 hx hZ (hw _ (List.mem_of_getElem? (i := 7) rfl)) e3 (g := (mkF m 9 #[.val (.int k), .val (.int c0), .val (.int c1), .val (.int c2)] [(.int (0 : Int32)), (.ref st), (.ref st)])) rfl (hb hby dMK_9) rfl (by decide) (cap := 0) (by decide) (by decide) (by decide) (by decide)
    obtain ⟨ca, g7⟩ : ∃ z, z = h3.size := ⟨_, rfl⟩
    rw [← g7] at A7 st7
    have ne_st_ca : st ≠ ca := Nat.ne_of_lt (Nat.lt_of_lt_of_le A3.lt (Nat.le_of_eq g7.symm))
    have ge_ca : n0 ≤ ca := Nat.le_trans z4 (Nat.le_of_eq g7.symm)
    have hz_ca : h0.size ≤ ca := Nat.le_trans K5.1 (Nat.le_of_eq g7.symm)
    have z8 : n0 ≤ h7.size := Nat.le_trans z4 E7.1
    have K9 : Keep h0 h7 [] := K5.ext E7
    have V7 : Arv Z h7 ca k7 .char (0 : Int32) [] (.int (0 : Int32)) := Arv.new A7 (by decide)
    have go7 : ∀ tgt, Steps p.tables e below (T7.setTop (mkF m 11 #[.val (.int k), .val (.int c0), .val (.int c1), .val (.int c2)] [(.ref ca), (.ref st), (.ref st)])) tgt → Steps p.tables e below E0 tgt := fun tgt kont => go6 tgt (st7 tgt kont)
    have hcs : (own_cs k c0 c1 c2) = [] := by rw [own_cs, if_pos u0]
    have f10 : Exa Z h7 st "java/lang/String" := (A3.ext E7)
    have f11 : Fld Z h7 st "java/lang/String" "value" "[B" .null := (Fvalue_st.ext E7)
    have f12 : Fld Z h7 st "java/lang/String" "coder" "B" (.int (0 : Int32)) := (Fcoder_st.ext E7)
    have f13 : Old Z n0 h7 := ((O0.ext E3).ext E7)
    obtain ⟨_, _, ⟨T14, L14, k14, n14⟩, -, Xp14, hSp14, hgp14, ⟨Lc14, hQ14, l14, y14, z14⟩, st14⟩ := X7.specialBackS hx (y := (⟨"java/lang/String", "<init>", "([C)V"⟩ : MethodName)) rfl hown (mvT hZ (hw _ (List.mem_of_getElem? (i := 8) rfl))) (mvT hZ (hw _ (List.mem_of_getElem? (i := 9) rfl))) (mvT hZ (hw _ (List.mem_of_getElem? (i := 10) rfl))) (by decide) (own_backJ (W := 1) (rmI0 l Z a0 hw [] st ca k7 h7 n0 z8 f10 ge_st f11 f12 f13 hH hCW V7) hZ (hw _ (List.mem_of_getElem? (i := 10) rfl)) (hw _ (List.mem_of_getElem? (i := 6) rfl)) (by decide) (by decide)) (g := (mkF m 11 #[.val (.int k), .val (.int c0), .val (.int c1), .val (.int c2)] [(.ref ca), (.ref st), (.ref st)])) rfl (by rw [hml]; rfl) (Steps.refl _) (a := st) (argsL := [(.ref ca)]) (rest := [(.ref st)]) (lenOf pd_3 rfl) rfl (by show 2 * 0 + _ ≤ _; exact Nat.le_of_eq rfl) (hb hby dMK_11) (fun _ hwm => ⟨rfl, e7, (own_Jwarm (own_Jkeep hJ0 K9) hwm), (by decide : 2 + 2 ≤ _), (by decide : 4 + 4 ≤ _)⟩)
    dsimp only [Pt.U, Pt.locs, Pt.cells, Pt.slots] at Xp14 hSp14 hgp14 l14 y14 z14 st14 hQ14
    subst l14 y14 z14
    obtain ⟨X14, hS14, hZ14, hown14⟩ := rebS hS0 (by rw [e7]; exact (Nat.le_trans hk0 (Nat.le_trans E3.1 E7.1))) Xp14 hSp14 hgp14 hZ hown
    obtain ⟨rfl, N14q, K1, E1, C1, t1, kb1, V1, A1, J1⟩ := hQ14
    have N14 := Fr.app N0 N14q
    have z15 : n0 ≤ T14.heap.size := Nat.le_trans z8 K1.1
    have K16 : Keep h0 T14.heap [] := K9.trans K1 (allS (Or.inr hz_st) all0)
    have go14 : ∀ tgt, Steps p.tables e below (T14.setTop (mkF m 14 #[.val (.int k), .val (.int c0), .val (.int c1), .val (.int c2)] [(.ref st)])) tgt → Steps p.tables e below E0 tgt := fun tgt kont => go7 tgt (st14.trans kont)
    subst g3
    obtain ⟨fs, hr, hrun, hended, hW⟩ := X14.leaveW hS14 (Nat.le_refl _) (v := some (.ref h0.size)) (fun h => by rw [Bd.returns] at h; cases h)
    refine ⟨_, _, go14 _ ?_, hrun, hended, _, _, rfl, ?_, hW.1, hW.2.1, hW.2.2.1, hW.2.2.2.mono (by decide) (by decide)⟩
    · show Steps p.tables e below (T14.setTop (mkF m 14 #[.val (.int k), .val (.int c0), .val (.int c1), .val (.int c2)] [(.ref h0.size)])) _
      exact retOut X14 hx Bd.returns rfl (Or.inr (Or.inr (Or.inr (Or.inr ⟨rfl, rfl, rfl⟩)))) (hb hby dMK_14) hr
    · show QMK Z k c0 c1 c2 G h0 n0 _ T14.heap _ T14.vm
      exact ⟨rfl, N14, K16, E1, C1, t1, kb1, A1.lt, V1, by rw [hcs]; exact A1, own_Jwarm (s := s.setVm T14.vm) J1 X14.warmed⟩
  · have go17 : ∀ tgt, Steps p.tables e below (s₁.setTop (mkF m 17 #[.val (.int k), .val (.int c0), .val (.int c1), .val (.int c2)] [(.int (1 : Int32)), (.int k)])) tgt → Steps p.tables e below E0 tgt := fun tgt kont => go1 tgt (by
      show Steps p.tables e below (s₁.setTop (mkF m 1 #[.val (.int k), .val (.int c0), .val (.int c1), .val (.int c2)] [(.int k)])) tgt
      refine XS.ifYes X0.here hx rfl (pc0 := 1) (pc' := 15) rfl (hb hby dMK_1) rfl ((if0 _ _).trans (feq u0).2) (by decide) (by decide) ?_
      show Steps p.tables e below (s₁.setTop (mkF m 15 #[.val (.int k), .val (.int c0), .val (.int c1), .val (.int c2)] [])) tgt
      refine XS.iloadN X0.here hx rfl (hb hby dMK_15) rfl ?_
      show Steps p.tables e below (s₁.setTop (mkF m 16 #[.val (.int k), .val (.int c0), .val (.int c1), .val (.int c2)] [(.int k)])) tgt
      refine XS.iconst X0.here hx rfl (hb hby dMK_16) ?_
      exact kont)
    by_cases u1 : k = (1 : Int32)
    · have go18 : ∀ tgt, Steps p.tables e below (s₁.setTop (mkF m 20 #[.val (.int k), .val (.int c0), .val (.int c1), .val (.int c2)] [])) tgt → Steps p.tables e below E0 tgt := fun tgt kont => go17 tgt (by
        show Steps p.tables e below (s₁.setTop (mkF m 17 #[.val (.int k), .val (.int c0), .val (.int c1), .val (.int c2)] [(.int (1 : Int32)), (.int k)])) tgt
        refine XS.icmpNo X0.here hx rfl (hb hby dMK_17) rfl (teq u1).2 ?_
        exact kont)
      obtain ⟨T19, h19, X19, e19, E19, A19, D19, -, st19⟩ := newO X0 hx hZ hown (hw _ (List.mem_of_getElem? (i := 4) rfl)) (hw _ (List.mem_of_getElem? (i := 5) rfl)) (hw _ (List.mem_of_getElem? (i := 6) rfl)) e0 (g := (mkF m 20 #[.val (.int k), .val (.int c0), .val (.int c1), .val (.int c2)] [])) rfl (hb hby dMK_20) (by decide) (by decide)
      obtain ⟨st, g19⟩ : ∃ z, z = h0.size := ⟨_, rfl⟩
      rw [← g19] at A19 D19 st19
      have ge_st : n0 ≤ st := Nat.le_trans Z0 (Nat.le_of_eq g19.symm)
      have hz_st : h0.size ≤ st := Nat.le_trans (Keep.refl h0 []).1 (Nat.le_of_eq g19.symm)
      have z20 : n0 ≤ h19.size := Nat.le_trans Z0 E19.1
      have K21 : Keep h0 h19 [] := (Keep.refl h0 []).ext E19
      have Fcoder_st : Fld Z h19 st "java/lang/String" "coder" "B" (.int (0 : Int32)) := D19 (Or.inr (hw _ (List.mem_of_getElem? (i := 31) rfl))) (ty := .byte) (by decide)
      have Fvalue_st : Fld Z h19 st "java/lang/String" "value" "[B" .null := D19 (Or.inr (hw _ (List.mem_of_getElem? (i := 33) rfl))) (ty := (.array .byte)) (by decide)
      have go19 : ∀ tgt, Steps p.tables e below (T19.setTop (mkF m 23 #[.val (.int k), .val (.int c0), .val (.int c1), .val (.int c2)] [(.ref st)])) tgt → Steps p.tables e below E0 tgt := fun tgt kont => go18 tgt (st19 tgt kont)
      have go22 : ∀ tgt, Steps p.tables e below (T19.setTop (mkF m 25 #[.val (.int k), .val (.int c0), .val (.int c1), .val (.int c2)] [(.int (1 : Int32)), (.ref st), (.ref st)])) tgt → Steps p.tables e below E0 tgt := fun tgt kont => go19 tgt (by
        show Steps p.tables e below (T19.setTop (mkF m 23 #[.val (.int k), .val (.int c0), .val (.int c1), .val (.int c2)] [(.ref st)])) tgt
        refine XS.dup X19.here hx rfl (hb hby dMK_23) rfl rfl ?_
        show Steps p.tables e below (T19.setTop (mkF m 24 #[.val (.int k), .val (.int c0), .val (.int c1), .val (.int c2)] [(.ref st), (.ref st)])) tgt
        refine XS.iconst X19.here hx rfl (hb hby dMK_24) ?_
        exact kont)
      obtain ⟨T23, h23, k23, X23, e23, E23, A23, st23⟩ := newP X19 hx hZ (hw _ (List.mem_of_getElem? (i := 7) rfl)) e19 (g := (mkF m 25 #[.val (.int k), .val (.int c0), .val (.int c1), .val (.int c2)] [(.int (1 : Int32)), (.ref st), (.ref st)])) rfl (hb hby dMK_25) rfl (by decide) (cap := 1) (by decide) (by decide) (by decide) (by decide)
      obtain ⟨ca, g23⟩ : ∃ z, z = h19.size := ⟨_, rfl⟩
      rw [← g23] at A23 st23
      have ne_st_ca : st ≠ ca := Nat.ne_of_lt (Nat.lt_of_lt_of_le A19.lt (Nat.le_of_eq g23.symm))
      have ge_ca : n0 ≤ ca := Nat.le_trans z20 (Nat.le_of_eq g23.symm)
      have hz_ca : h0.size ≤ ca := Nat.le_trans K21.1 (Nat.le_of_eq g23.symm)
      have z24 : n0 ≤ h23.size := Nat.le_trans z20 E23.1
      have K25 : Keep h0 h23 [] := K21.ext E23
      have V23 : Arv Z h23 ca k23 .char (1 : Int32) [] (.int (0 : Int32)) := Arv.new A23 (by decide)
      have go23 : ∀ tgt, Steps p.tables e below (T23.setTop (mkF m 27 #[.val (.int k), .val (.int c0), .val (.int c1), .val (.int c2)] [(.ref ca), (.ref st), (.ref st)])) tgt → Steps p.tables e below E0 tgt := fun tgt kont => go22 tgt (st23 tgt kont)
      have go26 : ∀ tgt, Steps p.tables e below (T23.setTop (mkF m 30 #[.val (.int k), .val (.int c0), .val (.int c1), .val (.int c2)] [(.int c0), (.int (0 : Int32)), (.ref ca), (.ref ca), (.ref st), (.ref st)])) tgt → Steps p.tables e below E0 tgt := fun tgt kont => go23 tgt (by
        show Steps p.tables e below (T23.setTop (mkF m 27 #[.val (.int k), .val (.int c0), .val (.int c1), .val (.int c2)] [(.ref ca), (.ref st), (.ref st)])) tgt
        refine XS.dup X23.here hx rfl (hb hby dMK_27) rfl rfl ?_
        show Steps p.tables e below (T23.setTop (mkF m 28 #[.val (.int k), .val (.int c0), .val (.int c1), .val (.int c2)] [(.ref ca), (.ref ca), (.ref st), (.ref st)])) tgt
        refine XS.iconst X23.here hx rfl (hb hby dMK_28) ?_
        show Steps p.tables e below (T23.setTop (mkF m 29 #[.val (.int k), .val (.int c0), .val (.int c1), .val (.int c2)] [(.int (0 : Int32)), (.ref ca), (.ref ca), (.ref st), (.ref st)])) tgt
        refine XS.iloadN X23.here hx rfl (hb hby dMK_29) rfl ?_
        exact kont)
      have p27 : Arv Z h23 ca k23 .char (1 : Int32) [(.int (0 : Int32))] (.int (0 : Int32)) := V23.pad (pad_rep [] (.int (0 : Int32)) 1)
      obtain ⟨c28, Ar28, q28, S28, M28, Hh28, G28⟩ := id p27
      obtain ⟨T28, h28, X28, e28, W28, st28⟩ := stC X23 hx hZ e23 Ar28 (j := (0 : Int32)) (inb_of S28 ⟨by decide, by decide⟩) (g := (mkF m 30 #[.val (.int k), .val (.int c0), .val (.int c1), .val (.int c2)] [(.int c0), (.int (0 : Int32)), (.ref ca), (.ref ca), (.ref st), (.ref st)])) rfl rfl (hb hby dMK_30)
      have z29 : n0 ≤ h28.size := Nat.le_trans z24 (Keep.of_wr W28).1
      have K30 : Keep h0 h28 [] := K25.wr W28 (Or.inr hz_ca)
      have N28 := Fr.snoc X28 N0 ge_ca
      have f31 : Arv Z h28 ca k23 .char (1 : Int32) [(.int (nar .char c0))] (.int (0 : Int32)) := Arv.set Ar28 q28 S28 M28 Hh28 G28 (fits_nar_char _) W28 0 rfl (Nat.le_of_ble_eq_true rfl)
      have go28 : ∀ tgt, Steps p.tables e below (T28.setTop (mkF m 31 #[.val (.int k), .val (.int c0), .val (.int c1), .val (.int c2)] [(.ref ca), (.ref st), (.ref st)])) tgt → Steps p.tables e below E0 tgt := fun tgt kont => go26 tgt (st28 tgt kont)
      have Ax : Arv Z h28 ca k23 .char (1 : Int32) [(.int c0)] (.int (0 : Int32)) := by
        have q := f31
        rw [q0.1] at q
        exact q
      have hcs : (own_cs k c0 c1 c2) = [c0] := by rw [own_cs, if_neg u0, if_pos u1]
      have hp : ∀ c ∈ ([c0] : List Int32), ¬ c < 0 ∧ ¬ (255 : Int32) < c := by rw [← hcs]; exact own_cs_mem q0 q1 q2
      have f32 : Old Z n0 h28 := (((O0.ext E19).ext E23).wr W28 ge_ca)
      have f33 : Exa Z h28 st "java/lang/String" := ((A19.ext E23).wr W28)
      have f34 : Fld Z h28 st "java/lang/String" "value" "[B" .null := ((Fvalue_st.ext E23).other W28 (Or.inl ne_st_ca))
      have f35 : Fld Z h28 st "java/lang/String" "coder" "B" (.int (0 : Int32)) := ((Fcoder_st.ext E23).other W28 (Or.inl ne_st_ca))
      obtain ⟨_, _, ⟨T36, L36, k36, n36⟩, -, X36, ⟨Lc36, hQ36, l36, y36, z36⟩, st36⟩ := X28.specialBack hx (y := (⟨"java/lang/String", "<init>", "([C)V"⟩ : MethodName)) rfl hown (mvT hZ (hw _ (List.mem_of_getElem? (i := 8) rfl))) (mvT hZ (hw _ (List.mem_of_getElem? (i := 9) rfl))) (mvT hZ (hw _ (List.mem_of_getElem? (i := 10) rfl))) (by decide) (StrChars.Road.backV (W := 1) hZ hws (kI := 4) (hw _ (List.mem_of_getElem? (i := 5) rfl)) (cs := ([c0] : List Int32)) (bs := ([c0] : List Int32).map (fun c => c.toInt8.toInt32)) (n := 1) ge_st z29 f33 f34 f35 Ax (SC.ext f32.2) hG rfl rfl (by decide) (by decide) hp rfl (by decide) (by decide)) (g := (mkF m 31 #[.val (.int k), .val (.int c0), .val (.int c1), .val (.int c2)] [(.ref ca), (.ref st), (.ref st)])) rfl (by rw [hml]; rfl) (Steps.refl _) (a := st) (argsL := [(.ref ca)]) (rest := [(.ref st)]) (lenOf pd_3 rfl) rfl (by show 2 * 0 + _ ≤ _; exact Nat.le_of_eq rfl) (hb hby dMK_31) (fun _ _ => ⟨rfl, e28, (by decide : 2 + 1 ≤ _), (by decide : 5 + 1 ≤ _)⟩)
      dsimp only [Pt.U, Pt.locs, Pt.cells, Pt.slots] at X36 l36 y36 z36 st36 hQ36
      subst l36 y36 z36
      obtain ⟨rfl, N36q, KS, ES, FcS, tS, kbS, gtS, ztS, ntS, FvS, AvS⟩ := hQ36
      have N36 := Fr.app N28 N36q
      have z37 : n0 ≤ T36.heap.size := Nat.le_trans z29 KS.1
      have K38 : Keep h0 T36.heap [] := K30.trans KS (allS (Or.inr hz_st) all0)
      have go36 : ∀ tgt, Steps p.tables e below (T36.setTop (mkF m 34 #[.val (.int k), .val (.int c0), .val (.int c1), .val (.int c2)] [(.ref st)])) tgt → Steps p.tables e below E0 tgt := fun tgt kont => go28 tgt (st36.trans kont)
      have lt_st_tS : st < tS := Nat.lt_of_lt_of_le (Nat.lt_of_lt_of_le A19.lt (Nat.le_trans E23.1 (Keep.of_wr W28).1)) ztS
      have ne_ca_tS : ca ≠ tS := Nat.ne_of_lt (Nat.lt_of_lt_of_le (Nat.lt_of_lt_of_le V23.lt (Keep.of_wr W28).1) ztS)
      subst g19
      obtain ⟨fs, hr, hrun, hended, hW⟩ := X36.leaveW hS0 (Nat.le_trans hk0 (Nat.le_trans (Nat.le_trans (Nat.le_trans E19.1 E23.1) (Keep.of_wr W28).1) KS.1)) (v := some (.ref h0.size)) (fun h => by rw [Bd.returns] at h; cases h)
      refine ⟨_, _, go36 _ ?_, hrun, hended, _, _, rfl, ?_, hW.1, hW.2.1, hW.2.2.1, hW.2.2.2.mono (by decide) (by decide)⟩
      · show Steps p.tables e below (T36.setTop (mkF m 34 #[.val (.int k), .val (.int c0), .val (.int c1), .val (.int c2)] [(.ref h0.size)])) _
        exact retOut X36 hx Bd.returns rfl (Or.inr (Or.inr (Or.inr (Or.inr ⟨rfl, rfl, rfl⟩)))) (hb hby dMK_34) hr
      · show QMK Z k c0 c1 c2 G h0 n0 _ T36.heap _ T36.vm
        exact ⟨rfl, N36, K38, ES, FcS, tS, kbS, AvS.lt, FvS, by rw [hcs]; exact AvS, own_Jwarm (own_Jkeep hJ0 K38) X36.warmed⟩
    · have go39 : ∀ tgt, Steps p.tables e below (s₁.setTop (mkF m 37 #[.val (.int k), .val (.int c0), .val (.int c1), .val (.int c2)] [(.int (2 : Int32)), (.int k)])) tgt → Steps p.tables e below E0 tgt := fun tgt kont => go17 tgt (by
        show Steps p.tables e below (s₁.setTop (mkF m 17 #[.val (.int k), .val (.int c0), .val (.int c1), .val (.int c2)] [(.int (1 : Int32)), (.int k)])) tgt
        refine XS.icmpYes X0.here hx rfl (pc0 := 17) (pc' := 35) rfl (hb hby dMK_17) rfl (feq u1).2 (by decide) (by decide) ?_
        show Steps p.tables e below (s₁.setTop (mkF m 35 #[.val (.int k), .val (.int c0), .val (.int c1), .val (.int c2)] [])) tgt
        refine XS.iloadN X0.here hx rfl (hb hby dMK_35) rfl ?_
        show Steps p.tables e below (s₁.setTop (mkF m 36 #[.val (.int k), .val (.int c0), .val (.int c1), .val (.int c2)] [(.int k)])) tgt
        refine XS.iconst X0.here hx rfl (hb hby dMK_36) ?_
        exact kont)
      by_cases u2 : k = (2 : Int32)
      · have go40 : ∀ tgt, Steps p.tables e below (s₁.setTop (mkF m 40 #[.val (.int k), .val (.int c0), .val (.int c1), .val (.int c2)] [])) tgt → Steps p.tables e below E0 tgt := fun tgt kont => go39 tgt (by
          show Steps p.tables e below (s₁.setTop (mkF m 37 #[.val (.int k), .val (.int c0), .val (.int c1), .val (.int c2)] [(.int (2 : Int32)), (.int k)])) tgt
          refine XS.icmpNo X0.here hx rfl (hb hby dMK_37) rfl (teq u2).2 ?_
          exact kont)
        obtain ⟨T41, h41, X41, e41, E41, A41, D41, -, st41⟩ := newO X0 hx hZ hown (hw _ (List.mem_of_getElem? (i := 4) rfl)) (hw _ (List.mem_of_getElem? (i := 5) rfl)) (hw _ (List.mem_of_getElem? (i := 6) rfl)) e0 (g := (mkF m 40 #[.val (.int k), .val (.int c0), .val (.int c1), .val (.int c2)] [])) rfl (hb hby dMK_40) (by decide) (by decide)
        obtain ⟨st, g41⟩ : ∃ z, z = h0.size := ⟨_, rfl⟩
        rw [← g41] at A41 D41 st41
        have ge_st : n0 ≤ st := Nat.le_trans Z0 (Nat.le_of_eq g41.symm)
        have hz_st : h0.size ≤ st := Nat.le_trans (Keep.refl h0 []).1 (Nat.le_of_eq g41.symm)
        have z42 : n0 ≤ h41.size := Nat.le_trans Z0 E41.1
        have K43 : Keep h0 h41 [] := (Keep.refl h0 []).ext E41
        have Fcoder_st : Fld Z h41 st "java/lang/String" "coder" "B" (.int (0 : Int32)) := D41 (Or.inr (hw _ (List.mem_of_getElem? (i := 31) rfl))) (ty := .byte) (by decide)
        have Fvalue_st : Fld Z h41 st "java/lang/String" "value" "[B" .null := D41 (Or.inr (hw _ (List.mem_of_getElem? (i := 33) rfl))) (ty := (.array .byte)) (by decide)
        have go41 : ∀ tgt, Steps p.tables e below (T41.setTop (mkF m 43 #[.val (.int k), .val (.int c0), .val (.int c1), .val (.int c2)] [(.ref st)])) tgt → Steps p.tables e below E0 tgt := fun tgt kont => go40 tgt (st41 tgt kont)
        have go44 : ∀ tgt, Steps p.tables e below (T41.setTop (mkF m 45 #[.val (.int k), .val (.int c0), .val (.int c1), .val (.int c2)] [(.int (2 : Int32)), (.ref st), (.ref st)])) tgt → Steps p.tables e below E0 tgt := fun tgt kont => go41 tgt (by
          show Steps p.tables e below (T41.setTop (mkF m 43 #[.val (.int k), .val (.int c0), .val (.int c1), .val (.int c2)] [(.ref st)])) tgt
          refine XS.dup X41.here hx rfl (hb hby dMK_43) rfl rfl ?_
          show Steps p.tables e below (T41.setTop (mkF m 44 #[.val (.int k), .val (.int c0), .val (.int c1), .val (.int c2)] [(.ref st), (.ref st)])) tgt
          refine XS.iconst X41.here hx rfl (hb hby dMK_44) ?_
          exact kont)
        obtain ⟨T45, h45, k45, X45, e45, E45, A45, st45⟩ := newP X41 hx hZ (hw _ (List.mem_of_getElem? (i := 7) rfl)) e41 (g := (mkF m 45 #[.val (.int k), .val (.int c0), .val (.int c1), .val (.int c2)] [(.int (2 : Int32)), (.ref st), (.ref st)])) rfl (hb hby dMK_45) rfl (by decide) (cap := 2) (by decide) (by decide) (by decide) (by decide)
        obtain ⟨ca, g45⟩ : ∃ z, z = h41.size := ⟨_, rfl⟩
        rw [← g45] at A45 st45
        have ne_st_ca : st ≠ ca := Nat.ne_of_lt (Nat.lt_of_lt_of_le A41.lt (Nat.le_of_eq g45.symm))
        have ge_ca : n0 ≤ ca := Nat.le_trans z42 (Nat.le_of_eq g45.symm)
        have hz_ca : h0.size ≤ ca := Nat.le_trans K43.1 (Nat.le_of_eq g45.symm)
        have z46 : n0 ≤ h45.size := Nat.le_trans z42 E45.1
        have K47 : Keep h0 h45 [] := K43.ext E45
        have V45 : Arv Z h45 ca k45 .char (2 : Int32) [] (.int (0 : Int32)) := Arv.new A45 (by decide)
        have go45 : ∀ tgt, Steps p.tables e below (T45.setTop (mkF m 47 #[.val (.int k), .val (.int c0), .val (.int c1), .val (.int c2)] [(.ref ca), (.ref st), (.ref st)])) tgt → Steps p.tables e below E0 tgt := fun tgt kont => go44 tgt (st45 tgt kont)
        have go48 : ∀ tgt, Steps p.tables e below (T45.setTop (mkF m 50 #[.val (.int k), .val (.int c0), .val (.int c1), .val (.int c2)] [(.int c0), (.int (0 : Int32)), (.ref ca), (.ref ca), (.ref st), (.ref st)])) tgt → Steps p.tables e below E0 tgt := fun tgt kont => go45 tgt (by
          show Steps p.tables e below (T45.setTop (mkF m 47 #[.val (.int k), .val (.int c0), .val (.int c1), .val (.int c2)] [(.ref ca), (.ref st), (.ref st)])) tgt
          refine XS.dup X45.here hx rfl (hb hby dMK_47) rfl rfl ?_
          show Steps p.tables e below (T45.setTop (mkF m 48 #[.val (.int k), .val (.int c0), .val (.int c1), .val (.int c2)] [(.ref ca), (.ref ca), (.ref st), (.ref st)])) tgt
          refine XS.iconst X45.here hx rfl (hb hby dMK_48) ?_
          show Steps p.tables e below (T45.setTop (mkF m 49 #[.val (.int k), .val (.int c0), .val (.int c1), .val (.int c2)] [(.int (0 : Int32)), (.ref ca), (.ref ca), (.ref st), (.ref st)])) tgt
          refine XS.iloadN X45.here hx rfl (hb hby dMK_49) rfl ?_
          exact kont)
        have p49 : Arv Z h45 ca k45 .char (2 : Int32) [(.int (0 : Int32))] (.int (0 : Int32)) := V45.pad (pad_rep [] (.int (0 : Int32)) 1)
        obtain ⟨c50, Ar50, q50, S50, M50, Hh50, G50⟩ := id p49
        obtain ⟨T50, h50, X50, e50, W50, st50⟩ := stC X45 hx hZ e45 Ar50 (j := (0 : Int32)) (inb_of S50 ⟨by decide, by decide⟩) (g := (mkF m 50 #[.val (.int k), .val (.int c0), .val (.int c1), .val (.int c2)] [(.int c0), (.int (0 : Int32)), (.ref ca), (.ref ca), (.ref st), (.ref st)])) rfl rfl (hb hby dMK_50)
        have z51 : n0 ≤ h50.size := Nat.le_trans z46 (Keep.of_wr W50).1
        have K52 : Keep h0 h50 [] := K47.wr W50 (Or.inr hz_ca)
        have N50 := Fr.snoc X50 N0 ge_ca
        have f53 : Arv Z h50 ca k45 .char (2 : Int32) [(.int (nar .char c0))] (.int (0 : Int32)) := Arv.set Ar50 q50 S50 M50 Hh50 G50 (fits_nar_char _) W50 0 rfl (Nat.le_of_ble_eq_true rfl)
        have go50 : ∀ tgt, Steps p.tables e below (T50.setTop (mkF m 51 #[.val (.int k), .val (.int c0), .val (.int c1), .val (.int c2)] [(.ref ca), (.ref st), (.ref st)])) tgt → Steps p.tables e below E0 tgt := fun tgt kont => go48 tgt (st50 tgt kont)
        have go54 : ∀ tgt, Steps p.tables e below (T50.setTop (mkF m 54 #[.val (.int k), .val (.int c0), .val (.int c1), .val (.int c2)] [(.int c1), (.int (1 : Int32)), (.ref ca), (.ref ca), (.ref st), (.ref st)])) tgt → Steps p.tables e below E0 tgt := fun tgt kont => go50 tgt (by
          show Steps p.tables e below (T50.setTop (mkF m 51 #[.val (.int k), .val (.int c0), .val (.int c1), .val (.int c2)] [(.ref ca), (.ref st), (.ref st)])) tgt
          refine XS.dup X50.here hx rfl (hb hby dMK_51) rfl rfl ?_
          show Steps p.tables e below (T50.setTop (mkF m 52 #[.val (.int k), .val (.int c0), .val (.int c1), .val (.int c2)] [(.ref ca), (.ref ca), (.ref st), (.ref st)])) tgt
          refine XS.iconst X50.here hx rfl (hb hby dMK_52) ?_
          show Steps p.tables e below (T50.setTop (mkF m 53 #[.val (.int k), .val (.int c0), .val (.int c1), .val (.int c2)] [(.int (1 : Int32)), (.ref ca), (.ref ca), (.ref st), (.ref st)])) tgt
          refine XS.iloadN X50.here hx rfl (hb hby dMK_53) rfl ?_
          exact kont)
        have p55 : Arv Z h50 ca k45 .char (2 : Int32) [(.int (nar .char c0)), (.int (0 : Int32))] (.int (0 : Int32)) := f53.pad (pad_rep [(.int (nar .char c0))] (.int (0 : Int32)) 1)
        obtain ⟨c56, Ar56, q56, S56, M56, Hh56, G56⟩ := id p55
        obtain ⟨T56, h56, X56, e56, W56, st56⟩ := stC X50 hx hZ e50 Ar56 (j := (1 : Int32)) (inb_of S56 ⟨by decide, by decide⟩) (g := (mkF m 54 #[.val (.int k), .val (.int c0), .val (.int c1), .val (.int c2)] [(.int c1), (.int (1 : Int32)), (.ref ca), (.ref ca), (.ref st), (.ref st)])) rfl rfl (hb hby dMK_54)
        have z57 : n0 ≤ h56.size := Nat.le_trans z51 (Keep.of_wr W56).1
        have K58 : Keep h0 h56 [] := K52.wr W56 (Or.inr hz_ca)
        have N56 := Fr.snoc X56 N50 ge_ca
        have f59 : Arv Z h56 ca k45 .char (2 : Int32) [(.int (nar .char c0)), (.int (nar .char c1))] (.int (0 : Int32)) := Arv.set Ar56 q56 S56 M56 Hh56 G56 (fits_nar_char _) W56 1 rfl (Nat.le_of_ble_eq_true rfl)
        have go56 : ∀ tgt, Steps p.tables e below (T56.setTop (mkF m 55 #[.val (.int k), .val (.int c0), .val (.int c1), .val (.int c2)] [(.ref ca), (.ref st), (.ref st)])) tgt → Steps p.tables e below E0 tgt := fun tgt kont => go54 tgt (st56 tgt kont)
        have Ax : Arv Z h56 ca k45 .char (2 : Int32) [(.int c0), (.int c1)] (.int (0 : Int32)) := by
          have q := f59
          rw [q0.1, q1.1] at q
          exact q
        have hcs : (own_cs k c0 c1 c2) = [c0, c1] := by rw [own_cs, if_neg u0, if_neg u1, if_pos u2]
        have hp : ∀ c ∈ ([c0, c1] : List Int32), ¬ c < 0 ∧ ¬ (255 : Int32) < c := by rw [← hcs]; exact own_cs_mem q0 q1 q2
        have f60 : Old Z n0 h56 := ((((O0.ext E41).ext E45).wr W50 ge_ca).wr W56 ge_ca)
        have f61 : Exa Z h56 st "java/lang/String" := (((A41.ext E45).wr W50).wr W56)
        have f62 : Fld Z h56 st "java/lang/String" "value" "[B" .null := (((Fvalue_st.ext E45).other W50 (Or.inl ne_st_ca)).other W56 (Or.inl ne_st_ca))
        have f63 : Fld Z h56 st "java/lang/String" "coder" "B" (.int (0 : Int32)) := (((Fcoder_st.ext E45).other W50 (Or.inl ne_st_ca)).other W56 (Or.inl ne_st_ca))
        obtain ⟨_, _, ⟨T64, L64, k64, n64⟩, -, X64, ⟨Lc64, hQ64, l64, y64, z64⟩, st64⟩ := X56.specialBack hx (y := (⟨"java/lang/String", "<init>", "([C)V"⟩ : MethodName)) rfl hown (mvT hZ (hw _ (List.mem_of_getElem? (i := 8) rfl))) (mvT hZ (hw _ (List.mem_of_getElem? (i := 9) rfl))) (mvT hZ (hw _ (List.mem_of_getElem? (i := 10) rfl))) (by decide) (StrChars.Road.backV (W := 1) hZ hws (kI := 4) (hw _ (List.mem_of_getElem? (i := 5) rfl)) (cs := ([c0, c1] : List Int32)) (bs := ([c0, c1] : List Int32).map (fun c => c.toInt8.toInt32)) (n := 2) ge_st z57 f61 f62 f63 Ax (SC.ext f60.2) hG rfl rfl (by decide) (by decide) hp rfl (by decide) (by decide)) (g := (mkF m 55 #[.val (.int k), .val (.int c0), .val (.int c1), .val (.int c2)] [(.ref ca), (.ref st), (.ref st)])) rfl (by rw [hml]; rfl) (Steps.refl _) (a := st) (argsL := [(.ref ca)]) (rest := [(.ref st)]) (lenOf pd_3 rfl) rfl (by show 2 * 0 + _ ≤ _; exact Nat.le_of_eq rfl) (hb hby dMK_55) (fun _ _ => ⟨rfl, e56, (by decide : 2 + 1 ≤ _), (by decide : 6 + 2 ≤ _)⟩)
        dsimp only [Pt.U, Pt.locs, Pt.cells, Pt.slots] at X64 l64 y64 z64 st64 hQ64
        subst l64 y64 z64
        obtain ⟨rfl, N64q, KS, ES, FcS, tS, kbS, gtS, ztS, ntS, FvS, AvS⟩ := hQ64
        have N64 := Fr.app N56 N64q
        have z65 : n0 ≤ T64.heap.size := Nat.le_trans z57 KS.1
        have K66 : Keep h0 T64.heap [] := K58.trans KS (allS (Or.inr hz_st) all0)
        have go64 : ∀ tgt, Steps p.tables e below (T64.setTop (mkF m 58 #[.val (.int k), .val (.int c0), .val (.int c1), .val (.int c2)] [(.ref st)])) tgt → Steps p.tables e below E0 tgt := fun tgt kont => go56 tgt (st64.trans kont)
        have lt_st_tS : st < tS := Nat.lt_of_lt_of_le (Nat.lt_of_lt_of_le A41.lt (Nat.le_trans (Nat.le_trans E45.1 (Keep.of_wr W50).1) (Keep.of_wr W56).1)) ztS
        have ne_ca_tS : ca ≠ tS := Nat.ne_of_lt (Nat.lt_of_lt_of_le (Nat.lt_of_lt_of_le V45.lt (Nat.le_trans (Keep.of_wr W50).1 (Keep.of_wr W56).1)) ztS)
        subst g41
        obtain ⟨fs, hr, hrun, hended, hW⟩ := X64.leaveW hS0 (Nat.le_trans hk0 (Nat.le_trans (Nat.le_trans (Nat.le_trans (Nat.le_trans E41.1 E45.1) (Keep.of_wr W50).1) (Keep.of_wr W56).1) KS.1)) (v := some (.ref h0.size)) (fun h => by rw [Bd.returns] at h; cases h)
        refine ⟨_, _, go64 _ ?_, hrun, hended, _, _, rfl, ?_, hW.1, hW.2.1, hW.2.2.1, hW.2.2.2.mono (by decide) (by decide)⟩
        · show Steps p.tables e below (T64.setTop (mkF m 58 #[.val (.int k), .val (.int c0), .val (.int c1), .val (.int c2)] [(.ref h0.size)])) _
          exact retOut X64 hx Bd.returns rfl (Or.inr (Or.inr (Or.inr (Or.inr ⟨rfl, rfl, rfl⟩)))) (hb hby dMK_58) hr
        · show QMK Z k c0 c1 c2 G h0 n0 _ T64.heap _ T64.vm
          exact ⟨rfl, N64, K66, ES, FcS, tS, kbS, AvS.lt, FvS, by rw [hcs]; exact AvS, own_Jwarm (own_Jkeep hJ0 K66) X64.warmed⟩
      · have go67 : ∀ tgt, Steps p.tables e below (s₁.setTop (mkF m 59 #[.val (.int k), .val (.int c0), .val (.int c1), .val (.int c2)] [])) tgt → Steps p.tables e below E0 tgt := fun tgt kont => go39 tgt (by
          show Steps p.tables e below (s₁.setTop (mkF m 37 #[.val (.int k), .val (.int c0), .val (.int c1), .val (.int c2)] [(.int (2 : Int32)), (.int k)])) tgt
          refine XS.icmpYes X0.here hx rfl (pc0 := 37) (pc' := 59) rfl (hb hby dMK_37) rfl (feq u2).2 (by decide) (by decide) ?_
          exact kont)
        obtain ⟨T68, h68, X68, e68, E68, A68, D68, -, st68⟩ := newO X0 hx hZ hown (hw _ (List.mem_of_getElem? (i := 4) rfl)) (hw _ (List.mem_of_getElem? (i := 5) rfl)) (hw _ (List.mem_of_getElem? (i := 6) rfl)) e0 (g := (mkF m 59 #[.val (.int k), .val (.int c0), .val (.int c1), .val (.int c2)] [])) rfl (hb hby dMK_59) (by decide) (by decide)
        obtain ⟨st, g68⟩ : ∃ z, z = h0.size := ⟨_, rfl⟩
        rw [← g68] at A68 D68 st68
        have ge_st : n0 ≤ st := Nat.le_trans Z0 (Nat.le_of_eq g68.symm)
        have hz_st : h0.size ≤ st := Nat.le_trans (Keep.refl h0 []).1 (Nat.le_of_eq g68.symm)
        have z69 : n0 ≤ h68.size := Nat.le_trans Z0 E68.1
        have K70 : Keep h0 h68 [] := (Keep.refl h0 []).ext E68
        have Fcoder_st : Fld Z h68 st "java/lang/String" "coder" "B" (.int (0 : Int32)) := D68 (Or.inr (hw _ (List.mem_of_getElem? (i := 31) rfl))) (ty := .byte) (by decide)
        have Fvalue_st : Fld Z h68 st "java/lang/String" "value" "[B" .null := D68 (Or.inr (hw _ (List.mem_of_getElem? (i := 33) rfl))) (ty := (.array .byte)) (by decide)
        have go68 : ∀ tgt, Steps p.tables e below (T68.setTop (mkF m 62 #[.val (.int k), .val (.int c0), .val (.int c1), .val (.int c2)] [(.ref st)])) tgt → Steps p.tables e below E0 tgt := fun tgt kont => go67 tgt (st68 tgt kont)
        have go71 : ∀ tgt, Steps p.tables e below (T68.setTop (mkF m 64 #[.val (.int k), .val (.int c0), .val (.int c1), .val (.int c2)] [(.int (3 : Int32)), (.ref st), (.ref st)])) tgt → Steps p.tables e below E0 tgt := fun tgt kont => go68 tgt (by
          show Steps p.tables e below (T68.setTop (mkF m 62 #[.val (.int k), .val (.int c0), .val (.int c1), .val (.int c2)] [(.ref st)])) tgt
          refine XS.dup X68.here hx rfl (hb hby dMK_62) rfl rfl ?_
          show Steps p.tables e below (T68.setTop (mkF m 63 #[.val (.int k), .val (.int c0), .val (.int c1), .val (.int c2)] [(.ref st), (.ref st)])) tgt
          refine XS.iconst X68.here hx rfl (hb hby dMK_63) ?_
          exact kont)
        obtain ⟨T72, h72, k72, X72, e72, E72, A72, st72⟩ := newP X68 hx hZ (hw _ (List.mem_of_getElem? (i := 7) rfl)) e68 (g := (mkF m 64 #[.val (.int k), .val (.int c0), .val (.int c1), .val (.int c2)] [(.int (3 : Int32)), (.ref st), (.ref st)])) rfl (hb hby dMK_64) rfl (by decide) (cap := 3) (by decide) (by decide) (by decide) (by decide)
        obtain ⟨ca, g72⟩ : ∃ z, z = h68.size := ⟨_, rfl⟩
        rw [← g72] at A72 st72
        have ne_st_ca : st ≠ ca := Nat.ne_of_lt (Nat.lt_of_lt_of_le A68.lt (Nat.le_of_eq g72.symm))
        have ge_ca : n0 ≤ ca := Nat.le_trans z69 (Nat.le_of_eq g72.symm)
        have hz_ca : h0.size ≤ ca := Nat.le_trans K70.1 (Nat.le_of_eq g72.symm)
        have z73 : n0 ≤ h72.size := Nat.le_trans z69 E72.1
        have K74 : Keep h0 h72 [] := K70.ext E72
        have V72 : Arv Z h72 ca k72 .char (3 : Int32) [] (.int (0 : Int32)) := Arv.new A72 (by decide)
        have go72 : ∀ tgt, Steps p.tables e below (T72.setTop (mkF m 66 #[.val (.int k), .val (.int c0), .val (.int c1), .val (.int c2)] [(.ref ca), (.ref st), (.ref st)])) tgt → Steps p.tables e below E0 tgt := fun tgt kont => go71 tgt (st72 tgt kont)
        have go75 : ∀ tgt, Steps p.tables e below (T72.setTop (mkF m 69 #[.val (.int k), .val (.int c0), .val (.int c1), .val (.int c2)] [(.int c0), (.int (0 : Int32)), (.ref ca), (.ref ca), (.ref st), (.ref st)])) tgt → Steps p.tables e below E0 tgt := fun tgt kont => go72 tgt (by
          show Steps p.tables e below (T72.setTop (mkF m 66 #[.val (.int k), .val (.int c0), .val (.int c1), .val (.int c2)] [(.ref ca), (.ref st), (.ref st)])) tgt
          refine XS.dup X72.here hx rfl (hb hby dMK_66) rfl rfl ?_
          show Steps p.tables e below (T72.setTop (mkF m 67 #[.val (.int k), .val (.int c0), .val (.int c1), .val (.int c2)] [(.ref ca), (.ref ca), (.ref st), (.ref st)])) tgt
          refine XS.iconst X72.here hx rfl (hb hby dMK_67) ?_
          show Steps p.tables e below (T72.setTop (mkF m 68 #[.val (.int k), .val (.int c0), .val (.int c1), .val (.int c2)] [(.int (0 : Int32)), (.ref ca), (.ref ca), (.ref st), (.ref st)])) tgt
          refine XS.iloadN X72.here hx rfl (hb hby dMK_68) rfl ?_
          exact kont)
        have p76 : Arv Z h72 ca k72 .char (3 : Int32) [(.int (0 : Int32))] (.int (0 : Int32)) := V72.pad (pad_rep [] (.int (0 : Int32)) 1)
        obtain ⟨c77, Ar77, q77, S77, M77, Hh77, G77⟩ := id p76
        obtain ⟨T77, h77, X77, e77, W77, st77⟩ := stC X72 hx hZ e72 Ar77 (j := (0 : Int32)) (inb_of S77 ⟨by decide, by decide⟩) (g := (mkF m 69 #[.val (.int k), .val (.int c0), .val (.int c1), .val (.int c2)] [(.int c0), (.int (0 : Int32)), (.ref ca), (.ref ca), (.ref st), (.ref st)])) rfl rfl (hb hby dMK_69)
        have z78 : n0 ≤ h77.size := Nat.le_trans z73 (Keep.of_wr W77).1
        have K79 : Keep h0 h77 [] := K74.wr W77 (Or.inr hz_ca)
        have N77 := Fr.snoc X77 N0 ge_ca
        have f80 : Arv Z h77 ca k72 .char (3 : Int32) [(.int (nar .char c0))] (.int (0 : Int32)) := Arv.set Ar77 q77 S77 M77 Hh77 G77 (fits_nar_char _) W77 0 rfl (Nat.le_of_ble_eq_true rfl)
        have go77 : ∀ tgt, Steps p.tables e below (T77.setTop (mkF m 70 #[.val (.int k), .val (.int c0), .val (.int c1), .val (.int c2)] [(.ref ca), (.ref st), (.ref st)])) tgt → Steps p.tables e below E0 tgt := fun tgt kont => go75 tgt (st77 tgt kont)
        have go81 : ∀ tgt, Steps p.tables e below (T77.setTop (mkF m 73 #[.val (.int k), .val (.int c0), .val (.int c1), .val (.int c2)] [(.int c1), (.int (1 : Int32)), (.ref ca), (.ref ca), (.ref st), (.ref st)])) tgt → Steps p.tables e below E0 tgt := fun tgt kont => go77 tgt (by
          show Steps p.tables e below (T77.setTop (mkF m 70 #[.val (.int k), .val (.int c0), .val (.int c1), .val (.int c2)] [(.ref ca), (.ref st), (.ref st)])) tgt
          refine XS.dup X77.here hx rfl (hb hby dMK_70) rfl rfl ?_
          show Steps p.tables e below (T77.setTop (mkF m 71 #[.val (.int k), .val (.int c0), .val (.int c1), .val (.int c2)] [(.ref ca), (.ref ca), (.ref st), (.ref st)])) tgt
          refine XS.iconst X77.here hx rfl (hb hby dMK_71) ?_
          show Steps p.tables e below (T77.setTop (mkF m 72 #[.val (.int k), .val (.int c0), .val (.int c1), .val (.int c2)] [(.int (1 : Int32)), (.ref ca), (.ref ca), (.ref st), (.ref st)])) tgt
          refine XS.iloadN X77.here hx rfl (hb hby dMK_72) rfl ?_
          exact kont)
        have p82 : Arv Z h77 ca k72 .char (3 : Int32) [(.int (nar .char c0)), (.int (0 : Int32))] (.int (0 : Int32)) := f80.pad (pad_rep [(.int (nar .char c0))] (.int (0 : Int32)) 1)
        obtain ⟨c83, Ar83, q83, S83, M83, Hh83, G83⟩ := id p82
        obtain ⟨T83, h83, X83, e83, W83, st83⟩ := stC X77 hx hZ e77 Ar83 (j := (1 : Int32)) (inb_of S83 ⟨by decide, by decide⟩) (g := (mkF m 73 #[.val (.int k), .val (.int c0), .val (.int c1), .val (.int c2)] [(.int c1), (.int (1 : Int32)), (.ref ca), (.ref ca), (.ref st), (.ref st)])) rfl rfl (hb hby dMK_73)
        have z84 : n0 ≤ h83.size := Nat.le_trans z78 (Keep.of_wr W83).1
        have K85 : Keep h0 h83 [] := K79.wr W83 (Or.inr hz_ca)
        have N83 := Fr.snoc X83 N77 ge_ca
        have f86 : Arv Z h83 ca k72 .char (3 : Int32) [(.int (nar .char c0)), (.int (nar .char c1))] (.int (0 : Int32)) := Arv.set Ar83 q83 S83 M83 Hh83 G83 (fits_nar_char _) W83 1 rfl (Nat.le_of_ble_eq_true rfl)
        have go83 : ∀ tgt, Steps p.tables e below (T83.setTop (mkF m 74 #[.val (.int k), .val (.int c0), .val (.int c1), .val (.int c2)] [(.ref ca), (.ref st), (.ref st)])) tgt → Steps p.tables e below E0 tgt := fun tgt kont => go81 tgt (st83 tgt kont)
        have go87 : ∀ tgt, Steps p.tables e below (T83.setTop (mkF m 77 #[.val (.int k), .val (.int c0), .val (.int c1), .val (.int c2)] [(.int c2), (.int (2 : Int32)), (.ref ca), (.ref ca), (.ref st), (.ref st)])) tgt → Steps p.tables e below E0 tgt := fun tgt kont => go83 tgt (by
          show Steps p.tables e below (T83.setTop (mkF m 74 #[.val (.int k), .val (.int c0), .val (.int c1), .val (.int c2)] [(.ref ca), (.ref st), (.ref st)])) tgt
          refine XS.dup X83.here hx rfl (hb hby dMK_74) rfl rfl ?_
          show Steps p.tables e below (T83.setTop (mkF m 75 #[.val (.int k), .val (.int c0), .val (.int c1), .val (.int c2)] [(.ref ca), (.ref ca), (.ref st), (.ref st)])) tgt
          refine XS.iconst X83.here hx rfl (hb hby dMK_75) ?_
          show Steps p.tables e below (T83.setTop (mkF m 76 #[.val (.int k), .val (.int c0), .val (.int c1), .val (.int c2)] [(.int (2 : Int32)), (.ref ca), (.ref ca), (.ref st), (.ref st)])) tgt
          refine XS.iloadN X83.here hx rfl (hb hby dMK_76) rfl ?_
          exact kont)
        have p88 : Arv Z h83 ca k72 .char (3 : Int32) [(.int (nar .char c0)), (.int (nar .char c1)), (.int (0 : Int32))] (.int (0 : Int32)) := f86.pad (pad_rep [(.int (nar .char c0)), (.int (nar .char c1))] (.int (0 : Int32)) 1)
        obtain ⟨c89, Ar89, q89, S89, M89, Hh89, G89⟩ := id p88
        obtain ⟨T89, h89, X89, e89, W89, st89⟩ := stC X83 hx hZ e83 Ar89 (j := (2 : Int32)) (inb_of S89 ⟨by decide, by decide⟩) (g := (mkF m 77 #[.val (.int k), .val (.int c0), .val (.int c1), .val (.int c2)] [(.int c2), (.int (2 : Int32)), (.ref ca), (.ref ca), (.ref st), (.ref st)])) rfl rfl (hb hby dMK_77)
        have z90 : n0 ≤ h89.size := Nat.le_trans z84 (Keep.of_wr W89).1
        have K91 : Keep h0 h89 [] := K85.wr W89 (Or.inr hz_ca)
        have N89 := Fr.snoc X89 N83 ge_ca
        have f92 : Arv Z h89 ca k72 .char (3 : Int32) [(.int (nar .char c0)), (.int (nar .char c1)), (.int (nar .char c2))] (.int (0 : Int32)) := Arv.set Ar89 q89 S89 M89 Hh89 G89 (fits_nar_char _) W89 2 rfl (Nat.le_of_ble_eq_true rfl)
        have go89 : ∀ tgt, Steps p.tables e below (T89.setTop (mkF m 78 #[.val (.int k), .val (.int c0), .val (.int c1), .val (.int c2)] [(.ref ca), (.ref st), (.ref st)])) tgt → Steps p.tables e below E0 tgt := fun tgt kont => go87 tgt (st89 tgt kont)
        have Ax : Arv Z h89 ca k72 .char (3 : Int32) [(.int c0), (.int c1), (.int c2)] (.int (0 : Int32)) := by
          have q := f92
          rw [q0.1, q1.1, q2.1] at q
          exact q
        have hcs : (own_cs k c0 c1 c2) = [c0, c1, c2] := by rw [own_cs, if_neg u0, if_neg u1, if_neg u2]
        have hp : ∀ c ∈ ([c0, c1, c2] : List Int32), ¬ c < 0 ∧ ¬ (255 : Int32) < c := by rw [← hcs]; exact own_cs_mem q0 q1 q2
        have f93 : Old Z n0 h89 := (((((O0.ext E68).ext E72).wr W77 ge_ca).wr W83 ge_ca).wr W89 ge_ca)
        have f94 : Exa Z h89 st "java/lang/String" := ((((A68.ext E72).wr W77).wr W83).wr W89)
        have f95 : Fld Z h89 st "java/lang/String" "value" "[B" .null := ((((Fvalue_st.ext E72).other W77 (Or.inl ne_st_ca)).other W83 (Or.inl ne_st_ca)).other W89 (Or.inl ne_st_ca))
        have f96 : Fld Z h89 st "java/lang/String" "coder" "B" (.int (0 : Int32)) := ((((Fcoder_st.ext E72).other W77 (Or.inl ne_st_ca)).other W83 (Or.inl ne_st_ca)).other W89 (Or.inl ne_st_ca))
        obtain ⟨_, _, ⟨T97, L97, k97, n97⟩, -, X97, ⟨Lc97, hQ97, l97, y97, z97⟩, st97⟩ := X89.specialBack hx (y := (⟨"java/lang/String", "<init>", "([C)V"⟩ : MethodName)) rfl hown (mvT hZ (hw _ (List.mem_of_getElem? (i := 8) rfl))) (mvT hZ (hw _ (List.mem_of_getElem? (i := 9) rfl))) (mvT hZ (hw _ (List.mem_of_getElem? (i := 10) rfl))) (by decide) (StrChars.Road.backV (W := 1) hZ hws (kI := 4) (hw _ (List.mem_of_getElem? (i := 5) rfl)) (cs := ([c0, c1, c2] : List Int32)) (bs := ([c0, c1, c2] : List Int32).map (fun c => c.toInt8.toInt32)) (n := 3) ge_st z90 f94 f95 f96 Ax (SC.ext f93.2) hG rfl rfl (by decide) (by decide) hp rfl (by decide) (by decide)) (g := (mkF m 78 #[.val (.int k), .val (.int c0), .val (.int c1), .val (.int c2)] [(.ref ca), (.ref st), (.ref st)])) rfl (by rw [hml]; rfl) (Steps.refl _) (a := st) (argsL := [(.ref ca)]) (rest := [(.ref st)]) (lenOf pd_3 rfl) rfl (by show 2 * 0 + _ ≤ _; exact Nat.le_of_eq rfl) (hb hby dMK_78) (fun _ _ => ⟨rfl, e89, (by decide : 2 + 1 ≤ _), (by decide : 7 + 3 ≤ _)⟩)
        dsimp only [Pt.U, Pt.locs, Pt.cells, Pt.slots] at X97 l97 y97 z97 st97 hQ97
        subst l97 y97 z97
        obtain ⟨rfl, N97q, KS, ES, FcS, tS, kbS, gtS, ztS, ntS, FvS, AvS⟩ := hQ97
        have N97 := Fr.app N89 N97q
        have z98 : n0 ≤ T97.heap.size := Nat.le_trans z90 KS.1
        have K99 : Keep h0 T97.heap [] := K91.trans KS (allS (Or.inr hz_st) all0)
        have go97 : ∀ tgt, Steps p.tables e below (T97.setTop (mkF m 81 #[.val (.int k), .val (.int c0), .val (.int c1), .val (.int c2)] [(.ref st)])) tgt → Steps p.tables e below E0 tgt := fun tgt kont => go89 tgt (st97.trans kont)
        have lt_st_tS : st < tS := Nat.lt_of_lt_of_le (Nat.lt_of_lt_of_le A68.lt (Nat.le_trans (Nat.le_trans (Nat.le_trans E72.1 (Keep.of_wr W77).1) (Keep.of_wr W83).1) (Keep.of_wr W89).1)) ztS
        have ne_ca_tS : ca ≠ tS := Nat.ne_of_lt (Nat.lt_of_lt_of_le (Nat.lt_of_lt_of_le V72.lt (Nat.le_trans (Nat.le_trans (Keep.of_wr W77).1 (Keep.of_wr W83).1) (Keep.of_wr W89).1)) ztS)
        subst g68
        obtain ⟨fs, hr, hrun, hended, hW⟩ := X97.leaveW hS0 (Nat.le_trans hk0 (Nat.le_trans (Nat.le_trans (Nat.le_trans (Nat.le_trans (Nat.le_trans E68.1 E72.1) (Keep.of_wr W77).1) (Keep.of_wr W83).1) (Keep.of_wr W89).1) KS.1)) (v := some (.ref h0.size)) (fun h => by rw [Bd.returns] at h; cases h)
        refine ⟨_, _, go97 _ ?_, hrun, hended, _, _, rfl, ?_, hW.1, hW.2.1, hW.2.2.1, hW.2.2.2.mono (by decide) (by decide)⟩
        · show Steps p.tables e below (T97.setTop (mkF m 81 #[.val (.int k), .val (.int c0), .val (.int c1), .val (.int c2)] [(.ref h0.size)])) _
          exact retOut X97 hx Bd.returns rfl (Or.inr (Or.inr (Or.inr (Or.inr ⟨rfl, rfl, rfl⟩)))) (hb hby dMK_81) hr
        · show QMK Z k c0 c1 c2 G h0 n0 _ T97.heap _ T97.vm
          exact ⟨rfl, N97, K99, ES, FcS, tS, kbS, AvS.lt, FvS, by rw [hcs]; exact AvS, own_Jwarm (own_Jkeep hJ0 K99) X97.warmed⟩
theorem pd_5 : parseMethodDescriptor "()V" = some ⟨[], none⟩ := by decide +kernel
theorem pn_6 : plainName "com/example/caskwright/caskwright/model/Entry" = true := by first | (simp [plainName, overriddenIn]; done) | decide +kernel
theorem dEI_0 : decode prog_52_method_1_code 0 = .ok (.aload_n 0, 1) := by decide +kernel
theorem dEI_1 : decode prog_52_method_1_code 1 = .ok (.invokespecial 1, 3) := by decide +kernel
theorem dEI_4 : decode prog_52_method_1_code 4 = .ok (.aload_n 2, 1) := by decide +kernel
theorem dEI_5 : decode prog_52_method_1_code 5 = .ok (.invokevirtual 7, 3) := by decide +kernel
theorem dEI_8 : decode prog_52_method_1_code 8 = .ok (.checkcast 8, 3) := by decide +kernel
theorem dEI_11 : decode prog_52_method_1_code 11 = .ok (.astore_n 2, 1) := by decide +kernel
theorem dEI_12 : decode prog_52_method_1_code 12 = .ok (.aload_n 0, 1) := by decide +kernel
theorem dEI_13 : decode prog_52_method_1_code 13 = .ok (.aload_n 1, 1) := by decide +kernel
theorem dEI_14 : decode prog_52_method_1_code 14 = .ok (.putfield 13, 3) := by decide +kernel
theorem dEI_17 : decode prog_52_method_1_code 17 = .ok (.aload_n 0, 1) := by decide +kernel
theorem dEI_18 : decode prog_52_method_1_code 18 = .ok (.aload_n 2, 1) := by decide +kernel
theorem dEI_19 : decode prog_52_method_1_code 19 = .ok (.putfield 19, 3) := by decide +kernel
theorem dEI_22 : decode prog_52_method_1_code 22 = .ok (.aload_n 0, 1) := by decide +kernel
theorem dEI_23 : decode prog_52_method_1_code 23 = .ok (.iload_n 3, 1) := by decide +kernel
theorem dEI_24 : decode prog_52_method_1_code 24 = .ok (.putfield 22, 3) := by decide +kernel
theorem dEI_27 : decode prog_52_method_1_code 27 = .ok (.aload_n 0, 1) := by decide +kernel
theorem dEI_28 : decode prog_52_method_1_code 28 = .ok (.lload 4, 2) := by decide +kernel
theorem dEI_30 : decode prog_52_method_1_code 30 = .ok (.putfield 26, 3) := by decide +kernel
theorem dEI_33 : decode prog_52_method_1_code 33 = .ok (.aload_n 0, 1) := by decide +kernel
theorem dEI_34 : decode prog_52_method_1_code 34 = .ok (.lload 6, 2) := by decide +kernel
theorem dEI_36 : decode prog_52_method_1_code 36 = .ok (.putfield 30, 3) := by decide +kernel
theorem dEI_39 : decode prog_52_method_1_code 39 = .ok (.aload_n 0, 1) := by decide +kernel
theorem dEI_40 : decode prog_52_method_1_code 40 = .ok (.lload 8, 2) := by decide +kernel
theorem dEI_42 : decode prog_52_method_1_code 42 = .ok (.putfield 33, 3) := by decide +kernel
theorem dEI_45 : decode prog_52_method_1_code 45 = .ok (.aload_n 0, 1) := by decide +kernel
theorem dEI_46 : decode prog_52_method_1_code 46 = .ok (.lload 10, 2) := by decide +kernel
theorem dEI_48 : decode prog_52_method_1_code 48 = .ok (.putfield 36, 3) := by decide +kernel
theorem dEI_51 : decode prog_52_method_1_code 51 = .ok (.aload_n 0, 1) := by decide +kernel
theorem dEI_52 : decode prog_52_method_1_code 52 = .ok (.lload 12, 2) := by decide +kernel
theorem dEI_54 : decode prog_52_method_1_code 54 = .ok (.putfield 39, 3) := by decide +kernel
theorem dEI_57 : decode prog_52_method_1_code 57 = .ok (.return_, 1) := by decide +kernel
theorem ef_EI (m : MethodId) (x0 : Addr) (x1 : Addr) (x2 : Addr) (x3 : Int32) (x4 : Int64) (x5 : Int64) (x6 : Int64) (x7 : Int64) (x8 : Int64) : entryFrame m #[(.ref x0), (.ref x1), (.ref x2), (.int x3), (.long x4), (.long x5), (.long x6), (.long x7), (.long x8)] 14 = mkF m 0 #[.val (.ref x0), .val (.ref x1), .val (.ref x2), .val (.int x3), .val (.long x4), .second, .val (.long x5), .second, .val (.long x6), .second, .val (.long x7), .second, .val (.long x8), .second] [] := by first | (simp [entryFrame, mkF, argsToLocals, Value.category, maxLocals]; done) | rfl
def QEI (Z : State) (a : Addr) (s1 : Addr) (ba : Addr) (kb : ClassId) (i : Int32) (j0 : Int64) (j1 : Int64) (j2 : Int64) (j3 : Int64) (j4 : Int64) (h0 : Heap) (n0 : Nat) (v : Option Value) (h : Heap) (L : List Loc) : Prop := v = none ∧ Fr n0 L ∧ Keep h0 h [a] ∧ Exa Z h a "com/example/caskwright/caskwright/model/Entry" ∧ Fld Z h a "com/example/caskwright/caskwright/model/Entry" "name" "Ljava/lang/String;" (.ref s1)
set_option maxRecDepth 65536 in
set_option maxHeartbeats 40000000 in
theorem rmEI (l : Launch) (Z : State) (a0 : Array Value) (hw : ∀ d ∈ tables_1, d.before a0 Z = true) (ws : List Jvm.Cond) (a : Addr) (s1 : Addr) (ba : Addr) (kb : ClassId) (i : Int32) (j0 : Int64) (j1 : Int64) (j2 : Int64) (j3 : Int64) (j4 : Int64) (h0 : Heap) (n0 : Nat) (Z0 : n0 ≤ h0.size) (Ea : Exa Z h0 a "com/example/caskwright/caskwright/model/Entry") (ga : n0 ≤ a) (Eb : Exa Z h0 ba "[B") (Ab : Arv Z h0 ba kb .byte (0 : Int32) [] (.int (0 : Int32))) (Fname : Fld Z h0 a "com/example/caskwright/caskwright/model/Entry" "name" "Ljava/lang/String;" .null) (FstoredName : Fld Z h0 a "com/example/caskwright/caskwright/model/Entry" "storedName" "[B" .null) (Fmethod : Fld Z h0 a "com/example/caskwright/caskwright/model/Entry" "method" "I" (.int (0 : Int32))) (Fcrc : Fld Z h0 a "com/example/caskwright/caskwright/model/Entry" "crc" "J" (.long (0 : Int64))) (FcompressedSize : Fld Z h0 a "com/example/caskwright/caskwright/model/Entry" "compressedSize" "J" (.long (0 : Int64))) (Fsize : Fld Z h0 a "com/example/caskwright/caskwright/model/Entry" "size" "J" (.long (0 : Int64))) (FlocalHeaderPosition : Fld Z h0 a "com/example/caskwright/caskwright/model/Entry" "localHeaderPosition" "J" (.long (0 : Int64))) (FexternalAttributes : Fld Z h0 a "com/example/caskwright/caskwright/model/Entry" "externalAttributes" "J" (.long (0 : Int64))) :
    MetFree l (⟨"com/example/caskwright/caskwright/model/Entry", "<init>", "(Ljava/lang/String;[BIJJJJJ)V"⟩ : MethodName) (head1 (Jvm.Cond.code (⟨"com/example/caskwright/caskwright/model/Entry", "<init>", "(Ljava/lang/String;[BIJJJJJ)V"⟩ : MethodName) prog_52_method_1_code 14 none :: ws) ({ frames := 2, cells := 1, slots := 0, locals := 24 } : Room)) (fun as_ U => as_ = #[(.ref a), (.ref s1), (.ref ba), (.int i), (.long j0), (.long j1), (.long j2), (.long j3), (.long j4)] ∧ Z.Warmed39 U.vm ∧ U.heap = h0) (fun _ _ _ _ _ => True) (fun _ U o U' => ∃ v L, o = .returned v ∧ QEI Z a s1 ba kb i j0 j1 j2 j3 j4 h0 n0 v U'.heap L ∧ FrameEnd U o U' L ({ frames := 2, cells := 1, slots := 0, locals := 24 } : Room).cells ({ frames := 2, cells := 1, slots := 0, locals := 24 } : Room).slots) := by
  refine MetFree.of_bodySF (plainFor_of_name pn_6) hisR ?_
  intro p e s m args below meth c s₁ Bd hml0 hP hK
  obtain ⟨rfl, hZ, hh⟩ := hP
  have hx := Bd.exec
  have hby := Bd.bytes
  have hml : c.maxLocals = 14 := hml0
  have hown : s.vm.findClass "com/example/caskwright/caskwright/model/Entry" = some m.cls := findClass_of_methodNamed Bd.named
  have hnm := (name_of_methodNamed Bd.named Bd.method).1
  have X0 : Stand p l e ({ frames := 2, cells := 1, slots := 0, locals := 24 } : Room) s m #[(.ref a), (.ref s1), (.ref ba), (.int i), (.long j0), (.long j1), (.long j2), (.long j3), (.long j4)] below meth c s₁ [] 0 0 := Stand.of_body Bd
  have e0 : s₁.heap = h0 := by rw [← hh, Bd.state]; rfl
  have N0 := Fr.nil n0
  obtain ⟨E0, hE0⟩ : ∃ z, z = s₁.setTop (entryFrame m #[(.ref a), (.ref s1), (.ref ba), (.int i), (.long j0), (.long j1), (.long j2), (.long j3), (.long j4)] 14) := ⟨_, rfl⟩
  rw [← hE0]
  have go0 : ∀ tgt, Steps p.tables e below (s₁.setTop (mkF m 0 #[.val (.ref a), .val (.ref s1), .val (.ref ba), .val (.int i), .val (.long j0), .second, .val (.long j1), .second, .val (.long j2), .second, .val (.long j3), .second, .val (.long j4), .second] [])) tgt → Steps p.tables e below E0 tgt := fun tgt kont => by rw [hE0]; exact castTop (ef_EI m a s1 ba i j0 j1 j2 j3 j4) kont
  have go1 : ∀ tgt, Steps p.tables e below (s₁.setTop (mkF m 1 #[.val (.ref a), .val (.ref s1), .val (.ref ba), .val (.int i), .val (.long j0), .second, .val (.long j1), .second, .val (.long j2), .second, .val (.long j3), .second, .val (.long j4), .second] [(.ref a)])) tgt → Steps p.tables e below E0 tgt := fun tgt kont => go0 tgt (by
    show Steps p.tables e below (s₁.setTop (mkF m 0 #[.val (.ref a), .val (.ref s1), .val (.ref ba), .val (.int i), .val (.long j0), .second, .val (.long j1), .second, .val (.long j2), .second, .val (.long j3), .second, .val (.long j4), .second] [])) tgt
    refine XS.aloadN X0.here hx rfl (hb hby dEI_0) rfl rfl ?_
    exact kont)
  obtain ⟨_, _, ⟨T2, L2, k2, n2⟩, -, X2, ⟨Lc2, hQ2, l2, y2, z2⟩, st2⟩ := X0.specialBack hx (y := (⟨"java/lang/Record", "<init>", "()V"⟩ : MethodName)) rfl hown (mvT hZ (hw _ (List.mem_of_getElem? (i := 43) rfl))) (mvT hZ (hw _ (List.mem_of_getElem? (i := 44) rfl))) (mvT hZ (hw _ (List.mem_of_getElem? (i := 47) rfl))) (by decide) (backOf (W := 0) (rmRC l Z a0 hw [] a h0 n0 Z0 ) hZ (hw _ (List.mem_of_getElem? (i := 47) rfl)) (hw _ (List.mem_of_getElem? (i := 46) rfl)) (by decide) (by decide)) (g := (mkF m 1 #[.val (.ref a), .val (.ref s1), .val (.ref ba), .val (.int i), .val (.long j0), .second, .val (.long j1), .second, .val (.long j2), .second, .val (.long j3), .second, .val (.long j4), .second] [(.ref a)])) rfl (by rw [hml]; rfl) (Steps.refl _) (a := a) (argsL := []) (rest := []) (lenOf pd_5 rfl) rfl (by show 2 * 0 + _ ≤ _; exact Nat.le_of_eq rfl) (hb hby dEI_1) (fun _ _ => ⟨rfl, e0, (by decide : 0 + 0 ≤ _), (by decide : 0 + 0 ≤ _)⟩)
  dsimp only [Pt.U, Pt.locs, Pt.cells, Pt.slots] at X2 l2 y2 z2 st2 hQ2
  subst l2 y2 z2
  obtain ⟨rfl, N2q, e2⟩ := hQ2
  have N2 := Fr.app N0 N2q
  have go2 : ∀ tgt, Steps p.tables e below (T2.setTop (mkF m 4 #[.val (.ref a), .val (.ref s1), .val (.ref ba), .val (.int i), .val (.long j0), .second, .val (.long j1), .second, .val (.long j2), .second, .val (.long j3), .second, .val (.long j4), .second] [])) tgt → Steps p.tables e below E0 tgt := fun tgt kont => go1 tgt (st2.trans kont)
  have go3 : ∀ tgt, Steps p.tables e below (T2.setTop (mkF m 5 #[.val (.ref a), .val (.ref s1), .val (.ref ba), .val (.int i), .val (.long j0), .second, .val (.long j1), .second, .val (.long j2), .second, .val (.long j3), .second, .val (.long j4), .second] [(.ref ba)])) tgt → Steps p.tables e below E0 tgt := fun tgt kont => go2 tgt (by
    show Steps p.tables e below (T2.setTop (mkF m 4 #[.val (.ref a), .val (.ref s1), .val (.ref ba), .val (.int i), .val (.long j0), .second, .val (.long j1), .second, .val (.long j2), .second, .val (.long j3), .second, .val (.long j4), .second] [])) tgt
    refine XS.aloadN X2.here hx rfl (hb hby dEI_4) rfl rfl ?_
    exact kont)
  obtain ⟨T4, h4, X4, e4, E4, A4, B4, st4⟩ := cloneH X2 hx hZ hown (hw _ (List.mem_of_getElem? (i := 49) rfl)) (hw _ (List.mem_of_getElem? (i := 50) rfl)) (hw _ (List.mem_of_getElem? (i := 54) rfl)) (hw _ (List.mem_of_getElem? (i := 52) rfl)) (hw _ (List.mem_of_getElem? (i := 53) rfl)) (hw _ (List.mem_of_getElem? (i := 55) rfl)) e2 (Arv.arh Ab) Eb (g := (mkF m 5 #[.val (.ref a), .val (.ref s1), .val (.ref ba), .val (.int i), .val (.long j0), .second, .val (.long j1), .second, .val (.long j2), .second, .val (.long j3), .second, .val (.long j4), .second] [(.ref ba)])) rfl (by rw [hml]; rfl) rfl (hb hby dEI_5) (by decide) (W := 0) (cap := 0) (by show 2 * 0 + _ ≤ _; exact Nat.le_of_eq rfl) (by decide) (by decide) (by decide) (by decide)
  obtain ⟨c, g4⟩ : ∃ z, z = h0.size := ⟨_, rfl⟩
  rw [← g4] at A4 B4 st4
  have ne_a_c : a ≠ c := Nat.ne_of_lt (Nat.lt_of_lt_of_le Ea.lt (Nat.le_of_eq g4.symm))
  have ne_ba_c : ba ≠ c := Nat.ne_of_lt (Nat.lt_of_lt_of_le Eb.lt (Nat.le_of_eq g4.symm))
  have ge_c : n0 ≤ c := Nat.le_trans Z0 (Nat.le_of_eq g4.symm)
  have hz_c : h0.size ≤ c := Nat.le_trans (Keep.refl h0 [a]).1 (Nat.le_of_eq g4.symm)
  have z5 : n0 ≤ h4.size := Nat.le_trans Z0 E4.1
  have K6 : Keep h0 h4 [a] := (Keep.refl h0 [a]).ext E4
  have V4 : Arv Z h4 c kb .byte (0 : Int32) [] (.int (0 : Int32)) := A4
  have go4 : ∀ tgt, Steps p.tables e below (T4.setTop (mkF m 8 #[.val (.ref a), .val (.ref s1), .val (.ref ba), .val (.int i), .val (.long j0), .second, .val (.long j1), .second, .val (.long j2), .second, .val (.long j3), .second, .val (.long j4), .second] [(.ref c)])) tgt → Steps p.tables e below E0 tgt := fun tgt kont => go3 tgt (st4 tgt kont)
  obtain ⟨T7, X7, e7, st7⟩ := castY X4 hx hZ hown (hw _ (List.mem_of_getElem? (i := 56) rfl)) e4 (Ins.self B4) (g := (mkF m 8 #[.val (.ref a), .val (.ref s1), .val (.ref ba), .val (.int i), .val (.long j0), .second, .val (.long j1), .second, .val (.long j2), .second, .val (.long j3), .second, .val (.long j4), .second] [(.ref c)])) rfl rfl (hb hby dEI_8)
  have go7 : ∀ tgt, Steps p.tables e below (T7.setTop (mkF m 11 #[.val (.ref a), .val (.ref s1), .val (.ref ba), .val (.int i), .val (.long j0), .second, .val (.long j1), .second, .val (.long j2), .second, .val (.long j3), .second, .val (.long j4), .second] [(.ref c)])) tgt → Steps p.tables e below E0 tgt := fun tgt kont => go4 tgt (st7 tgt kont)
  have go8 : ∀ tgt, Steps p.tables e below (T7.setTop (mkF m 14 #[.val (.ref a), .val (.ref s1), .val (.ref c), .val (.int i), .val (.long j0), .second, .val (.long j1), .second, .val (.long j2), .second, .val (.long j3), .second, .val (.long j4), .second] [(.ref s1), (.ref a)])) tgt → Steps p.tables e below E0 tgt := fun tgt kont => go7 tgt (by
    show Steps p.tables e below (T7.setTop (mkF m 11 #[.val (.ref a), .val (.ref s1), .val (.ref ba), .val (.int i), .val (.long j0), .second, .val (.long j1), .second, .val (.long j2), .second, .val (.long j3), .second, .val (.long j4), .second] [(.ref c)])) tgt
    refine XS.astoreN X7.here hx rfl (hb hby dEI_11) rfl rfl (l' := #[.val (.ref a), .val (.ref s1), .val (.ref c), .val (.int i), .val (.long j0), .second, .val (.long j1), .second, .val (.long j2), .second, .val (.long j3), .second, .val (.long j4), .second]) rfl ?_
    show Steps p.tables e below (T7.setTop (mkF m 12 #[.val (.ref a), .val (.ref s1), .val (.ref c), .val (.int i), .val (.long j0), .second, .val (.long j1), .second, .val (.long j2), .second, .val (.long j3), .second, .val (.long j4), .second] [])) tgt
    refine XS.aloadN X7.here hx rfl (hb hby dEI_12) rfl rfl ?_
    show Steps p.tables e below (T7.setTop (mkF m 13 #[.val (.ref a), .val (.ref s1), .val (.ref c), .val (.int i), .val (.long j0), .second, .val (.long j1), .second, .val (.long j2), .second, .val (.long j3), .second, .val (.long j4), .second] [(.ref a)])) tgt
    refine XS.aloadN X7.here hx rfl (hb hby dEI_13) rfl rfl ?_
    exact kont)
  have f9 : Fld Z h4 a "com/example/caskwright/caskwright/model/Entry" "name" "Ljava/lang/String;" .null := (Fname.ext E4)
  have f10 : Exa Z h4 a "com/example/caskwright/caskwright/model/Entry" := (Ea.ext E4)
  obtain ⟨T11, h11, X11, e11, W11, st11⟩ := putF X7 hx hZ hown (host := "") (Or.inl (hw _ (List.mem_of_getElem? (i := 58) rfl))) Via.refl e7 f9 f10 (Or.inr ⟨(hw _ (List.mem_of_getElem? (i := 59) rfl)), rfl, hnm⟩) (hw _ (List.mem_of_getElem? (i := 38) rfl)) (ty := (.object "java/lang/String")) (by decide) rfl rfl (g := (mkF m 14 #[.val (.ref a), .val (.ref s1), .val (.ref c), .val (.int i), .val (.long j0), .second, .val (.long j1), .second, .val (.long j2), .second, .val (.long j3), .second, .val (.long j4), .second] [(.ref s1), (.ref a)])) rfl rfl (hb hby dEI_14)
  have z12 : n0 ≤ h11.size := Nat.le_trans z5 (Keep.of_wr W11).1
  have K13 : Keep h0 h11 [a] := K6.wr W11 (Or.inl (List.mem_of_getElem? (i := 0) rfl))
  have N11 := Fr.snoc X11 N2 ga
  have f14 : Fld Z h11 a "com/example/caskwright/caskwright/model/Entry" "name" "Ljava/lang/String;" (.ref s1) := (f9.same W11)
  have go11 : ∀ tgt, Steps p.tables e below (T11.setTop (mkF m 17 #[.val (.ref a), .val (.ref s1), .val (.ref c), .val (.int i), .val (.long j0), .second, .val (.long j1), .second, .val (.long j2), .second, .val (.long j3), .second, .val (.long j4), .second] [])) tgt → Steps p.tables e below E0 tgt := fun tgt kont => go8 tgt (st11 tgt kont)
  have go15 : ∀ tgt, Steps p.tables e below (T11.setTop (mkF m 19 #[.val (.ref a), .val (.ref s1), .val (.ref c), .val (.int i), .val (.long j0), .second, .val (.long j1), .second, .val (.long j2), .second, .val (.long j3), .second, .val (.long j4), .second] [(.ref c), (.ref a)])) tgt → Steps p.tables e below E0 tgt := fun tgt kont => go11 tgt (by
    show Steps p.tables e below (T11.setTop (mkF m 17 #[.val (.ref a), .val (.ref s1), .val (.ref c), .val (.int i), .val (.long j0), .second, .val (.long j1), .second, .val (.long j2), .second, .val (.long j3), .second, .val (.long j4), .second] [])) tgt
    refine XS.aloadN X11.here hx rfl (hb hby dEI_17) rfl rfl ?_
    show Steps p.tables e below (T11.setTop (mkF m 18 #[.val (.ref a), .val (.ref s1), .val (.ref c), .val (.int i), .val (.long j0), .second, .val (.long j1), .second, .val (.long j2), .second, .val (.long j3), .second, .val (.long j4), .second] [(.ref a)])) tgt
    refine XS.aloadN X11.here hx rfl (hb hby dEI_18) rfl rfl ?_
    exact kont)
  have f16 : Fld Z h11 a "com/example/caskwright/caskwright/model/Entry" "storedName" "[B" .null := ((FstoredName.ext E4).other W11 (Or.inr (slot_ne (Or.inr (hw _ (List.mem_of_getElem? (i := 61) rfl))) (Or.inr (hw _ (List.mem_of_getElem? (i := 59) rfl))) (by decide) (t := (.array .byte)) (t' := (.object "java/lang/String")) (by decide) (by decide))))
  have f17 : Exa Z h11 a "com/example/caskwright/caskwright/model/Entry" := (f10.wr W11)
  obtain ⟨T18, h18, X18, e18, W18, st18⟩ := putF X11 hx hZ hown (host := "") (Or.inl (hw _ (List.mem_of_getElem? (i := 60) rfl))) Via.refl e11 f16 f17 (Or.inr ⟨(hw _ (List.mem_of_getElem? (i := 61) rfl)), rfl, hnm⟩) (hw _ (List.mem_of_getElem? (i := 38) rfl)) (ty := (.array .byte)) (by decide) rfl rfl (g := (mkF m 19 #[.val (.ref a), .val (.ref s1), .val (.ref c), .val (.int i), .val (.long j0), .second, .val (.long j1), .second, .val (.long j2), .second, .val (.long j3), .second, .val (.long j4), .second] [(.ref c), (.ref a)])) rfl rfl (hb hby dEI_19)
  have z19 : n0 ≤ h18.size := Nat.le_trans z12 (Keep.of_wr W18).1
  have K20 : Keep h0 h18 [a] := K13.wr W18 (Or.inl (List.mem_of_getElem? (i := 0) rfl))
  have N18 := Fr.snoc X18 N11 ga
  have f21 : Fld Z h18 a "com/example/caskwright/caskwright/model/Entry" "storedName" "[B" (.ref c) := (f16.same W18)
  have go18 : ∀ tgt, Steps p.tables e below (T18.setTop (mkF m 22 #[.val (.ref a), .val (.ref s1), .val (.ref c), .val (.int i), .val (.long j0), .second, .val (.long j1), .second, .val (.long j2), .second, .val (.long j3), .second, .val (.long j4), .second] [])) tgt → Steps p.tables e below E0 tgt := fun tgt kont => go15 tgt (st18 tgt kont)
  have go22 : ∀ tgt, Steps p.tables e below (T18.setTop (mkF m 24 #[.val (.ref a), .val (.ref s1), .val (.ref c), .val (.int i), .val (.long j0), .second, .val (.long j1), .second, .val (.long j2), .second, .val (.long j3), .second, .val (.long j4), .second] [(.int i), (.ref a)])) tgt → Steps p.tables e below E0 tgt := fun tgt kont => go18 tgt (by
    show Steps p.tables e below (T18.setTop (mkF m 22 #[.val (.ref a), .val (.ref s1), .val (.ref c), .val (.int i), .val (.long j0), .second, .val (.long j1), .second, .val (.long j2), .second, .val (.long j3), .second, .val (.long j4), .second] [])) tgt
    refine XS.aloadN X18.here hx rfl (hb hby dEI_22) rfl rfl ?_
    show Steps p.tables e below (T18.setTop (mkF m 23 #[.val (.ref a), .val (.ref s1), .val (.ref c), .val (.int i), .val (.long j0), .second, .val (.long j1), .second, .val (.long j2), .second, .val (.long j3), .second, .val (.long j4), .second] [(.ref a)])) tgt
    refine XS.iloadN X18.here hx rfl (hb hby dEI_23) rfl ?_
    exact kont)
  have f23 : Fld Z h18 a "com/example/caskwright/caskwright/model/Entry" "method" "I" (.int (0 : Int32)) := (((Fmethod.ext E4).other W11 (Or.inr (slot_ne (Or.inr (hw _ (List.mem_of_getElem? (i := 63) rfl))) (Or.inr (hw _ (List.mem_of_getElem? (i := 59) rfl))) (by decide) (t := .int) (t' := (.object "java/lang/String")) (by decide) (by decide)))).other W18 (Or.inr (slot_ne (Or.inr (hw _ (List.mem_of_getElem? (i := 63) rfl))) (Or.inr (hw _ (List.mem_of_getElem? (i := 61) rfl))) (by decide) (t := .int) (t' := (.array .byte)) (by decide) (by decide))))
  have f24 : Exa Z h18 a "com/example/caskwright/caskwright/model/Entry" := (f17.wr W18)
  obtain ⟨T25, h25, X25, e25, W25, st25⟩ := putF X18 hx hZ hown (host := "") (Or.inl (hw _ (List.mem_of_getElem? (i := 62) rfl))) Via.refl e18 f23 f24 (Or.inr ⟨(hw _ (List.mem_of_getElem? (i := 63) rfl)), rfl, hnm⟩) (hw _ (List.mem_of_getElem? (i := 38) rfl)) (ty := .int) (by decide) rfl rfl (g := (mkF m 24 #[.val (.ref a), .val (.ref s1), .val (.ref c), .val (.int i), .val (.long j0), .second, .val (.long j1), .second, .val (.long j2), .second, .val (.long j3), .second, .val (.long j4), .second] [(.int i), (.ref a)])) rfl rfl (hb hby dEI_24)
  have z26 : n0 ≤ h25.size := Nat.le_trans z19 (Keep.of_wr W25).1
  have K27 : Keep h0 h25 [a] := K20.wr W25 (Or.inl (List.mem_of_getElem? (i := 0) rfl))
  have N25 := Fr.snoc X25 N18 ga
  have f28 : Fld Z h25 a "com/example/caskwright/caskwright/model/Entry" "method" "I" (.int i) := (f23.same W25)
  have go25 : ∀ tgt, Steps p.tables e below (T25.setTop (mkF m 27 #[.val (.ref a), .val (.ref s1), .val (.ref c), .val (.int i), .val (.long j0), .second, .val (.long j1), .second, .val (.long j2), .second, .val (.long j3), .second, .val (.long j4), .second] [])) tgt → Steps p.tables e below E0 tgt := fun tgt kont => go22 tgt (st25 tgt kont)
  have go29 : ∀ tgt, Steps p.tables e below (T25.setTop (mkF m 30 #[.val (.ref a), .val (.ref s1), .val (.ref c), .val (.int i), .val (.long j0), .second, .val (.long j1), .second, .val (.long j2), .second, .val (.long j3), .second, .val (.long j4), .second] [(.long j0), (.ref a)])) tgt → Steps p.tables e below E0 tgt := fun tgt kont => go25 tgt (by
    show Steps p.tables e below (T25.setTop (mkF m 27 #[.val (.ref a), .val (.ref s1), .val (.ref c), .val (.int i), .val (.long j0), .second, .val (.long j1), .second, .val (.long j2), .second, .val (.long j3), .second, .val (.long j4), .second] [])) tgt
    refine XS.aloadN X25.here hx rfl (hb hby dEI_27) rfl rfl ?_
    show Steps p.tables e below (T25.setTop (mkF m 28 #[.val (.ref a), .val (.ref s1), .val (.ref c), .val (.int i), .val (.long j0), .second, .val (.long j1), .second, .val (.long j2), .second, .val (.long j3), .second, .val (.long j4), .second] [(.ref a)])) tgt
    refine XS.lload X25.here hx rfl (hb hby dEI_28) rfl ?_
    exact kont)
  have f30 : Fld Z h25 a "com/example/caskwright/caskwright/model/Entry" "crc" "J" (.long (0 : Int64)) := ((((Fcrc.ext E4).other W11 (Or.inr (slot_ne (Or.inr (hw _ (List.mem_of_getElem? (i := 65) rfl))) (Or.inr (hw _ (List.mem_of_getElem? (i := 59) rfl))) (by decide) (t := .long) (t' := (.object "java/lang/String")) (by decide) (by decide)))).other W18 (Or.inr (slot_ne (Or.inr (hw _ (List.mem_of_getElem? (i := 65) rfl))) (Or.inr (hw _ (List.mem_of_getElem? (i := 61) rfl))) (by decide) (t := .long) (t' := (.array .byte)) (by decide) (by decide)))).other W25 (Or.inr (slot_ne (Or.inr (hw _ (List.mem_of_getElem? (i := 65) rfl))) (Or.inr (hw _ (List.mem_of_getElem? (i := 63) rfl))) (by decide) (t := .long) (t' := .int) (by decide) (by decide))))
  have f31 : Exa Z h25 a "com/example/caskwright/caskwright/model/Entry" := (f24.wr W25)
  obtain ⟨T32, h32, X32, e32, W32, st32⟩ := putF X25 hx hZ hown (host := "") (Or.inl (hw _ (List.mem_of_getElem? (i := 64) rfl))) Via.refl e25 f30 f31 (Or.inr ⟨(hw _ (List.mem_of_getElem? (i := 65) rfl)), rfl, hnm⟩) (hw _ (List.mem_of_getElem? (i := 38) rfl)) (ty := .long) (by decide) rfl rfl (g := (mkF m 30 #[.val (.ref a), .val (.ref s1), .val (.ref c), .val (.int i), .val (.long j0), .second, .val (.long j1), .second, .val (.long j2), .second, .val (.long j3), .second, .val (.long j4), .second] [(.long j0), (.ref a)])) rfl rfl (hb hby dEI_30)
  have z33 : n0 ≤ h32.size := Nat.le_trans z26 (Keep.of_wr W32).1
  have K34 : Keep h0 h32 [a] := K27.wr W32 (Or.inl (List.mem_of_getElem? (i := 0) rfl))
  have N32 := Fr.snoc X32 N25 ga
  have f35 : Fld Z h32 a "com/example/caskwright/caskwright/model/Entry" "crc" "J" (.long j0) := (f30.same W32)
  have go32 : ∀ tgt, Steps p.tables e below (T32.setTop (mkF m 33 #[.val (.ref a), .val (.ref s1), .val (.ref c), .val (.int i), .val (.long j0), .second, .val (.long j1), .second, .val (.long j2), .second, .val (.long j3), .second, .val (.long j4), .second] [])) tgt → Steps p.tables e below E0 tgt := fun tgt kont => go29 tgt (st32 tgt kont)
  have go36 : ∀ tgt, Steps p.tables e below (T32.setTop (mkF m 36 #[.val (.ref a), .val (.ref s1), .val (.ref c), .val (.int i), .val (.long j0), .second, .val (.long j1), .second, .val (.long j2), .second, .val (.long j3), .second, .val (.long j4), .second] [(.long j1), (.ref a)])) tgt → Steps p.tables e below E0 tgt := fun tgt kont => go32 tgt (by
    show Steps p.tables e below (T32.setTop (mkF m 33 #[.val (.ref a), .val (.ref s1), .val (.ref c), .val (.int i), .val (.long j0), .second, .val (.long j1), .second, .val (.long j2), .second, .val (.long j3), .second, .val (.long j4), .second] [])) tgt
    refine XS.aloadN X32.here hx rfl (hb hby dEI_33) rfl rfl ?_
    show Steps p.tables e below (T32.setTop (mkF m 34 #[.val (.ref a), .val (.ref s1), .val (.ref c), .val (.int i), .val (.long j0), .second, .val (.long j1), .second, .val (.long j2), .second, .val (.long j3), .second, .val (.long j4), .second] [(.ref a)])) tgt
    refine XS.lload X32.here hx rfl (hb hby dEI_34) rfl ?_
    exact kont)
  have f37 : Fld Z h32 a "com/example/caskwright/caskwright/model/Entry" "compressedSize" "J" (.long (0 : Int64)) := (((((FcompressedSize.ext E4).other W11 (Or.inr (slot_ne (Or.inr (hw _ (List.mem_of_getElem? (i := 67) rfl))) (Or.inr (hw _ (List.mem_of_getElem? (i := 59) rfl))) (by decide) (t := .long) (t' := (.object "java/lang/String")) (by decide) (by decide)))).other W18 (Or.inr (slot_ne (Or.inr (hw _ (List.mem_of_getElem? (i := 67) rfl))) (Or.inr (hw _ (List.mem_of_getElem? (i := 61) rfl))) (by decide) (t := .long) (t' := (.array .byte)) (by decide) (by decide)))).other W25 (Or.inr (slot_ne (Or.inr (hw _ (List.mem_of_getElem? (i := 67) rfl))) (Or.inr (hw _ (List.mem_of_getElem? (i := 63) rfl))) (by decide) (t := .long) (t' := .int) (by decide) (by decide)))).other W32 (Or.inr (slot_ne (Or.inr (hw _ (List.mem_of_getElem? (i := 67) rfl))) (Or.inr (hw _ (List.mem_of_getElem? (i := 65) rfl))) (by decide) (t := .long) (t' := .long) (by decide) (by decide))))
  have f38 : Exa Z h32 a "com/example/caskwright/caskwright/model/Entry" := (f31.wr W32)
  obtain ⟨T39, h39, X39, e39, W39, st39⟩ := putF X32 hx hZ hown (host := "") (Or.inl (hw _ (List.mem_of_getElem? (i := 66) rfl))) Via.refl e32 f37 f38 (Or.inr ⟨(hw _ (List.mem_of_getElem? (i := 67) rfl)), rfl, hnm⟩) (hw _ (List.mem_of_getElem? (i := 38) rfl)) (ty := .long) (by decide) rfl rfl (g := (mkF m 36 #[.val (.ref a), .val (.ref s1), .val (.ref c), .val (.int i), .val (.long j0), .second, .val (.long j1), .second, .val (.long j2), .second, .val (.long j3), .second, .val (.long j4), .second] [(.long j1), (.ref a)])) rfl rfl (hb hby dEI_36)
  have z40 : n0 ≤ h39.size := Nat.le_trans z33 (Keep.of_wr W39).1
  have K41 : Keep h0 h39 [a] := K34.wr W39 (Or.inl (List.mem_of_getElem? (i := 0) rfl))
  have N39 := Fr.snoc X39 N32 ga
  have f42 : Fld Z h39 a "com/example/caskwright/caskwright/model/Entry" "compressedSize" "J" (.long j1) := (f37.same W39)
  have go39 : ∀ tgt, Steps p.tables e below (T39.setTop (mkF m 39 #[.val (.ref a), .val (.ref s1), .val (.ref c), .val (.int i), .val (.long j0), .second, .val (.long j1), .second, .val (.long j2), .second, .val (.long j3), .second, .val (.long j4), .second] [])) tgt → Steps p.tables e below E0 tgt := fun tgt kont => go36 tgt (st39 tgt kont)
  have go43 : ∀ tgt, Steps p.tables e below (T39.setTop (mkF m 42 #[.val (.ref a), .val (.ref s1), .val (.ref c), .val (.int i), .val (.long j0), .second, .val (.long j1), .second, .val (.long j2), .second, .val (.long j3), .second, .val (.long j4), .second] [(.long j2), (.ref a)])) tgt → Steps p.tables e below E0 tgt := fun tgt kont => go39 tgt (by
    show Steps p.tables e below (T39.setTop (mkF m 39 #[.val (.ref a), .val (.ref s1), .val (.ref c), .val (.int i), .val (.long j0), .second, .val (.long j1), .second, .val (.long j2), .second, .val (.long j3), .second, .val (.long j4), .second] [])) tgt
    refine XS.aloadN X39.here hx rfl (hb hby dEI_39) rfl rfl ?_
    show Steps p.tables e below (T39.setTop (mkF m 40 #[.val (.ref a), .val (.ref s1), .val (.ref c), .val (.int i), .val (.long j0), .second, .val (.long j1), .second, .val (.long j2), .second, .val (.long j3), .second, .val (.long j4), .second] [(.ref a)])) tgt
    refine XS.lload X39.here hx rfl (hb hby dEI_40) rfl ?_
    exact kont)
  have f44 : Fld Z h39 a "com/example/caskwright/caskwright/model/Entry" "size" "J" (.long (0 : Int64)) := ((((((Fsize.ext E4).other W11 (Or.inr (slot_ne (Or.inr (hw _ (List.mem_of_getElem? (i := 69) rfl))) (Or.inr (hw _ (List.mem_of_getElem? (i := 59) rfl))) (by decide) (t := .long) (t' := (.object "java/lang/String")) (by decide) (by decide)))).other W18 (Or.inr (slot_ne (Or.inr (hw _ (List.mem_of_getElem? (i := 69) rfl))) (Or.inr (hw _ (List.mem_of_getElem? (i := 61) rfl))) (by decide) (t := .long) (t' := (.array .byte)) (by decide) (by decide)))).other W25 (Or.inr (slot_ne (Or.inr (hw _ (List.mem_of_getElem? (i := 69) rfl))) (Or.inr (hw _ (List.mem_of_getElem? (i := 63) rfl))) (by decide) (t := .long) (t' := .int) (by decide) (by decide)))).other W32 (Or.inr (slot_ne (Or.inr (hw _ (List.mem_of_getElem? (i := 69) rfl))) (Or.inr (hw _ (List.mem_of_getElem? (i := 65) rfl))) (by decide) (t := .long) (t' := .long) (by decide) (by decide)))).other W39 (Or.inr (slot_ne (Or.inr (hw _ (List.mem_of_getElem? (i := 69) rfl))) (Or.inr (hw _ (List.mem_of_getElem? (i := 67) rfl))) (by decide) (t := .long) (t' := .long) (by decide) (by decide))))
  have f45 : Exa Z h39 a "com/example/caskwright/caskwright/model/Entry" := (f38.wr W39)
  obtain ⟨T46, h46, X46, e46, W46, st46⟩ := putF X39 hx hZ hown (host := "") (Or.inl (hw _ (List.mem_of_getElem? (i := 68) rfl))) Via.refl e39 f44 f45 (Or.inr ⟨(hw _ (List.mem_of_getElem? (i := 69) rfl)), rfl, hnm⟩) (hw _ (List.mem_of_getElem? (i := 38) rfl)) (ty := .long) (by decide) rfl rfl (g := (mkF m 42 #[.val (.ref a), .val (.ref s1), .val (.ref c), .val (.int i), .val (.long j0), .second, .val (.long j1), .second, .val (.long j2), .second, .val (.long j3), .second, .val (.long j4), .second] [(.long j2), (.ref a)])) rfl rfl (hb hby dEI_42)
  have z47 : n0 ≤ h46.size := Nat.le_trans z40 (Keep.of_wr W46).1
  have K48 : Keep h0 h46 [a] := K41.wr W46 (Or.inl (List.mem_of_getElem? (i := 0) rfl))
  have N46 := Fr.snoc X46 N39 ga
  have f49 : Fld Z h46 a "com/example/caskwright/caskwright/model/Entry" "size" "J" (.long j2) := (f44.same W46)
  have go46 : ∀ tgt, Steps p.tables e below (T46.setTop (mkF m 45 #[.val (.ref a), .val (.ref s1), .val (.ref c), .val (.int i), .val (.long j0), .second, .val (.long j1), .second, .val (.long j2), .second, .val (.long j3), .second, .val (.long j4), .second] [])) tgt → Steps p.tables e below E0 tgt := fun tgt kont => go43 tgt (st46 tgt kont)
  have go50 : ∀ tgt, Steps p.tables e below (T46.setTop (mkF m 48 #[.val (.ref a), .val (.ref s1), .val (.ref c), .val (.int i), .val (.long j0), .second, .val (.long j1), .second, .val (.long j2), .second, .val (.long j3), .second, .val (.long j4), .second] [(.long j3), (.ref a)])) tgt → Steps p.tables e below E0 tgt := fun tgt kont => go46 tgt (by
    show Steps p.tables e below (T46.setTop (mkF m 45 #[.val (.ref a), .val (.ref s1), .val (.ref c), .val (.int i), .val (.long j0), .second, .val (.long j1), .second, .val (.long j2), .second, .val (.long j3), .second, .val (.long j4), .second] [])) tgt
    refine XS.aloadN X46.here hx rfl (hb hby dEI_45) rfl rfl ?_
    show Steps p.tables e below (T46.setTop (mkF m 46 #[.val (.ref a), .val (.ref s1), .val (.ref c), .val (.int i), .val (.long j0), .second, .val (.long j1), .second, .val (.long j2), .second, .val (.long j3), .second, .val (.long j4), .second] [(.ref a)])) tgt
    refine XS.lload X46.here hx rfl (hb hby dEI_46) rfl ?_
    exact kont)
  have f51 : Fld Z h46 a "com/example/caskwright/caskwright/model/Entry" "localHeaderPosition" "J" (.long (0 : Int64)) := (((((((FlocalHeaderPosition.ext E4).other W11 (Or.inr (slot_ne (Or.inr (hw _ (List.mem_of_getElem? (i := 71) rfl))) (Or.inr (hw _ (List.mem_of_getElem? (i := 59) rfl))) (by decide) (t := .long) (t' := (.object "java/lang/String")) (by decide) (by decide)))).other W18 (Or.inr (slot_ne (Or.inr (hw _ (List.mem_of_getElem? (i := 71) rfl))) (Or.inr (hw _ (List.mem_of_getElem? (i := 61) rfl))) (by decide) (t := .long) (t' := (.array .byte)) (by decide) (by decide)))).other W25 (Or.inr (slot_ne (Or.inr (hw _ (List.mem_of_getElem? (i := 71) rfl))) (Or.inr (hw _ (List.mem_of_getElem? (i := 63) rfl))) (by decide) (t := .long) (t' := .int) (by decide) (by decide)))).other W32 (Or.inr (slot_ne (Or.inr (hw _ (List.mem_of_getElem? (i := 71) rfl))) (Or.inr (hw _ (List.mem_of_getElem? (i := 65) rfl))) (by decide) (t := .long) (t' := .long) (by decide) (by decide)))).other W39 (Or.inr (slot_ne (Or.inr (hw _ (List.mem_of_getElem? (i := 71) rfl))) (Or.inr (hw _ (List.mem_of_getElem? (i := 67) rfl))) (by decide) (t := .long) (t' := .long) (by decide) (by decide)))).other W46 (Or.inr (slot_ne (Or.inr (hw _ (List.mem_of_getElem? (i := 71) rfl))) (Or.inr (hw _ (List.mem_of_getElem? (i := 69) rfl))) (by decide) (t := .long) (t' := .long) (by decide) (by decide))))
  have f52 : Exa Z h46 a "com/example/caskwright/caskwright/model/Entry" := (f45.wr W46)
  obtain ⟨T53, h53, X53, e53, W53, st53⟩ := putF X46 hx hZ hown (host := "") (Or.inl (hw _ (List.mem_of_getElem? (i := 70) rfl))) Via.refl e46 f51 f52 (Or.inr ⟨(hw _ (List.mem_of_getElem? (i := 71) rfl)), rfl, hnm⟩) (hw _ (List.mem_of_getElem? (i := 38) rfl)) (ty := .long) (by decide) rfl rfl (g := (mkF m 48 #[.val (.ref a), .val (.ref s1), .val (.ref c), .val (.int i), .val (.long j0), .second, .val (.long j1), .second, .val (.long j2), .second, .val (.long j3), .second, .val (.long j4), .second] [(.long j3), (.ref a)])) rfl rfl (hb hby dEI_48)
  have z54 : n0 ≤ h53.size := Nat.le_trans z47 (Keep.of_wr W53).1
  have K55 : Keep h0 h53 [a] := K48.wr W53 (Or.inl (List.mem_of_getElem? (i := 0) rfl))
  have N53 := Fr.snoc X53 N46 ga
  have f56 : Fld Z h53 a "com/example/caskwright/caskwright/model/Entry" "localHeaderPosition" "J" (.long j3) := (f51.same W53)
  have go53 : ∀ tgt, Steps p.tables e below (T53.setTop (mkF m 51 #[.val (.ref a), .val (.ref s1), .val (.ref c), .val (.int i), .val (.long j0), .second, .val (.long j1), .second, .val (.long j2), .second, .val (.long j3), .second, .val (.long j4), .second] [])) tgt → Steps p.tables e below E0 tgt := fun tgt kont => go50 tgt (st53 tgt kont)
  have go57 : ∀ tgt, Steps p.tables e below (T53.setTop (mkF m 54 #[.val (.ref a), .val (.ref s1), .val (.ref c), .val (.int i), .val (.long j0), .second, .val (.long j1), .second, .val (.long j2), .second, .val (.long j3), .second, .val (.long j4), .second] [(.long j4), (.ref a)])) tgt → Steps p.tables e below E0 tgt := fun tgt kont => go53 tgt (by
    show Steps p.tables e below (T53.setTop (mkF m 51 #[.val (.ref a), .val (.ref s1), .val (.ref c), .val (.int i), .val (.long j0), .second, .val (.long j1), .second, .val (.long j2), .second, .val (.long j3), .second, .val (.long j4), .second] [])) tgt
    refine XS.aloadN X53.here hx rfl (hb hby dEI_51) rfl rfl ?_
    show Steps p.tables e below (T53.setTop (mkF m 52 #[.val (.ref a), .val (.ref s1), .val (.ref c), .val (.int i), .val (.long j0), .second, .val (.long j1), .second, .val (.long j2), .second, .val (.long j3), .second, .val (.long j4), .second] [(.ref a)])) tgt
    refine XS.lload X53.here hx rfl (hb hby dEI_52) rfl ?_
    exact kont)
  have f58 : Fld Z h53 a "com/example/caskwright/caskwright/model/Entry" "externalAttributes" "J" (.long (0 : Int64)) := ((((((((FexternalAttributes.ext E4).other W11 (Or.inr (slot_ne (Or.inr (hw _ (List.mem_of_getElem? (i := 73) rfl))) (Or.inr (hw _ (List.mem_of_getElem? (i := 59) rfl))) (by decide) (t := .long) (t' := (.object "java/lang/String")) (by decide) (by decide)))).other W18 (Or.inr (slot_ne (Or.inr (hw _ (List.mem_of_getElem? (i := 73) rfl))) (Or.inr (hw _ (List.mem_of_getElem? (i := 61) rfl))) (by decide) (t := .long) (t' := (.array .byte)) (by decide) (by decide)))).other W25 (Or.inr (slot_ne (Or.inr (hw _ (List.mem_of_getElem? (i := 73) rfl))) (Or.inr (hw _ (List.mem_of_getElem? (i := 63) rfl))) (by decide) (t := .long) (t' := .int) (by decide) (by decide)))).other W32 (Or.inr (slot_ne (Or.inr (hw _ (List.mem_of_getElem? (i := 73) rfl))) (Or.inr (hw _ (List.mem_of_getElem? (i := 65) rfl))) (by decide) (t := .long) (t' := .long) (by decide) (by decide)))).other W39 (Or.inr (slot_ne (Or.inr (hw _ (List.mem_of_getElem? (i := 73) rfl))) (Or.inr (hw _ (List.mem_of_getElem? (i := 67) rfl))) (by decide) (t := .long) (t' := .long) (by decide) (by decide)))).other W46 (Or.inr (slot_ne (Or.inr (hw _ (List.mem_of_getElem? (i := 73) rfl))) (Or.inr (hw _ (List.mem_of_getElem? (i := 69) rfl))) (by decide) (t := .long) (t' := .long) (by decide) (by decide)))).other W53 (Or.inr (slot_ne (Or.inr (hw _ (List.mem_of_getElem? (i := 73) rfl))) (Or.inr (hw _ (List.mem_of_getElem? (i := 71) rfl))) (by decide) (t := .long) (t' := .long) (by decide) (by decide))))
  have f59 : Exa Z h53 a "com/example/caskwright/caskwright/model/Entry" := (f52.wr W53)
  obtain ⟨T60, h60, X60, e60, W60, st60⟩ := putF X53 hx hZ hown (host := "") (Or.inl (hw _ (List.mem_of_getElem? (i := 72) rfl))) Via.refl e53 f58 f59 (Or.inr ⟨(hw _ (List.mem_of_getElem? (i := 73) rfl)), rfl, hnm⟩) (hw _ (List.mem_of_getElem? (i := 38) rfl)) (ty := .long) (by decide) rfl rfl (g := (mkF m 54 #[.val (.ref a), .val (.ref s1), .val (.ref c), .val (.int i), .val (.long j0), .second, .val (.long j1), .second, .val (.long j2), .second, .val (.long j3), .second, .val (.long j4), .second] [(.long j4), (.ref a)])) rfl rfl (hb hby dEI_54)
  have z61 : n0 ≤ h60.size := Nat.le_trans z54 (Keep.of_wr W60).1
  have K62 : Keep h0 h60 [a] := K55.wr W60 (Or.inl (List.mem_of_getElem? (i := 0) rfl))
  have N60 := Fr.snoc X60 N53 ga
  have f63 : Fld Z h60 a "com/example/caskwright/caskwright/model/Entry" "externalAttributes" "J" (.long j4) := (f58.same W60)
  have go60 : ∀ tgt, Steps p.tables e below (T60.setTop (mkF m 57 #[.val (.ref a), .val (.ref s1), .val (.ref c), .val (.int i), .val (.long j0), .second, .val (.long j1), .second, .val (.long j2), .second, .val (.long j3), .second, .val (.long j4), .second] [])) tgt → Steps p.tables e below E0 tgt := fun tgt kont => go57 tgt (st60 tgt kont)
  have f64 : Exa Z h60 a "com/example/caskwright/caskwright/model/Entry" := (f59.wr W60)
  have f65 : Fld Z h60 a "com/example/caskwright/caskwright/model/Entry" "name" "Ljava/lang/String;" (.ref s1) := (((((((f14.other W18 (Or.inr (slot_ne (Or.inr (hw _ (List.mem_of_getElem? (i := 59) rfl))) (Or.inr (hw _ (List.mem_of_getElem? (i := 61) rfl))) (by decide) (t := (.object "java/lang/String")) (t' := (.array .byte)) (by decide) (by decide)))).other W25 (Or.inr (slot_ne (Or.inr (hw _ (List.mem_of_getElem? (i := 59) rfl))) (Or.inr (hw _ (List.mem_of_getElem? (i := 63) rfl))) (by decide) (t := (.object "java/lang/String")) (t' := .int) (by decide) (by decide)))).other W32 (Or.inr (slot_ne (Or.inr (hw _ (List.mem_of_getElem? (i := 59) rfl))) (Or.inr (hw _ (List.mem_of_getElem? (i := 65) rfl))) (by decide) (t := (.object "java/lang/String")) (t' := .long) (by decide) (by decide)))).other W39 (Or.inr (slot_ne (Or.inr (hw _ (List.mem_of_getElem? (i := 59) rfl))) (Or.inr (hw _ (List.mem_of_getElem? (i := 67) rfl))) (by decide) (t := (.object "java/lang/String")) (t' := .long) (by decide) (by decide)))).other W46 (Or.inr (slot_ne (Or.inr (hw _ (List.mem_of_getElem? (i := 59) rfl))) (Or.inr (hw _ (List.mem_of_getElem? (i := 69) rfl))) (by decide) (t := (.object "java/lang/String")) (t' := .long) (by decide) (by decide)))).other W53 (Or.inr (slot_ne (Or.inr (hw _ (List.mem_of_getElem? (i := 59) rfl))) (Or.inr (hw _ (List.mem_of_getElem? (i := 71) rfl))) (by decide) (t := (.object "java/lang/String")) (t' := .long) (by decide) (by decide)))).other W60 (Or.inr (slot_ne (Or.inr (hw _ (List.mem_of_getElem? (i := 59) rfl))) (Or.inr (hw _ (List.mem_of_getElem? (i := 73) rfl))) (by decide) (t := (.object "java/lang/String")) (t' := .long) (by decide) (by decide))))
  obtain ⟨fs, hr, hrun, hended, hW, hsame⟩ := X60.leave (v := none) (fun _ => rfl)
  refine ⟨_, _, go60 _ ?_, hrun, hended, _, _, rfl, ?_, ⟨_, rfl⟩, hW, hsame.mono (by decide) (by decide)⟩
  · show Steps p.tables e below (T60.setTop (mkF m 57 #[.val (.ref a), .val (.ref s1), .val (.ref c), .val (.int i), .val (.long j0), .second, .val (.long j1), .second, .val (.long j2), .second, .val (.long j3), .second, .val (.long j4), .second] [])) _
    exact X60.returnOut hx Bd.returns (hb hby dEI_57) hr
  · show QEI Z a s1 ba kb i j0 j1 j2 j3 j4 h0 n0 _ T60.heap _
    rw [e60]
    exact ⟨rfl, N60, K62, f64, f65⟩
theorem pn_7 : plainName "com/example/caskwright/caskwright/io/MultiRelease$ViewEntry" = true := by first | (simp [plainName, overriddenIn]; done) | decide +kernel
theorem dVI_0 : decode prog_37_method_1_code 0 = .ok (.aload_n 0, 1) := by decide +kernel
theorem dVI_1 : decode prog_37_method_1_code 1 = .ok (.invokespecial 1, 3) := by decide +kernel
theorem dVI_4 : decode prog_37_method_1_code 4 = .ok (.aload_n 0, 1) := by decide +kernel
theorem dVI_5 : decode prog_37_method_1_code 5 = .ok (.aload_n 1, 1) := by decide +kernel
theorem dVI_6 : decode prog_37_method_1_code 6 = .ok (.putfield 7, 3) := by decide +kernel
theorem dVI_9 : decode prog_37_method_1_code 9 = .ok (.aload_n 0, 1) := by decide +kernel
theorem dVI_10 : decode prog_37_method_1_code 10 = .ok (.aload_n 2, 1) := by decide +kernel
theorem dVI_11 : decode prog_37_method_1_code 11 = .ok (.putfield 13, 3) := by decide +kernel
theorem dVI_14 : decode prog_37_method_1_code 14 = .ok (.return_, 1) := by decide +kernel
theorem ef_VI (m : MethodId) (x0 : Addr) (x1 : Addr) (x2 : Addr) : entryFrame m #[(.ref x0), (.ref x1), (.ref x2)] 3 = mkF m 0 #[.val (.ref x0), .val (.ref x1), .val (.ref x2)] [] := by first | (simp [entryFrame, mkF, argsToLocals, Value.category, maxLocals]; done) | rfl
def QVI (Z : State) (a : Addr) (s1 : Addr) (e1 : Addr) (h0 : Heap) (n0 : Nat) (v : Option Value) (h : Heap) (L : List Loc) : Prop := v = none ∧ Fr n0 L ∧ Keep h0 h [a] ∧ Exa Z h a "com/example/caskwright/caskwright/io/MultiRelease$ViewEntry" ∧ Fld Z h a "com/example/caskwright/caskwright/io/MultiRelease$ViewEntry" "name" "Ljava/lang/String;" (.ref s1) ∧ Fld Z h a "com/example/caskwright/caskwright/io/MultiRelease$ViewEntry" "entry" "Lcom/example/caskwright/caskwright/model/Entry;" (.ref e1)
set_option maxRecDepth 65536 in
set_option maxHeartbeats 40000000 in
theorem rmVI (l : Launch) (Z : State) (a0 : Array Value) (hw : ∀ d ∈ tables_1, d.before a0 Z = true) (ws : List Jvm.Cond) (a : Addr) (s1 : Addr) (e1 : Addr) (h0 : Heap) (n0 : Nat) (Z0 : n0 ≤ h0.size) (Ea : Exa Z h0 a "com/example/caskwright/caskwright/io/MultiRelease$ViewEntry") (ga : n0 ≤ a) (Fname : Fld Z h0 a "com/example/caskwright/caskwright/io/MultiRelease$ViewEntry" "name" "Ljava/lang/String;" .null) (Fentry : Fld Z h0 a "com/example/caskwright/caskwright/io/MultiRelease$ViewEntry" "entry" "Lcom/example/caskwright/caskwright/model/Entry;" .null) :
    MetFree l (⟨"com/example/caskwright/caskwright/io/MultiRelease$ViewEntry", "<init>", "(Ljava/lang/String;Lcom/example/caskwright/caskwright/model/Entry;)V"⟩ : MethodName) (head1 (Jvm.Cond.code (⟨"com/example/caskwright/caskwright/io/MultiRelease$ViewEntry", "<init>", "(Ljava/lang/String;Lcom/example/caskwright/caskwright/model/Entry;)V"⟩ : MethodName) prog_37_method_1_code 3 none :: ws) ({ frames := 2, cells := 0, slots := 0, locals := 24 } : Room)) (fun as_ U => as_ = #[(.ref a), (.ref s1), (.ref e1)] ∧ Z.Warmed39 U.vm ∧ U.heap = h0) (fun _ _ _ _ _ => True) (fun _ U o U' => ∃ v L, o = .returned v ∧ QVI Z a s1 e1 h0 n0 v U'.heap L ∧ FrameEnd U o U' L ({ frames := 2, cells := 0, slots := 0, locals := 24 } : Room).cells ({ frames := 2, cells := 0, slots := 0, locals := 24 } : Room).slots) := by
  refine MetFree.of_bodySF (plainFor_of_name pn_7) hisR ?_
  intro p e s m args below meth c s₁ Bd hml0 hP hK
  obtain ⟨rfl, hZ, hh⟩ := hP
  have hx := Bd.exec
  have hby := Bd.bytes
  have hml : c.maxLocals = 3 := hml0
  have hown : s.vm.findClass "com/example/caskwright/caskwright/io/MultiRelease$ViewEntry" = some m.cls := findClass_of_methodNamed Bd.named
  have hnm := (name_of_methodNamed Bd.named Bd.method).1
  have X0 : Stand p l e ({ frames := 2, cells := 0, slots := 0, locals := 24 } : Room) s m #[(.ref a), (.ref s1), (.ref e1)] below meth c s₁ [] 0 0 := Stand.of_body Bd
  have e0 : s₁.heap = h0 := by rw [← hh, Bd.state]; rfl
  have N0 := Fr.nil n0
  obtain ⟨E0, hE0⟩ : ∃ z, z = s₁.setTop (entryFrame m #[(.ref a), (.ref s1), (.ref e1)] 3) := ⟨_, rfl⟩
  rw [← hE0]
  have go0 : ∀ tgt, Steps p.tables e below (s₁.setTop (mkF m 0 #[.val (.ref a), .val (.ref s1), .val (.ref e1)] [])) tgt → Steps p.tables e below E0 tgt := fun tgt kont => by rw [hE0]; exact castTop (ef_VI m a s1 e1) kont
  have go1 : ∀ tgt, Steps p.tables e below (s₁.setTop (mkF m 1 #[.val (.ref a), .val (.ref s1), .val (.ref e1)] [(.ref a)])) tgt → Steps p.tables e below E0 tgt := fun tgt kont => go0 tgt (by
    show Steps p.tables e below (s₁.setTop (mkF m 0 #[.val (.ref a), .val (.ref s1), .val (.ref e1)] [])) tgt
    refine XS.aloadN X0.here hx rfl (hb hby dVI_0) rfl rfl ?_
    exact kont)
  obtain ⟨_, _, ⟨T2, L2, k2, n2⟩, -, X2, ⟨Lc2, hQ2, l2, y2, z2⟩, st2⟩ := X0.specialBack hx (y := (⟨"java/lang/Record", "<init>", "()V"⟩ : MethodName)) rfl hown (mvT hZ (hw _ (List.mem_of_getElem? (i := 80) rfl))) (mvT hZ (hw _ (List.mem_of_getElem? (i := 44) rfl))) (mvT hZ (hw _ (List.mem_of_getElem? (i := 47) rfl))) (by decide) (backOf (W := 0) (rmRC l Z a0 hw [] a h0 n0 Z0 ) hZ (hw _ (List.mem_of_getElem? (i := 47) rfl)) (hw _ (List.mem_of_getElem? (i := 46) rfl)) (by decide) (by decide)) (g := (mkF m 1 #[.val (.ref a), .val (.ref s1), .val (.ref e1)] [(.ref a)])) rfl (by rw [hml]; rfl) (Steps.refl _) (a := a) (argsL := []) (rest := []) (lenOf pd_5 rfl) rfl (by show 2 * 0 + _ ≤ _; exact Nat.le_of_eq rfl) (hb hby dVI_1) (fun _ _ => ⟨rfl, e0, (by decide : 0 + 0 ≤ _), (by decide : 0 + 0 ≤ _)⟩)
  dsimp only [Pt.U, Pt.locs, Pt.cells, Pt.slots] at X2 l2 y2 z2 st2 hQ2
  subst l2 y2 z2
  obtain ⟨rfl, N2q, e2⟩ := hQ2
  have N2 := Fr.app N0 N2q
  have go2 : ∀ tgt, Steps p.tables e below (T2.setTop (mkF m 4 #[.val (.ref a), .val (.ref s1), .val (.ref e1)] [])) tgt → Steps p.tables e below E0 tgt := fun tgt kont => go1 tgt (st2.trans kont)
  have go3 : ∀ tgt, Steps p.tables e below (T2.setTop (mkF m 6 #[.val (.ref a), .val (.ref s1), .val (.ref e1)] [(.ref s1), (.ref a)])) tgt → Steps p.tables e below E0 tgt := fun tgt kont => go2 tgt (by
    show Steps p.tables e below (T2.setTop (mkF m 4 #[.val (.ref a), .val (.ref s1), .val (.ref e1)] [])) tgt
    refine XS.aloadN X2.here hx rfl (hb hby dVI_4) rfl rfl ?_
    show Steps p.tables e below (T2.setTop (mkF m 5 #[.val (.ref a), .val (.ref s1), .val (.ref e1)] [(.ref a)])) tgt
    refine XS.aloadN X2.here hx rfl (hb hby dVI_5) rfl rfl ?_
    exact kont)
  obtain ⟨T4, h4, X4, e4, W4, st4⟩ := putF X2 hx hZ hown (host := "") (Or.inl (hw _ (List.mem_of_getElem? (i := 81) rfl))) Via.refl e2 Fname Ea (Or.inr ⟨(hw _ (List.mem_of_getElem? (i := 82) rfl)), rfl, hnm⟩) (hw _ (List.mem_of_getElem? (i := 75) rfl)) (ty := (.object "java/lang/String")) (by decide) rfl rfl (g := (mkF m 6 #[.val (.ref a), .val (.ref s1), .val (.ref e1)] [(.ref s1), (.ref a)])) rfl rfl (hb hby dVI_6)
  have z5 : n0 ≤ h4.size := Nat.le_trans Z0 (Keep.of_wr W4).1
  have K6 : Keep h0 h4 [a] := (Keep.refl h0 [a]).wr W4 (Or.inl (List.mem_of_getElem? (i := 0) rfl))
  have N4 := Fr.snoc X4 N2 ga
  have f7 : Fld Z h4 a "com/example/caskwright/caskwright/io/MultiRelease$ViewEntry" "name" "Ljava/lang/String;" (.ref s1) := (Fname.same W4)
  have go4 : ∀ tgt, Steps p.tables e below (T4.setTop (mkF m 9 #[.val (.ref a), .val (.ref s1), .val (.ref e1)] [])) tgt → Steps p.tables e below E0 tgt := fun tgt kont => go3 tgt (st4 tgt kont)
  have go8 : ∀ tgt, Steps p.tables e below (T4.setTop (mkF m 11 #[.val (.ref a), .val (.ref s1), .val (.ref e1)] [(.ref e1), (.ref a)])) tgt → Steps p.tables e below E0 tgt := fun tgt kont => go4 tgt (by
    show Steps p.tables e below (T4.setTop (mkF m 9 #[.val (.ref a), .val (.ref s1), .val (.ref e1)] [])) tgt
    refine XS.aloadN X4.here hx rfl (hb hby dVI_9) rfl rfl ?_
    show Steps p.tables e below (T4.setTop (mkF m 10 #[.val (.ref a), .val (.ref s1), .val (.ref e1)] [(.ref a)])) tgt
    refine XS.aloadN X4.here hx rfl (hb hby dVI_10) rfl rfl ?_
    exact kont)
  have f9 : Fld Z h4 a "com/example/caskwright/caskwright/io/MultiRelease$ViewEntry" "entry" "Lcom/example/caskwright/caskwright/model/Entry;" .null := (Fentry.other W4 (Or.inr (slot_ne (Or.inr (hw _ (List.mem_of_getElem? (i := 84) rfl))) (Or.inr (hw _ (List.mem_of_getElem? (i := 82) rfl))) (by decide) (t := (.object "com/example/caskwright/caskwright/model/Entry")) (t' := (.object "java/lang/String")) (by decide) (by decide))))
  have f10 : Exa Z h4 a "com/example/caskwright/caskwright/io/MultiRelease$ViewEntry" := (Ea.wr W4)
  obtain ⟨T11, h11, X11, e11, W11, st11⟩ := putF X4 hx hZ hown (host := "") (Or.inl (hw _ (List.mem_of_getElem? (i := 83) rfl))) Via.refl e4 f9 f10 (Or.inr ⟨(hw _ (List.mem_of_getElem? (i := 84) rfl)), rfl, hnm⟩) (hw _ (List.mem_of_getElem? (i := 75) rfl)) (ty := (.object "com/example/caskwright/caskwright/model/Entry")) (by decide) rfl rfl (g := (mkF m 11 #[.val (.ref a), .val (.ref s1), .val (.ref e1)] [(.ref e1), (.ref a)])) rfl rfl (hb hby dVI_11)
  have z12 : n0 ≤ h11.size := Nat.le_trans z5 (Keep.of_wr W11).1
  have K13 : Keep h0 h11 [a] := K6.wr W11 (Or.inl (List.mem_of_getElem? (i := 0) rfl))
  have N11 := Fr.snoc X11 N4 ga
  have f14 : Fld Z h11 a "com/example/caskwright/caskwright/io/MultiRelease$ViewEntry" "entry" "Lcom/example/caskwright/caskwright/model/Entry;" (.ref e1) := (f9.same W11)
  have go11 : ∀ tgt, Steps p.tables e below (T11.setTop (mkF m 14 #[.val (.ref a), .val (.ref s1), .val (.ref e1)] [])) tgt → Steps p.tables e below E0 tgt := fun tgt kont => go8 tgt (st11 tgt kont)
  have f15 : Exa Z h11 a "com/example/caskwright/caskwright/io/MultiRelease$ViewEntry" := (f10.wr W11)
  have f16 : Fld Z h11 a "com/example/caskwright/caskwright/io/MultiRelease$ViewEntry" "name" "Ljava/lang/String;" (.ref s1) := (f7.other W11 (Or.inr (slot_ne (Or.inr (hw _ (List.mem_of_getElem? (i := 82) rfl))) (Or.inr (hw _ (List.mem_of_getElem? (i := 84) rfl))) (by decide) (t := (.object "java/lang/String")) (t' := (.object "com/example/caskwright/caskwright/model/Entry")) (by decide) (by decide))))
  obtain ⟨fs, hr, hrun, hended, hW, hsame⟩ := X11.leave (v := none) (fun _ => rfl)
  refine ⟨_, _, go11 _ ?_, hrun, hended, _, _, rfl, ?_, ⟨_, rfl⟩, hW, hsame.mono (by decide) (by decide)⟩
  · show Steps p.tables e below (T11.setTop (mkF m 14 #[.val (.ref a), .val (.ref s1), .val (.ref e1)] [])) _
    exact X11.returnOut hx Bd.returns (hb hby dVI_14) hr
  · show QVI Z a s1 e1 h0 n0 _ T11.heap _
    rw [e11]
    exact ⟨rfl, N11, K13, f15, f16, f14⟩
theorem dNM_0 : decode prog_52_method_6_code 0 = .ok (.aload_n 0, 1) := by decide +kernel
theorem dNM_1 : decode prog_52_method_6_code 1 = .ok (.getfield 13, 3) := by decide +kernel
theorem dNM_4 : decode prog_52_method_6_code 4 = .ok (.areturn, 1) := by decide +kernel
theorem ef_NM (m : MethodId) (x0 : Addr) : entryFrame m #[(.ref x0)] 1 = mkF m 0 #[.val (.ref x0)] [] := by first | (simp [entryFrame, mkF, argsToLocals, Value.category, maxLocals]; done) | rfl
def QNM (Z : State) (a : Addr) (q : Addr) (h0 : Heap) (n0 : Nat) (v : Option Value) (h : Heap) (L : List Loc) : Prop := v = some (.ref q) ∧ Fr n0 L ∧ h = h0
set_option maxRecDepth 65536 in
set_option maxHeartbeats 40000000 in
theorem rmNM (l : Launch) (Z : State) (a0 : Array Value) (hw : ∀ d ∈ tables_1, d.before a0 Z = true) (ws : List Jvm.Cond) (a : Addr) (q : Addr) (h0 : Heap) (n0 : Nat) (Z0 : n0 ≤ h0.size) (Fq : Fld Z h0 a "com/example/caskwright/caskwright/model/Entry" "name" "Ljava/lang/String;" (.ref q)) :
    MetFree l (⟨"com/example/caskwright/caskwright/model/Entry", "name", "()Ljava/lang/String;"⟩ : MethodName) (head1 (Jvm.Cond.code (⟨"com/example/caskwright/caskwright/model/Entry", "name", "()Ljava/lang/String;"⟩ : MethodName) prog_52_method_6_code 1 (some (.object "java/lang/String")) :: ws) ({ frames := 0, cells := 0, slots := 0, locals := 0 } : Room)) (fun as_ U => as_ = #[(.ref a)] ∧ Z.Warmed39 U.vm ∧ U.heap = h0) (fun _ _ _ _ _ => True) (fun _ U o U' => ∃ v L, o = .returned v ∧ QNM Z a q h0 n0 v U'.heap L ∧ FrameEnd U o U' L ({ frames := 0, cells := 0, slots := 0, locals := 0 } : Room).cells ({ frames := 0, cells := 0, slots := 0, locals := 0 } : Room).slots) := by
  refine MetFree.of_bodySF (plainFor_of_name pn_6) hisR ?_
  intro p e s m args below meth c s₁ Bd hml0 hP hK
  obtain ⟨rfl, hZ, hh⟩ := hP
  have hx := Bd.exec
  have hby := Bd.bytes
  have hml : c.maxLocals = 1 := hml0
  have hown : s.vm.findClass "com/example/caskwright/caskwright/model/Entry" = some m.cls := findClass_of_methodNamed Bd.named
  have hnm := (name_of_methodNamed Bd.named Bd.method).1
  have X0 : Stand p l e ({ frames := 0, cells := 0, slots := 0, locals := 0 } : Room) s m #[(.ref a)] below meth c s₁ [] 0 0 := Stand.of_body Bd
  have e0 : s₁.heap = h0 := by rw [← hh, Bd.state]; rfl
  have N0 := Fr.nil n0
  obtain ⟨E0, hE0⟩ : ∃ z, z = s₁.setTop (entryFrame m #[(.ref a)] 1) := ⟨_, rfl⟩
  rw [← hE0]
  have go0 : ∀ tgt, Steps p.tables e below (s₁.setTop (mkF m 0 #[.val (.ref a)] [])) tgt → Steps p.tables e below E0 tgt := fun tgt kont => by rw [hE0]; exact castTop (ef_NM m a) kont
  have go1 : ∀ tgt, Steps p.tables e below (s₁.setTop (mkF m 1 #[.val (.ref a)] [(.ref a)])) tgt → Steps p.tables e below E0 tgt := fun tgt kont => go0 tgt (by
    show Steps p.tables e below (s₁.setTop (mkF m 0 #[.val (.ref a)] [])) tgt
    refine XS.aloadN X0.here hx rfl (hb hby dNM_0) rfl rfl ?_
    exact kont)
  obtain ⟨T2, X2, e2, st2⟩ := getF X0 hx hZ hown (host := "") (Or.inl (hw _ (List.mem_of_getElem? (i := 58) rfl))) Via.refl e0 Fq (g := (mkF m 1 #[.val (.ref a)] [(.ref a)])) rfl rfl (hb hby dNM_1)
  have go2 : ∀ tgt, Steps p.tables e below (T2.setTop (mkF m 4 #[.val (.ref a)] [(.ref q)])) tgt → Steps p.tables e below E0 tgt := fun tgt kont => go1 tgt (st2 tgt kont)
  obtain ⟨fs, hr, hrun, hended, hW, hsame⟩ := X2.leave (v := some (.ref q)) (fun h => by rw [Bd.returns] at h; cases h)
  refine ⟨_, _, go2 _ ?_, hrun, hended, _, _, rfl, ?_, ⟨_, rfl⟩, hW, hsame.mono (by decide) (by decide)⟩
  · show Steps p.tables e below (T2.setTop (mkF m 4 #[.val (.ref a)] [(.ref q)])) _
    exact retOut X2 hx Bd.returns rfl (Or.inr (Or.inr (Or.inr (Or.inr ⟨rfl, rfl, rfl⟩)))) (hb hby dNM_4) hr
  · show QNM Z a q h0 n0 _ T2.heap _
    rw [e2]
    exact ⟨rfl, N0, rfl⟩
theorem pd_8 : parseMethodDescriptor "()Ljava/lang/String;" = some ⟨[], some (.object "java/lang/String")⟩ := by decide +kernel
theorem pd_9 : parseMethodDescriptor "(Ljava/lang/Object;)Z" = some ⟨[(.object "java/lang/Object")], some .boolean⟩ := by decide +kernel
theorem dVV_0 : decode prog_37_method_2_code 0 = .ok (.aload_n 0, 1) := by decide +kernel
theorem dVV_1 : decode prog_37_method_2_code 1 = .ok (.getfield 7, 3) := by decide +kernel
theorem dVV_4 : decode prog_37_method_2_code 4 = .ok (.aload_n 0, 1) := by decide +kernel
theorem dVV_5 : decode prog_37_method_2_code 5 = .ok (.getfield 13, 3) := by decide +kernel
theorem dVV_8 : decode prog_37_method_2_code 8 = .ok (.invokevirtual 17, 3) := by decide +kernel
theorem dVV_11 : decode prog_37_method_2_code 11 = .ok (.invokevirtual 22, 3) := by decide +kernel
theorem dVV_14 : decode prog_37_method_2_code 14 = .ok (.ifCond .ne 7, 3) := by decide +kernel
theorem dVV_17 : decode prog_37_method_2_code 17 = .ok (.iconst 1, 1) := by decide +kernel
theorem dVV_18 : decode prog_37_method_2_code 18 = .ok (.goto 4, 3) := by decide +kernel
theorem dVV_21 : decode prog_37_method_2_code 21 = .ok (.iconst 0, 1) := by decide +kernel
theorem dVV_22 : decode prog_37_method_2_code 22 = .ok (.ireturn, 1) := by decide +kernel
theorem ef_VV (m : MethodId) (x0 : Addr) : entryFrame m #[(.ref x0)] 1 = mkF m 0 #[.val (.ref x0)] [] := by first | (simp [entryFrame, mkF, argsToLocals, Value.category, maxLocals]; done) | rfl
def QVV (Z : State) (a : Addr) (en : Addr) (s1 : Addr) (t1 : Addr) (k1 : ClassId) (c1 : List Int32) (s2 : Addr) (t2 : Addr) (k2 : ClassId) (c2 : List Int32) (G : Int32) (h0 : Heap) (n0 : Nat) (v : Option Value) (h : Heap) (L : List Loc) : Prop := ((v = some (.int 1) ∧ ¬ c1 = c2) ∨ (v = some (.int 0) ∧ ¬ (¬ c1 = c2))) ∧ Fr n0 L ∧ h = h0
set_option maxRecDepth 65536 in
set_option maxHeartbeats 40000000 in
theorem rmVV (l : Launch) (Z : State) (a0 : Array Value) (hw : ∀ d ∈ tables_1, d.before a0 Z = true) (ws : List Jvm.Cond) (a : Addr) (en : Addr) (s1 : Addr) (t1 : Addr) (k1 : ClassId) (c1 : List Int32) (s2 : Addr) (t2 : Addr) (k2 : ClassId) (c2 : List Int32) (G : Int32) (h0 : Heap) (n0 : Nat) (Z0 : n0 ≤ h0.size) (Ee : Exa Z h0 en "com/example/caskwright/caskwright/model/Entry") (Fn : Fld Z h0 a "com/example/caskwright/caskwright/io/MultiRelease$ViewEntry" "name" "Ljava/lang/String;" (.ref s1)) (Fe : Fld Z h0 a "com/example/caskwright/caskwright/io/MultiRelease$ViewEntry" "entry" "Lcom/example/caskwright/caskwright/model/Entry;" (.ref en)) (Fm : Fld Z h0 en "com/example/caskwright/caskwright/model/Entry" "name" "Ljava/lang/String;" (.ref s2)) (E1 : Exa Z h0 s1 "java/lang/String") (V1 : Fld Z h0 s1 "java/lang/String" "value" "[B" (.ref t1)) (C1 : Fld Z h0 s1 "java/lang/String" "coder" "B" (.int (0 : Int32))) (A1 : Arv Z h0 t1 k1 .byte (Int32.ofNat c1.length) ((c1.map (fun c => c.toInt8.toInt32)).map Value.int) (.int (0 : Int32))) (hp1 : ∀ c ∈ c1, ¬ c < 0 ∧ ¬ (255 : Int32) < c) (hl1 : c1.length ≤ 4000) (E2 : Exa Z h0 s2 "java/lang/String") (V2 : Fld Z h0 s2 "java/lang/String" "value" "[B" (.ref t2)) (C2 : Fld Z h0 s2 "java/lang/String" "coder" "B" (.int (0 : Int32))) (A2 : Arv Z h0 t2 k2 .byte (Int32.ofNat c2.length) ((c2.map (fun c => c.toInt8.toInt32)).map Value.int) (.int (0 : Int32))) (hp2 : ∀ c ∈ c2, ¬ c < 0 ∧ ¬ (255 : Int32) < c) (hl2 : c2.length ≤ 4000) (SC : Sta Z h0 "java/lang/String" "COMPACT_STRINGS" "Z" (.int G)) (hG : ¬ (G = (0 : Int32))) :
    MetFree l (⟨"com/example/caskwright/caskwright/io/MultiRelease$ViewEntry", "versioned", "()Z"⟩ : MethodName) (head1 (Jvm.Cond.code (⟨"com/example/caskwright/caskwright/io/MultiRelease$ViewEntry", "versioned", "()Z"⟩ : MethodName) prog_37_method_2_code 1 (some .boolean) :: ws) ({ frames := 2, cells := 0, slots := 0, locals := 28 } : Room)) (fun as_ U => as_ = #[(.ref a)] ∧ Z.Warmed39 U.vm ∧ U.heap = h0) (fun _ _ _ _ _ => True) (fun _ U o U' => ∃ v L, o = .returned v ∧ QVV Z a en s1 t1 k1 c1 s2 t2 k2 c2 G h0 n0 v U'.heap L ∧ FrameEnd U o U' L ({ frames := 2, cells := 0, slots := 0, locals := 28 } : Room).cells ({ frames := 2, cells := 0, slots := 0, locals := 28 } : Room).slots) := by
  refine MetFree.of_bodySF (plainFor_of_name pn_7) hisR ?_
  intro p e s m args below meth c s₁ Bd hml0 hP hK
  obtain ⟨rfl, hZ, hh⟩ := hP
  have hx := Bd.exec
  have hby := Bd.bytes
  have hml : c.maxLocals = 1 := hml0
  have hown : s.vm.findClass "com/example/caskwright/caskwright/io/MultiRelease$ViewEntry" = some m.cls := findClass_of_methodNamed Bd.named
  have hnm := (name_of_methodNamed Bd.named Bd.method).1
  have X0 : Stand p l e ({ frames := 2, cells := 0, slots := 0, locals := 28 } : Room) s m #[(.ref a)] below meth c s₁ [] 0 0 := Stand.of_body Bd
  have e0 : s₁.heap = h0 := by rw [← hh, Bd.state]; rfl
  have N0 := Fr.nil n0
  obtain ⟨E0, hE0⟩ : ∃ z, z = s₁.setTop (entryFrame m #[(.ref a)] 1) := ⟨_, rfl⟩
  rw [← hE0]
  have go0 : ∀ tgt, Steps p.tables e below (s₁.setTop (mkF m 0 #[.val (.ref a)] [])) tgt → Steps p.tables e below E0 tgt := fun tgt kont => by rw [hE0]; exact castTop (ef_VV m a) kont
  have heq : ∀ d ∈ StrChars.Road.wordsEq, d.before a0 Z = true := fun d hd => hw d ((by decide +kernel : ∀ d ∈ StrChars.Road.wordsEq, d ∈ tables_1) d hd)
  have hcd1 : StrChars.Road.CodA c1 0 (Int32.ofNat c1.length) ((c1.map (fun c => c.toInt8.toInt32)).map Value.int) := StrChars.Road.codOf rfl (fun x hx => (hp1 x hx).2)
  have hbd1 := own_up hp1
  have hcd2 : StrChars.Road.CodA c2 0 (Int32.ofNat c2.length) ((c2.map (fun c => c.toInt8.toInt32)).map Value.int) := StrChars.Road.codOf rfl (fun x hx => (hp2 x hx).2)
  have hbd2 := own_up hp2
  have go1 : ∀ tgt, Steps p.tables e below (s₁.setTop (mkF m 1 #[.val (.ref a)] [(.ref a)])) tgt → Steps p.tables e below E0 tgt := fun tgt kont => go0 tgt (by
    show Steps p.tables e below (s₁.setTop (mkF m 0 #[.val (.ref a)] [])) tgt
    refine XS.aloadN X0.here hx rfl (hb hby dVV_0) rfl rfl ?_
    exact kont)
  obtain ⟨T2, X2, e2, st2⟩ := getF X0 hx hZ hown (host := "") (Or.inl (hw _ (List.mem_of_getElem? (i := 81) rfl))) Via.refl e0 Fn (g := (mkF m 1 #[.val (.ref a)] [(.ref a)])) rfl rfl (hb hby dVV_1)
  have go2 : ∀ tgt, Steps p.tables e below (T2.setTop (mkF m 4 #[.val (.ref a)] [(.ref s1)])) tgt → Steps p.tables e below E0 tgt := fun tgt kont => go1 tgt (st2 tgt kont)
  have go3 : ∀ tgt, Steps p.tables e below (T2.setTop (mkF m 5 #[.val (.ref a)] [(.ref a), (.ref s1)])) tgt → Steps p.tables e below E0 tgt := fun tgt kont => go2 tgt (by
    show Steps p.tables e below (T2.setTop (mkF m 4 #[.val (.ref a)] [(.ref s1)])) tgt
    refine XS.aloadN X2.here hx rfl (hb hby dVV_4) rfl rfl ?_
    exact kont)
  obtain ⟨T4, X4, e4, st4⟩ := getF X2 hx hZ hown (host := "") (Or.inl (hw _ (List.mem_of_getElem? (i := 83) rfl))) Via.refl e2 Fe (g := (mkF m 5 #[.val (.ref a)] [(.ref a), (.ref s1)])) rfl rfl (hb hby dVV_5)
  have go4 : ∀ tgt, Steps p.tables e below (T4.setTop (mkF m 8 #[.val (.ref a)] [(.ref en), (.ref s1)])) tgt → Steps p.tables e below E0 tgt := fun tgt kont => go3 tgt (st4 tgt kont)
  obtain ⟨cq5, kq5, q5a, q5b, q5c⟩ := isOf hZ e4 Ee
  obtain ⟨_, _, ⟨T5, L5, k5, n5⟩, -, X5, ⟨Lc5, hQ5, l5, y5, z5⟩, st5⟩ := X4.virtualBack hx (y := (⟨"com/example/caskwright/caskwright/model/Entry", "name", "()Ljava/lang/String;"⟩ : MethodName)) (z := (⟨"com/example/caskwright/caskwright/model/Entry", "name", "()Ljava/lang/String;"⟩ : MethodName)) hown (mvT hZ (hw _ (List.mem_of_getElem? (i := 90) rfl))) (mvT hZ (hw _ (List.mem_of_getElem? (i := 91) rfl))) (notFace_of_selects (args := #[]) (mvT hZ (hw _ (List.mem_of_getElem? (i := 93) rfl)))) (mvT hZ (hw _ (List.mem_of_getElem? (i := 93) rfl))) (mvT hZ (hw _ (List.mem_of_getElem? (i := 92) rfl))) (by decide) (backOf (W := 1) (rmNM l Z a0 hw [] en s2 h0 n0 Z0 Fm) hZ (hw _ (List.mem_of_getElem? (i := 94) rfl)) (hw _ (List.mem_of_getElem? (i := 39) rfl)) (by decide) (by decide)) q5a q5c (g := (mkF m 8 #[.val (.ref a)] [(.ref en), (.ref s1)])) rfl (by rw [hml]; rfl) (Steps.refl _) (argsL := []) (rest := [(.ref s1)]) (lenOf pd_8 rfl) rfl (by show 2 * 0 + _ ≤ _; exact Nat.le_of_eq rfl) (hb hby dVV_8) (fun _ _ => ⟨rfl, e4, (by decide : 0 + 0 ≤ _), (by decide : 0 + 0 ≤ _)⟩)
  dsimp only [Pt.U, Pt.locs, Pt.cells, Pt.slots] at X5 l5 y5 z5 st5 hQ5
  subst l5 y5 z5
  obtain ⟨rfl, N5q, e5⟩ := hQ5
  have N5 := Fr.app N0 N5q
  have go5 : ∀ tgt, Steps p.tables e below (T5.setTop (mkF m 11 #[.val (.ref a)] [(.ref s2), (.ref s1)])) tgt → Steps p.tables e below E0 tgt := fun tgt kont => go4 tgt (st5.trans kont)
  obtain ⟨cq6, kq6, q6a, q6b, q6c⟩ := isOf hZ e5 E1
  obtain ⟨vv6, _, ⟨T6, L6, k6, n6⟩, -, X6, ⟨Lc6, hQ6, l6, y6, z6⟩, st6⟩ := X5.virtualBack hx (y := (⟨"java/lang/String", "equals", "(Ljava/lang/Object;)Z"⟩ : MethodName)) (z := (⟨"java/lang/String", "equals", "(Ljava/lang/Object;)Z"⟩ : MethodName)) hown (mvT hZ (hw _ (List.mem_of_getElem? (i := 95) rfl))) (mvT hZ (hw _ (List.mem_of_getElem? (i := 96) rfl))) (notFace_of_selects (args := #[]) (mvT hZ (hw _ (List.mem_of_getElem? (i := 98) rfl)))) (mvT hZ (hw _ (List.mem_of_getElem? (i := 98) rfl))) (mvT hZ (hw _ (List.mem_of_getElem? (i := 97) rfl))) (by decide) (StrChars.Road.eqW (W := 0) hZ heq (kI := 4) (hw _ (List.mem_of_getElem? (i := 5) rfl)) E1 V1 C1 A1 hcd1 hbd1 hl1 E2 V2 C2 A2 hcd2 hbd2 hl2 SC hG (by decide) (by decide)) q6a q6c (g := (mkF m 11 #[.val (.ref a)] [(.ref s2), (.ref s1)])) rfl (by rw [hml]; rfl) (Steps.refl _) (argsL := [(.ref s2)]) (rest := []) (lenOf pd_9 rfl) rfl (by show 2 * 0 + _ ≤ _; exact Nat.le_of_eq rfl) (hb hby dVV_11) (fun _ _ => ⟨rfl, e5, (by decide : 0 + 0 ≤ _), (by decide : 0 + 0 ≤ _)⟩)
  dsimp only [Pt.U, Pt.locs, Pt.cells, Pt.slots] at X6 l6 y6 z6 st6 hQ6
  subst l6 y6 z6
  obtain ⟨hv6, rfl, e6⟩ := hQ6
  have N6q : Fr n0 ([] : List Loc) := Fr.nil n0
  obtain ⟨r1, rfl, hr1⟩ : ∃ r : Int32, vv6 = some (.int r) ∧ ((r = 1 ∧ c1 = c2) ∨ (r = 0 ∧ ¬ (c1 = c2))) := by
    rcases hv6 with ⟨q, u⟩ | ⟨q, u⟩
    · exact ⟨1, q, Or.inl ⟨rfl, u⟩⟩
    · exact ⟨0, q, Or.inr ⟨rfl, u⟩⟩
  have N6 := Fr.app N5 N6q
  have go6 : ∀ tgt, Steps p.tables e below (T6.setTop (mkF m 14 #[.val (.ref a)] [(.int r1)])) tgt → Steps p.tables e below E0 tgt := fun tgt kont => go5 tgt (st6.trans kont)
  by_cases q1 : r1 = (0 : Int32)
  · have go7 : ∀ tgt, Steps p.tables e below (T6.setTop (mkF m 22 #[.val (.ref a)] [(.int (1 : Int32))])) tgt → Steps p.tables e below E0 tgt := fun tgt kont => go6 tgt (by
      show Steps p.tables e below (T6.setTop (mkF m 14 #[.val (.ref a)] [(.int r1)])) tgt
      refine XS.ifNo X6.here hx rfl (hb hby dVV_14) rfl ((if0 _ _).trans (teq q1).2) ?_
      show Steps p.tables e below (T6.setTop (mkF m 17 #[.val (.ref a)] [])) tgt
      refine XS.iconst X6.here hx rfl (hb hby dVV_17) ?_
      show Steps p.tables e below (T6.setTop (mkF m 18 #[.val (.ref a)] [(.int (1 : Int32))])) tgt
      refine XS.goto X6.here hx rfl (pc0 := 18) (pc' := 22) rfl (hb hby dVV_18) (by decide) (by decide) ?_
      exact kont)
    obtain ⟨fs, hr, hrun, hended, hW, hsame⟩ := X6.leave (v := some (.int (1 : Int32))) (fun h => by rw [Bd.returns] at h; cases h)
    refine ⟨_, _, go7 _ ?_, hrun, hended, _, _, rfl, ?_, ⟨_, rfl⟩, hW, hsame.mono (by decide) (by decide)⟩
    · show Steps p.tables e below (T6.setTop (mkF m 22 #[.val (.ref a)] [(.int (1 : Int32))])) _
      exact retN X6 hx (t := .boolean) Bd.returns (by simp) (hb hby dVV_22) hr
    · show QVV Z a en s1 t1 k1 c1 s2 t2 k2 c2 G h0 n0 _ T6.heap _
      rw [e6]
      exact ⟨Or.inl ⟨rfl, hr1.elim (fun u => absurd (u.1.symm.trans q1) (by decide)) (fun u => u.2)⟩, N6, rfl⟩
  · have go8 : ∀ tgt, Steps p.tables e below (T6.setTop (mkF m 22 #[.val (.ref a)] [(.int (0 : Int32))])) tgt → Steps p.tables e below E0 tgt := fun tgt kont => go6 tgt (by
      show Steps p.tables e below (T6.setTop (mkF m 14 #[.val (.ref a)] [(.int r1)])) tgt
      refine XS.ifYes X6.here hx rfl (pc0 := 14) (pc' := 21) rfl (hb hby dVV_14) rfl ((if0 _ _).trans (feq q1).2) (by decide) (by decide) ?_
      show Steps p.tables e below (T6.setTop (mkF m 21 #[.val (.ref a)] [])) tgt
      refine XS.iconst X6.here hx rfl (hb hby dVV_21) ?_
      exact kont)
    obtain ⟨fs, hr, hrun, hended, hW, hsame⟩ := X6.leave (v := some (.int (0 : Int32))) (fun h => by rw [Bd.returns] at h; cases h)
    refine ⟨_, _, go8 _ ?_, hrun, hended, _, _, rfl, ?_, ⟨_, rfl⟩, hW, hsame.mono (by decide) (by decide)⟩
    · show Steps p.tables e below (T6.setTop (mkF m 22 #[.val (.ref a)] [(.int (0 : Int32))])) _
      exact retN X6 hx (t := .boolean) Bd.returns (by simp) (hb hby dVV_22) hr
    · show QVV Z a en s1 t1 k1 c1 s2 t2 k2 c2 G h0 n0 _ T6.heap _
      rw [e6]
      exact ⟨Or.inr ⟨rfl, fun u => u (hr1.elim (fun z => z.2) (fun z => absurd z.1 q1))⟩, N6, rfl⟩
theorem pd_10 : parseMethodDescriptor "(ICCC)Ljava/lang/String;" = some ⟨[.int, .char, .char, .char], some (.object "java/lang/String")⟩ := by decide +kernel
theorem pd_11 : parseMethodDescriptor "(Ljava/lang/String;[BIJJJJJ)V" = some ⟨[(.object "java/lang/String"), (.array .byte), .int, .long, .long, .long, .long, .long], none⟩ := by decide +kernel
theorem pd_12 : parseMethodDescriptor "(Ljava/lang/String;Lcom/example/caskwright/caskwright/model/Entry;)V" = some ⟨[(.object "java/lang/String"), (.object "com/example/caskwright/caskwright/model/Entry")], none⟩ := by decide +kernel
theorem pd_13 : parseMethodDescriptor "()Z" = some ⟨[], some .boolean⟩ := by decide +kernel
theorem ef_L (m : MethodId) (x0 : Int32) (x1 : Int32) (x2 : Int32) : entryFrame m #[(.int x0), (.int x1), (.int x2)] maxLocals = mkF m 0 #[.val (.int x0), .val (.int x1), .val (.int x2), .unset, .unset, .unset, .unset, .unset, .unset, .unset, .unset, .unset, .unset, .unset, .unset, .unset, .unset, .unset] [] := by first | (simp [entryFrame, mkF, argsToLocals, Value.category, maxLocals]; done) | rfl
def QL (Z : State) (p0 : Int32) (p1 : Int32) (p2 : Int32) (G : Int32) (h0 : Heap) (n0 : Nat) (v : Option Value) (h : Heap) (L : List Loc) (vm : Vm) : Prop := v = some (.int 1) ∧ Fr n0 L
set_option maxRecDepth 65536 in
set_option maxHeartbeats 40000000 in
theorem rmL (l : Launch) (Z : State) (a0 : Array Value) (hw : ∀ d ∈ tables_1, d.before a0 Z = true) (ws : List Jvm.Cond) (p0 : Int32) (p1 : Int32) (p2 : Int32) (G : Int32) (h0 : Heap) (n0 : Nat) (Z0 : n0 ≤ h0.size) (SC : Sta Z Z.heap "java/lang/String" "COMPACT_STRINGS" "Z" (.int G)) (hG : ¬ (G = (0 : Int32))) (O0 : Old Z n0 h0) (hH : Jvm.Lit.constHeld Z "java/lang/String" 7) (hCW : Jvm.Lit.compactW.before a0 Z = true) :
    MetFree l x (head1 (Jvm.Cond.code x code maxLocals ret :: ws) room_1) (fun as_ U => as_ = #[(.int p0), (.int p1), (.int p2)] ∧ Z.Warmed39 U.vm ∧ U.heap = h0 ∧ (own_J Z h0) U.vm) (fun _ _ _ _ _ => True) (fun _ U o U' => ∃ v L, o = .returned v ∧ QL Z p0 p1 p2 G h0 n0 v U'.heap L U'.vm ∧ ReturnedEndW U o U' L 12 30) := by
  refine MetFree.of_bodySF (plainFor_of_name pn_4) hisR ?_
  intro p e s m args below meth c s₁ Bd hml0 hP hK
  obtain ⟨rfl, hZ, hh, hJ0⟩ := hP
  have hx := Bd.exec
  have hby := Bd.bytes
  have hml : c.maxLocals = 18 := hml0
  have hown : s.vm.findClass "com/example/caskwright/caskwright/io/ViewEntryVersionedPinLaw" = some m.cls := findClass_of_methodNamed Bd.named
  have hnm := (name_of_methodNamed Bd.named Bd.method).1
  have X0 : Stand p l e room_1 (s.setVm s.vm) m #[(.int p0), (.int p1), (.int p2)] below meth c s₁ [] 0 0 := Stand.of_body Bd
  have e0 : s₁.heap = h0 := by rw [← hh, Bd.state]; rfl
  have N0 := Fr.nil n0
  obtain ⟨E0, hE0⟩ : ∃ z, z = s₁.setTop (entryFrame m #[(.int p0), (.int p1), (.int p2)] maxLocals) := ⟨_, rfl⟩
  rw [← hE0]
  have go0 : ∀ tgt, Steps p.tables e below (s₁.setTop (mkF m 0 #[.val (.int p0), .val (.int p1), .val (.int p2), .unset, .unset, .unset, .unset, .unset, .unset, .unset, .unset, .unset, .unset, .unset, .unset, .unset, .unset, .unset] [])) tgt → Steps p.tables e below E0 tgt := fun tgt kont => by rw [hE0]; exact castTop (ef_L m p0 p1 p2) kont
  have hS0 : s.Since s.vm h0.size := (State.WarmedH.refl s).since _
  have hk0 : h0.size ≤ h0.size := Nat.le_refl _
  have hwS : ∀ a ∈ Bundle.stringAtoms, a.before a0 Z = true := fun d hd => hw d ((by decide +kernel : ∀ d ∈ Bundle.stringAtoms, d ∈ tables_1) d hd)
  have go1 : ∀ tgt, Steps p.tables e below (s₁.setTop (mkF m 16 #[.val (.int p0), .val (.int p1), .val (.int p2), .val (.int (p2 &&& (3 : Int32))), .val (.int (((p2.toUInt32 >>> ((2 : Int32) &&& 31).toUInt32).toInt32) &&& (3 : Int32))), .unset, .unset, .unset, .unset, .unset, .unset, .unset, .unset, .unset, .unset, .unset, .unset, .unset] [(.int (((p2.toUInt32 >>> ((4 : Int32) &&& 31).toUInt32).toInt32) &&& (1 : Int32)))])) tgt → Steps p.tables e below E0 tgt := fun tgt kont => go0 tgt (by
    show Steps p.tables e below (s₁.setTop (mkF m 0 #[.val (.int p0), .val (.int p1), .val (.int p2), .unset, .unset, .unset, .unset, .unset, .unset, .unset, .unset, .unset, .unset, .unset, .unset, .unset, .unset, .unset] [])) tgt
    refine XS.iloadN X0.here hx rfl (hb hby at_0) rfl ?_
    show Steps p.tables e below (s₁.setTop (mkF m 1 #[.val (.int p0), .val (.int p1), .val (.int p2), .unset, .unset, .unset, .unset, .unset, .unset, .unset, .unset, .unset, .unset, .unset, .unset, .unset, .unset, .unset] [(.int p2)])) tgt
    refine XS.iconst X0.here hx rfl (hb hby at_1) ?_
    show Steps p.tables e below (s₁.setTop (mkF m 2 #[.val (.int p0), .val (.int p1), .val (.int p2), .unset, .unset, .unset, .unset, .unset, .unset, .unset, .unset, .unset, .unset, .unset, .unset, .unset, .unset, .unset] [(.int (3 : Int32)), (.int p2)])) tgt
    refine XS.iand X0.here hx rfl (hb hby at_2) rfl ?_
    show Steps p.tables e below (s₁.setTop (mkF m 3 #[.val (.int p0), .val (.int p1), .val (.int p2), .unset, .unset, .unset, .unset, .unset, .unset, .unset, .unset, .unset, .unset, .unset, .unset, .unset, .unset, .unset] [(.int (p2 &&& (3 : Int32)))])) tgt
    refine XS.istoreN X0.here hx rfl (hb hby at_3) rfl (l' := #[.val (.int p0), .val (.int p1), .val (.int p2), .val (.int (p2 &&& (3 : Int32))), .unset, .unset, .unset, .unset, .unset, .unset, .unset, .unset, .unset, .unset, .unset, .unset, .unset, .unset]) rfl ?_
    show Steps p.tables e below (s₁.setTop (mkF m 4 #[.val (.int p0), .val (.int p1), .val (.int p2), .val (.int (p2 &&& (3 : Int32))), .unset, .unset, .unset, .unset, .unset, .unset, .unset, .unset, .unset, .unset, .unset, .unset, .unset, .unset] [])) tgt
    refine XS.iloadN X0.here hx rfl (hb hby at_4) rfl ?_
    show Steps p.tables e below (s₁.setTop (mkF m 5 #[.val (.int p0), .val (.int p1), .val (.int p2), .val (.int (p2 &&& (3 : Int32))), .unset, .unset, .unset, .unset, .unset, .unset, .unset, .unset, .unset, .unset, .unset, .unset, .unset, .unset] [(.int p2)])) tgt
    refine XS.iconst X0.here hx rfl (hb hby at_5) ?_
    show Steps p.tables e below (s₁.setTop (mkF m 6 #[.val (.int p0), .val (.int p1), .val (.int p2), .val (.int (p2 &&& (3 : Int32))), .unset, .unset, .unset, .unset, .unset, .unset, .unset, .unset, .unset, .unset, .unset, .unset, .unset, .unset] [(.int (2 : Int32)), (.int p2)])) tgt
    refine XS.iushr X0.here hx rfl (hb hby at_6) rfl ?_
    show Steps p.tables e below (s₁.setTop (mkF m 7 #[.val (.int p0), .val (.int p1), .val (.int p2), .val (.int (p2 &&& (3 : Int32))), .unset, .unset, .unset, .unset, .unset, .unset, .unset, .unset, .unset, .unset, .unset, .unset, .unset, .unset] [(.int ((p2.toUInt32 >>> ((2 : Int32) &&& 31).toUInt32).toInt32))])) tgt
    refine XS.iconst X0.here hx rfl (hb hby at_7) ?_
    show Steps p.tables e below (s₁.setTop (mkF m 8 #[.val (.int p0), .val (.int p1), .val (.int p2), .val (.int (p2 &&& (3 : Int32))), .unset, .unset, .unset, .unset, .unset, .unset, .unset, .unset, .unset, .unset, .unset, .unset, .unset, .unset] [(.int (3 : Int32)), (.int ((p2.toUInt32 >>> ((2 : Int32) &&& 31).toUInt32).toInt32))])) tgt
    refine XS.iand X0.here hx rfl (hb hby at_8) rfl ?_
    show Steps p.tables e below (s₁.setTop (mkF m 9 #[.val (.int p0), .val (.int p1), .val (.int p2), .val (.int (p2 &&& (3 : Int32))), .unset, .unset, .unset, .unset, .unset, .unset, .unset, .unset, .unset, .unset, .unset, .unset, .unset, .unset] [(.int (((p2.toUInt32 >>> ((2 : Int32) &&& 31).toUInt32).toInt32) &&& (3 : Int32)))])) tgt
    refine XS.istore X0.here hx rfl (hb hby at_9) rfl (l' := #[.val (.int p0), .val (.int p1), .val (.int p2), .val (.int (p2 &&& (3 : Int32))), .val (.int (((p2.toUInt32 >>> ((2 : Int32) &&& 31).toUInt32).toInt32) &&& (3 : Int32))), .unset, .unset, .unset, .unset, .unset, .unset, .unset, .unset, .unset, .unset, .unset, .unset, .unset]) rfl ?_
    show Steps p.tables e below (s₁.setTop (mkF m 11 #[.val (.int p0), .val (.int p1), .val (.int p2), .val (.int (p2 &&& (3 : Int32))), .val (.int (((p2.toUInt32 >>> ((2 : Int32) &&& 31).toUInt32).toInt32) &&& (3 : Int32))), .unset, .unset, .unset, .unset, .unset, .unset, .unset, .unset, .unset, .unset, .unset, .unset, .unset] [])) tgt
    refine XS.iloadN X0.here hx rfl (hb hby at_11) rfl ?_
    show Steps p.tables e below (s₁.setTop (mkF m 12 #[.val (.int p0), .val (.int p1), .val (.int p2), .val (.int (p2 &&& (3 : Int32))), .val (.int (((p2.toUInt32 >>> ((2 : Int32) &&& 31).toUInt32).toInt32) &&& (3 : Int32))), .unset, .unset, .unset, .unset, .unset, .unset, .unset, .unset, .unset, .unset, .unset, .unset, .unset] [(.int p2)])) tgt
    refine XS.iconst X0.here hx rfl (hb hby at_12) ?_
    show Steps p.tables e below (s₁.setTop (mkF m 13 #[.val (.int p0), .val (.int p1), .val (.int p2), .val (.int (p2 &&& (3 : Int32))), .val (.int (((p2.toUInt32 >>> ((2 : Int32) &&& 31).toUInt32).toInt32) &&& (3 : Int32))), .unset, .unset, .unset, .unset, .unset, .unset, .unset, .unset, .unset, .unset, .unset, .unset, .unset] [(.int (4 : Int32)), (.int p2)])) tgt
    refine XS.iushr X0.here hx rfl (hb hby at_13) rfl ?_
    show Steps p.tables e below (s₁.setTop (mkF m 14 #[.val (.int p0), .val (.int p1), .val (.int p2), .val (.int (p2 &&& (3 : Int32))), .val (.int (((p2.toUInt32 >>> ((2 : Int32) &&& 31).toUInt32).toInt32) &&& (3 : Int32))), .unset, .unset, .unset, .unset, .unset, .unset, .unset, .unset, .unset, .unset, .unset, .unset, .unset] [(.int ((p2.toUInt32 >>> ((4 : Int32) &&& 31).toUInt32).toInt32))])) tgt
    refine XS.iconst X0.here hx rfl (hb hby at_14) ?_
    show Steps p.tables e below (s₁.setTop (mkF m 15 #[.val (.int p0), .val (.int p1), .val (.int p2), .val (.int (p2 &&& (3 : Int32))), .val (.int (((p2.toUInt32 >>> ((2 : Int32) &&& 31).toUInt32).toInt32) &&& (3 : Int32))), .unset, .unset, .unset, .unset, .unset, .unset, .unset, .unset, .unset, .unset, .unset, .unset, .unset] [(.int (1 : Int32)), (.int ((p2.toUInt32 >>> ((4 : Int32) &&& 31).toUInt32).toInt32))])) tgt
    refine XS.iand X0.here hx rfl (hb hby at_15) rfl ?_
    exact kont)
  obtain ⟨v3, hv3⟩ : ∃ z : Int32, z = (p2 &&& (3 : Int32)) := ⟨_, rfl⟩
  have go2 : ∀ tgt, Steps p.tables e below (s₁.setTop (mkF m 16 #[.val (.int p0), .val (.int p1), .val (.int p2), .val (.int v3), .val (.int (((p2.toUInt32 >>> ((2 : Int32) &&& 31).toUInt32).toInt32) &&& (3 : Int32))), .unset, .unset, .unset, .unset, .unset, .unset, .unset, .unset, .unset, .unset, .unset, .unset, .unset] [(.int (((p2.toUInt32 >>> ((4 : Int32) &&& 31).toUInt32).toInt32) &&& (1 : Int32)))])) tgt → Steps p.tables e below E0 tgt := fun tgt kont => go1 tgt (by
    rw [hv3] at kont
    exact kont)
  have r3 : v3 = 0 ∨ v3 = 1 ∨ v3 = 2 ∨ v3 = 3 := by rw [hv3]; exact own_m4 _
  obtain ⟨v4, hv4⟩ : ∃ z : Int32, z = (((p2.toUInt32 >>> ((2 : Int32) &&& 31).toUInt32).toInt32) &&& (3 : Int32)) := ⟨_, rfl⟩
  have go3 : ∀ tgt, Steps p.tables e below (s₁.setTop (mkF m 16 #[.val (.int p0), .val (.int p1), .val (.int p2), .val (.int v3), .val (.int v4), .unset, .unset, .unset, .unset, .unset, .unset, .unset, .unset, .unset, .unset, .unset, .unset, .unset] [(.int (((p2.toUInt32 >>> ((4 : Int32) &&& 31).toUInt32).toInt32) &&& (1 : Int32)))])) tgt → Steps p.tables e below E0 tgt := fun tgt kont => go2 tgt (by
    rw [hv4] at kont
    exact kont)
  have r4 : v4 = 0 ∨ v4 = 1 ∨ v4 = 2 ∨ v4 = 3 := by rw [hv4]; exact own_m4 _
  obtain ⟨b5, hb5, go4⟩ : ∃ b5 : Int32, (True) ∧ ∀ tgt, Steps p.tables e below (s₁.setTop (mkF m 26 #[.val (.int p0), .val (.int p1), .val (.int p2), .val (.int v3), .val (.int v4), .val (.int b5), .unset, .unset, .unset, .unset, .unset, .unset, .unset, .unset, .unset, .unset, .unset, .unset] [])) tgt → Steps p.tables e below E0 tgt := by
    by_cases hc : (((p2.toUInt32 >>> ((4 : Int32) &&& 31).toUInt32).toInt32) &&& (1 : Int32)) = (0 : Int32)
    · exact ⟨(0 : Int32), trivial, fun tgt kont => go3 tgt (by
        show Steps p.tables e below (s₁.setTop (mkF m 16 #[.val (.int p0), .val (.int p1), .val (.int p2), .val (.int v3), .val (.int v4), .unset, .unset, .unset, .unset, .unset, .unset, .unset, .unset, .unset, .unset, .unset, .unset, .unset] [(.int (((p2.toUInt32 >>> ((4 : Int32) &&& 31).toUInt32).toInt32) &&& (1 : Int32)))])) tgt
        refine XS.ifYes X0.here hx rfl (pc0 := 16) (pc' := 23) rfl (hb hby at_16) rfl ((if0 _ _).trans (teq hc).1) (by decide) (by decide) ?_
        show Steps p.tables e below (s₁.setTop (mkF m 23 #[.val (.int p0), .val (.int p1), .val (.int p2), .val (.int v3), .val (.int v4), .unset, .unset, .unset, .unset, .unset, .unset, .unset, .unset, .unset, .unset, .unset, .unset, .unset] [])) tgt
        refine XS.iconst X0.here hx rfl (hb hby at_23) ?_
        show Steps p.tables e below (s₁.setTop (mkF m 24 #[.val (.int p0), .val (.int p1), .val (.int p2), .val (.int v3), .val (.int v4), .unset, .unset, .unset, .unset, .unset, .unset, .unset, .unset, .unset, .unset, .unset, .unset, .unset] [(.int (0 : Int32))])) tgt
        refine XS.istore X0.here hx rfl (hb hby at_24) rfl (l' := #[.val (.int p0), .val (.int p1), .val (.int p2), .val (.int v3), .val (.int v4), .val (.int (0 : Int32)), .unset, .unset, .unset, .unset, .unset, .unset, .unset, .unset, .unset, .unset, .unset, .unset]) rfl ?_
        exact kont)⟩
    · exact ⟨(1 : Int32), trivial, fun tgt kont => go3 tgt (by
        show Steps p.tables e below (s₁.setTop (mkF m 16 #[.val (.int p0), .val (.int p1), .val (.int p2), .val (.int v3), .val (.int v4), .unset, .unset, .unset, .unset, .unset, .unset, .unset, .unset, .unset, .unset, .unset, .unset, .unset] [(.int (((p2.toUInt32 >>> ((4 : Int32) &&& 31).toUInt32).toInt32) &&& (1 : Int32)))])) tgt
        refine XS.ifNo X0.here hx rfl (hb hby at_16) rfl ((if0 _ _).trans (feq hc).1) ?_
        show Steps p.tables e below (s₁.setTop (mkF m 19 #[.val (.int p0), .val (.int p1), .val (.int p2), .val (.int v3), .val (.int v4), .unset, .unset, .unset, .unset, .unset, .unset, .unset, .unset, .unset, .unset, .unset, .unset, .unset] [])) tgt
        refine XS.iconst X0.here hx rfl (hb hby at_19) ?_
        show Steps p.tables e below (s₁.setTop (mkF m 20 #[.val (.int p0), .val (.int p1), .val (.int p2), .val (.int v3), .val (.int v4), .unset, .unset, .unset, .unset, .unset, .unset, .unset, .unset, .unset, .unset, .unset, .unset, .unset] [(.int (1 : Int32))])) tgt
        refine XS.goto X0.here hx rfl (pc0 := 20) (pc' := 24) rfl (hb hby at_20) (by decide) (by decide) ?_
        show Steps p.tables e below (s₁.setTop (mkF m 24 #[.val (.int p0), .val (.int p1), .val (.int p2), .val (.int v3), .val (.int v4), .unset, .unset, .unset, .unset, .unset, .unset, .unset, .unset, .unset, .unset, .unset, .unset, .unset] [(.int (1 : Int32))])) tgt
        refine XS.istore X0.here hx rfl (hb hby at_24) rfl (l' := #[.val (.int p0), .val (.int p1), .val (.int p2), .val (.int v3), .val (.int v4), .val (.int (1 : Int32)), .unset, .unset, .unset, .unset, .unset, .unset, .unset, .unset, .unset, .unset, .unset, .unset]) rfl ?_
        exact kont)⟩
  have go5 : ∀ tgt, Steps p.tables e below (s₁.setTop (mkF m 31 #[.val (.int p0), .val (.int p1), .val (.int p2), .val (.int v3), .val (.int v4), .val (.int b5), .unset, .unset, .unset, .unset, .unset, .unset, .unset, .unset, .unset, .unset, .unset, .unset] [(.int (((p2.toUInt32 >>> ((5 : Int32) &&& 31).toUInt32).toInt32) &&& (1 : Int32)))])) tgt → Steps p.tables e below E0 tgt := fun tgt kont => go4 tgt (by
    show Steps p.tables e below (s₁.setTop (mkF m 26 #[.val (.int p0), .val (.int p1), .val (.int p2), .val (.int v3), .val (.int v4), .val (.int b5), .unset, .unset, .unset, .unset, .unset, .unset, .unset, .unset, .unset, .unset, .unset, .unset] [])) tgt
    refine XS.iloadN X0.here hx rfl (hb hby at_26) rfl ?_
    show Steps p.tables e below (s₁.setTop (mkF m 27 #[.val (.int p0), .val (.int p1), .val (.int p2), .val (.int v3), .val (.int v4), .val (.int b5), .unset, .unset, .unset, .unset, .unset, .unset, .unset, .unset, .unset, .unset, .unset, .unset] [(.int p2)])) tgt
    refine XS.iconst X0.here hx rfl (hb hby at_27) ?_
    show Steps p.tables e below (s₁.setTop (mkF m 28 #[.val (.int p0), .val (.int p1), .val (.int p2), .val (.int v3), .val (.int v4), .val (.int b5), .unset, .unset, .unset, .unset, .unset, .unset, .unset, .unset, .unset, .unset, .unset, .unset] [(.int (5 : Int32)), (.int p2)])) tgt
    refine XS.iushr X0.here hx rfl (hb hby at_28) rfl ?_
    show Steps p.tables e below (s₁.setTop (mkF m 29 #[.val (.int p0), .val (.int p1), .val (.int p2), .val (.int v3), .val (.int v4), .val (.int b5), .unset, .unset, .unset, .unset, .unset, .unset, .unset, .unset, .unset, .unset, .unset, .unset] [(.int ((p2.toUInt32 >>> ((5 : Int32) &&& 31).toUInt32).toInt32))])) tgt
    refine XS.iconst X0.here hx rfl (hb hby at_29) ?_
    show Steps p.tables e below (s₁.setTop (mkF m 30 #[.val (.int p0), .val (.int p1), .val (.int p2), .val (.int v3), .val (.int v4), .val (.int b5), .unset, .unset, .unset, .unset, .unset, .unset, .unset, .unset, .unset, .unset, .unset, .unset] [(.int (1 : Int32)), (.int ((p2.toUInt32 >>> ((5 : Int32) &&& 31).toUInt32).toInt32))])) tgt
    refine XS.iand X0.here hx rfl (hb hby at_30) rfl ?_
    exact kont)
  obtain ⟨b6, hb6, go6⟩ : ∃ b6 : Int32, (True) ∧ ∀ tgt, Steps p.tables e below (s₁.setTop (mkF m 41 #[.val (.int p0), .val (.int p1), .val (.int p2), .val (.int v3), .val (.int v4), .val (.int b5), .val (.int b6), .unset, .unset, .unset, .unset, .unset, .unset, .unset, .unset, .unset, .unset, .unset] [])) tgt → Steps p.tables e below E0 tgt := by
    by_cases hc : (((p2.toUInt32 >>> ((5 : Int32) &&& 31).toUInt32).toInt32) &&& (1 : Int32)) = (0 : Int32)
    · exact ⟨(0 : Int32), trivial, fun tgt kont => go5 tgt (by
        show Steps p.tables e below (s₁.setTop (mkF m 31 #[.val (.int p0), .val (.int p1), .val (.int p2), .val (.int v3), .val (.int v4), .val (.int b5), .unset, .unset, .unset, .unset, .unset, .unset, .unset, .unset, .unset, .unset, .unset, .unset] [(.int (((p2.toUInt32 >>> ((5 : Int32) &&& 31).toUInt32).toInt32) &&& (1 : Int32)))])) tgt
        refine XS.ifYes X0.here hx rfl (pc0 := 31) (pc' := 38) rfl (hb hby at_31) rfl ((if0 _ _).trans (teq hc).1) (by decide) (by decide) ?_
        show Steps p.tables e below (s₁.setTop (mkF m 38 #[.val (.int p0), .val (.int p1), .val (.int p2), .val (.int v3), .val (.int v4), .val (.int b5), .unset, .unset, .unset, .unset, .unset, .unset, .unset, .unset, .unset, .unset, .unset, .unset] [])) tgt
        refine XS.iconst X0.here hx rfl (hb hby at_38) ?_
        show Steps p.tables e below (s₁.setTop (mkF m 39 #[.val (.int p0), .val (.int p1), .val (.int p2), .val (.int v3), .val (.int v4), .val (.int b5), .unset, .unset, .unset, .unset, .unset, .unset, .unset, .unset, .unset, .unset, .unset, .unset] [(.int (0 : Int32))])) tgt
        refine XS.istore X0.here hx rfl (hb hby at_39) rfl (l' := #[.val (.int p0), .val (.int p1), .val (.int p2), .val (.int v3), .val (.int v4), .val (.int b5), .val (.int (0 : Int32)), .unset, .unset, .unset, .unset, .unset, .unset, .unset, .unset, .unset, .unset, .unset]) rfl ?_
        exact kont)⟩
    · exact ⟨(1 : Int32), trivial, fun tgt kont => go5 tgt (by
        show Steps p.tables e below (s₁.setTop (mkF m 31 #[.val (.int p0), .val (.int p1), .val (.int p2), .val (.int v3), .val (.int v4), .val (.int b5), .unset, .unset, .unset, .unset, .unset, .unset, .unset, .unset, .unset, .unset, .unset, .unset] [(.int (((p2.toUInt32 >>> ((5 : Int32) &&& 31).toUInt32).toInt32) &&& (1 : Int32)))])) tgt
        refine XS.ifNo X0.here hx rfl (hb hby at_31) rfl ((if0 _ _).trans (feq hc).1) ?_
        show Steps p.tables e below (s₁.setTop (mkF m 34 #[.val (.int p0), .val (.int p1), .val (.int p2), .val (.int v3), .val (.int v4), .val (.int b5), .unset, .unset, .unset, .unset, .unset, .unset, .unset, .unset, .unset, .unset, .unset, .unset] [])) tgt
        refine XS.iconst X0.here hx rfl (hb hby at_34) ?_
        show Steps p.tables e below (s₁.setTop (mkF m 35 #[.val (.int p0), .val (.int p1), .val (.int p2), .val (.int v3), .val (.int v4), .val (.int b5), .unset, .unset, .unset, .unset, .unset, .unset, .unset, .unset, .unset, .unset, .unset, .unset] [(.int (1 : Int32))])) tgt
        refine XS.goto X0.here hx rfl (pc0 := 35) (pc' := 39) rfl (hb hby at_35) (by decide) (by decide) ?_
        show Steps p.tables e below (s₁.setTop (mkF m 39 #[.val (.int p0), .val (.int p1), .val (.int p2), .val (.int v3), .val (.int v4), .val (.int b5), .unset, .unset, .unset, .unset, .unset, .unset, .unset, .unset, .unset, .unset, .unset, .unset] [(.int (1 : Int32))])) tgt
        refine XS.istore X0.here hx rfl (hb hby at_39) rfl (l' := #[.val (.int p0), .val (.int p1), .val (.int p2), .val (.int v3), .val (.int v4), .val (.int b5), .val (.int (1 : Int32)), .unset, .unset, .unset, .unset, .unset, .unset, .unset, .unset, .unset, .unset, .unset]) rfl ?_
        exact kont)⟩
  obtain ⟨v7, hv7⟩ : ∃ z : Int32, z = ((p0 &&& (255 : Int32)).toUInt32.toUInt16.toUInt32.toInt32) := ⟨_, rfl⟩
  have go7 : ∀ tgt, Steps p.tables e below (s₁.setTop (mkF m 101 #[.val (.int p0), .val (.int p1), .val (.int p2), .val (.int v3), .val (.int v4), .val (.int b5), .val (.int b6), .val (.int v7), .val (.int ((((p0.toUInt32 >>> ((8 : Int32) &&& 31).toUInt32).toInt32) &&& (255 : Int32)).toUInt32.toUInt16.toUInt32.toInt32)), .val (.int ((((p0.toUInt32 >>> ((16 : Int32) &&& 31).toUInt32).toInt32) &&& (255 : Int32)).toUInt32.toUInt16.toUInt32.toInt32)), .val (.int ((p1 &&& (255 : Int32)).toUInt32.toUInt16.toUInt32.toInt32)), .val (.int ((((p1.toUInt32 >>> ((8 : Int32) &&& 31).toUInt32).toInt32) &&& (255 : Int32)).toUInt32.toUInt16.toUInt32.toInt32)), .val (.int ((((p1.toUInt32 >>> ((16 : Int32) &&& 31).toUInt32).toInt32) &&& (255 : Int32)).toUInt32.toUInt16.toUInt32.toInt32)), .unset, .unset, .unset, .unset, .unset] [])) tgt → Steps p.tables e below E0 tgt := fun tgt kont => go6 tgt (by
    rw [hv7] at kont
    show Steps p.tables e below (s₁.setTop (mkF m 41 #[.val (.int p0), .val (.int p1), .val (.int p2), .val (.int v3), .val (.int v4), .val (.int b5), .val (.int b6), .unset, .unset, .unset, .unset, .unset, .unset, .unset, .unset, .unset, .unset, .unset] [])) tgt
    refine XS.iloadN X0.here hx rfl (hb hby at_41) rfl ?_
    show Steps p.tables e below (s₁.setTop (mkF m 42 #[.val (.int p0), .val (.int p1), .val (.int p2), .val (.int v3), .val (.int v4), .val (.int b5), .val (.int b6), .unset, .unset, .unset, .unset, .unset, .unset, .unset, .unset, .unset, .unset, .unset] [(.int p0)])) tgt
    refine XS.sipush X0.here hx rfl (hb hby at_42) ?_
    show Steps p.tables e below (s₁.setTop (mkF m 45 #[.val (.int p0), .val (.int p1), .val (.int p2), .val (.int v3), .val (.int v4), .val (.int b5), .val (.int b6), .unset, .unset, .unset, .unset, .unset, .unset, .unset, .unset, .unset, .unset, .unset] [(.int (255 : Int32)), (.int p0)])) tgt
    refine XS.iand X0.here hx rfl (hb hby at_45) rfl ?_
    show Steps p.tables e below (s₁.setTop (mkF m 46 #[.val (.int p0), .val (.int p1), .val (.int p2), .val (.int v3), .val (.int v4), .val (.int b5), .val (.int b6), .unset, .unset, .unset, .unset, .unset, .unset, .unset, .unset, .unset, .unset, .unset] [(.int (p0 &&& (255 : Int32)))])) tgt
    refine XS.i2c X0.here hx rfl (hb hby at_46) rfl ?_
    show Steps p.tables e below (s₁.setTop (mkF m 47 #[.val (.int p0), .val (.int p1), .val (.int p2), .val (.int v3), .val (.int v4), .val (.int b5), .val (.int b6), .unset, .unset, .unset, .unset, .unset, .unset, .unset, .unset, .unset, .unset, .unset] [(.int ((p0 &&& (255 : Int32)).toUInt32.toUInt16.toUInt32.toInt32))])) tgt
    refine XS.istore X0.here hx rfl (hb hby at_47) rfl (l' := #[.val (.int p0), .val (.int p1), .val (.int p2), .val (.int v3), .val (.int v4), .val (.int b5), .val (.int b6), .val (.int ((p0 &&& (255 : Int32)).toUInt32.toUInt16.toUInt32.toInt32)), .unset, .unset, .unset, .unset, .unset, .unset, .unset, .unset, .unset, .unset]) rfl ?_
    show Steps p.tables e below (s₁.setTop (mkF m 49 #[.val (.int p0), .val (.int p1), .val (.int p2), .val (.int v3), .val (.int v4), .val (.int b5), .val (.int b6), .val (.int ((p0 &&& (255 : Int32)).toUInt32.toUInt16.toUInt32.toInt32)), .unset, .unset, .unset, .unset, .unset, .unset, .unset, .unset, .unset, .unset] [])) tgt
    refine XS.iloadN X0.here hx rfl (hb hby at_49) rfl ?_
    show Steps p.tables e below (s₁.setTop (mkF m 50 #[.val (.int p0), .val (.int p1), .val (.int p2), .val (.int v3), .val (.int v4), .val (.int b5), .val (.int b6), .val (.int ((p0 &&& (255 : Int32)).toUInt32.toUInt16.toUInt32.toInt32)), .unset, .unset, .unset, .unset, .unset, .unset, .unset, .unset, .unset, .unset] [(.int p0)])) tgt
    refine XS.bipush X0.here hx rfl (hb hby at_50) ?_
    show Steps p.tables e below (s₁.setTop (mkF m 52 #[.val (.int p0), .val (.int p1), .val (.int p2), .val (.int v3), .val (.int v4), .val (.int b5), .val (.int b6), .val (.int ((p0 &&& (255 : Int32)).toUInt32.toUInt16.toUInt32.toInt32)), .unset, .unset, .unset, .unset, .unset, .unset, .unset, .unset, .unset, .unset] [(.int (8 : Int32)), (.int p0)])) tgt
    refine XS.iushr X0.here hx rfl (hb hby at_52) rfl ?_
    show Steps p.tables e below (s₁.setTop (mkF m 53 #[.val (.int p0), .val (.int p1), .val (.int p2), .val (.int v3), .val (.int v4), .val (.int b5), .val (.int b6), .val (.int ((p0 &&& (255 : Int32)).toUInt32.toUInt16.toUInt32.toInt32)), .unset, .unset, .unset, .unset, .unset, .unset, .unset, .unset, .unset, .unset] [(.int ((p0.toUInt32 >>> ((8 : Int32) &&& 31).toUInt32).toInt32))])) tgt
    refine XS.sipush X0.here hx rfl (hb hby at_53) ?_
    show Steps p.tables e below (s₁.setTop (mkF m 56 #[.val (.int p0), .val (.int p1), .val (.int p2), .val (.int v3), .val (.int v4), .val (.int b5), .val (.int b6), .val (.int ((p0 &&& (255 : Int32)).toUInt32.toUInt16.toUInt32.toInt32)), .unset, .unset, .unset, .unset, .unset, .unset, .unset, .unset, .unset, .unset] [(.int (255 : Int32)), (.int ((p0.toUInt32 >>> ((8 : Int32) &&& 31).toUInt32).toInt32))])) tgt
    refine XS.iand X0.here hx rfl (hb hby at_56) rfl ?_
    show Steps p.tables e below (s₁.setTop (mkF m 57 #[.val (.int p0), .val (.int p1), .val (.int p2), .val (.int v3), .val (.int v4), .val (.int b5), .val (.int b6), .val (.int ((p0 &&& (255 : Int32)).toUInt32.toUInt16.toUInt32.toInt32)), .unset, .unset, .unset, .unset, .unset, .unset, .unset, .unset, .unset, .unset] [(.int (((p0.toUInt32 >>> ((8 : Int32) &&& 31).toUInt32).toInt32) &&& (255 : Int32)))])) tgt
    refine XS.i2c X0.here hx rfl (hb hby at_57) rfl ?_
    show Steps p.tables e below (s₁.setTop (mkF m 58 #[.val (.int p0), .val (.int p1), .val (.int p2), .val (.int v3), .val (.int v4), .val (.int b5), .val (.int b6), .val (.int ((p0 &&& (255 : Int32)).toUInt32.toUInt16.toUInt32.toInt32)), .unset, .unset, .unset, .unset, .unset, .unset, .unset, .unset, .unset, .unset] [(.int ((((p0.toUInt32 >>> ((8 : Int32) &&& 31).toUInt32).toInt32) &&& (255 : Int32)).toUInt32.toUInt16.toUInt32.toInt32))])) tgt
    refine XS.istore X0.here hx rfl (hb hby at_58) rfl (l' := #[.val (.int p0), .val (.int p1), .val (.int p2), .val (.int v3), .val (.int v4), .val (.int b5), .val (.int b6), .val (.int ((p0 &&& (255 : Int32)).toUInt32.toUInt16.toUInt32.toInt32)), .val (.int ((((p0.toUInt32 >>> ((8 : Int32) &&& 31).toUInt32).toInt32) &&& (255 : Int32)).toUInt32.toUInt16.toUInt32.toInt32)), .unset, .unset, .unset, .unset, .unset, .unset, .unset, .unset, .unset]) rfl ?_
    show Steps p.tables e below (s₁.setTop (mkF m 60 #[.val (.int p0), .val (.int p1), .val (.int p2), .val (.int v3), .val (.int v4), .val (.int b5), .val (.int b6), .val (.int ((p0 &&& (255 : Int32)).toUInt32.toUInt16.toUInt32.toInt32)), .val (.int ((((p0.toUInt32 >>> ((8 : Int32) &&& 31).toUInt32).toInt32) &&& (255 : Int32)).toUInt32.toUInt16.toUInt32.toInt32)), .unset, .unset, .unset, .unset, .unset, .unset, .unset, .unset, .unset] [])) tgt
    refine XS.iloadN X0.here hx rfl (hb hby at_60) rfl ?_
    show Steps p.tables e below (s₁.setTop (mkF m 61 #[.val (.int p0), .val (.int p1), .val (.int p2), .val (.int v3), .val (.int v4), .val (.int b5), .val (.int b6), .val (.int ((p0 &&& (255 : Int32)).toUInt32.toUInt16.toUInt32.toInt32)), .val (.int ((((p0.toUInt32 >>> ((8 : Int32) &&& 31).toUInt32).toInt32) &&& (255 : Int32)).toUInt32.toUInt16.toUInt32.toInt32)), .unset, .unset, .unset, .unset, .unset, .unset, .unset, .unset, .unset] [(.int p0)])) tgt
    refine XS.bipush X0.here hx rfl (hb hby at_61) ?_
    show Steps p.tables e below (s₁.setTop (mkF m 63 #[.val (.int p0), .val (.int p1), .val (.int p2), .val (.int v3), .val (.int v4), .val (.int b5), .val (.int b6), .val (.int ((p0 &&& (255 : Int32)).toUInt32.toUInt16.toUInt32.toInt32)), .val (.int ((((p0.toUInt32 >>> ((8 : Int32) &&& 31).toUInt32).toInt32) &&& (255 : Int32)).toUInt32.toUInt16.toUInt32.toInt32)), .unset, .unset, .unset, .unset, .unset, .unset, .unset, .unset, .unset] [(.int (16 : Int32)), (.int p0)])) tgt
    refine XS.iushr X0.here hx rfl (hb hby at_63) rfl ?_
    show Steps p.tables e below (s₁.setTop (mkF m 64 #[.val (.int p0), .val (.int p1), .val (.int p2), .val (.int v3), .val (.int v4), .val (.int b5), .val (.int b6), .val (.int ((p0 &&& (255 : Int32)).toUInt32.toUInt16.toUInt32.toInt32)), .val (.int ((((p0.toUInt32 >>> ((8 : Int32) &&& 31).toUInt32).toInt32) &&& (255 : Int32)).toUInt32.toUInt16.toUInt32.toInt32)), .unset, .unset, .unset, .unset, .unset, .unset, .unset, .unset, .unset] [(.int ((p0.toUInt32 >>> ((16 : Int32) &&& 31).toUInt32).toInt32))])) tgt
    refine XS.sipush X0.here hx rfl (hb hby at_64) ?_
    show Steps p.tables e below (s₁.setTop (mkF m 67 #[.val (.int p0), .val (.int p1), .val (.int p2), .val (.int v3), .val (.int v4), .val (.int b5), .val (.int b6), .val (.int ((p0 &&& (255 : Int32)).toUInt32.toUInt16.toUInt32.toInt32)), .val (.int ((((p0.toUInt32 >>> ((8 : Int32) &&& 31).toUInt32).toInt32) &&& (255 : Int32)).toUInt32.toUInt16.toUInt32.toInt32)), .unset, .unset, .unset, .unset, .unset, .unset, .unset, .unset, .unset] [(.int (255 : Int32)), (.int ((p0.toUInt32 >>> ((16 : Int32) &&& 31).toUInt32).toInt32))])) tgt
    refine XS.iand X0.here hx rfl (hb hby at_67) rfl ?_
    show Steps p.tables e below (s₁.setTop (mkF m 68 #[.val (.int p0), .val (.int p1), .val (.int p2), .val (.int v3), .val (.int v4), .val (.int b5), .val (.int b6), .val (.int ((p0 &&& (255 : Int32)).toUInt32.toUInt16.toUInt32.toInt32)), .val (.int ((((p0.toUInt32 >>> ((8 : Int32) &&& 31).toUInt32).toInt32) &&& (255 : Int32)).toUInt32.toUInt16.toUInt32.toInt32)), .unset, .unset, .unset, .unset, .unset, .unset, .unset, .unset, .unset] [(.int (((p0.toUInt32 >>> ((16 : Int32) &&& 31).toUInt32).toInt32) &&& (255 : Int32)))])) tgt
    refine XS.i2c X0.here hx rfl (hb hby at_68) rfl ?_
    show Steps p.tables e below (s₁.setTop (mkF m 69 #[.val (.int p0), .val (.int p1), .val (.int p2), .val (.int v3), .val (.int v4), .val (.int b5), .val (.int b6), .val (.int ((p0 &&& (255 : Int32)).toUInt32.toUInt16.toUInt32.toInt32)), .val (.int ((((p0.toUInt32 >>> ((8 : Int32) &&& 31).toUInt32).toInt32) &&& (255 : Int32)).toUInt32.toUInt16.toUInt32.toInt32)), .unset, .unset, .unset, .unset, .unset, .unset, .unset, .unset, .unset] [(.int ((((p0.toUInt32 >>> ((16 : Int32) &&& 31).toUInt32).toInt32) &&& (255 : Int32)).toUInt32.toUInt16.toUInt32.toInt32))])) tgt
    refine XS.istore X0.here hx rfl (hb hby at_69) rfl (l' := #[.val (.int p0), .val (.int p1), .val (.int p2), .val (.int v3), .val (.int v4), .val (.int b5), .val (.int b6), .val (.int ((p0 &&& (255 : Int32)).toUInt32.toUInt16.toUInt32.toInt32)), .val (.int ((((p0.toUInt32 >>> ((8 : Int32) &&& 31).toUInt32).toInt32) &&& (255 : Int32)).toUInt32.toUInt16.toUInt32.toInt32)), .val (.int ((((p0.toUInt32 >>> ((16 : Int32) &&& 31).toUInt32).toInt32) &&& (255 : Int32)).toUInt32.toUInt16.toUInt32.toInt32)), .unset, .unset, .unset, .unset, .unset, .unset, .unset, .unset]) rfl ?_
    show Steps p.tables e below (s₁.setTop (mkF m 71 #[.val (.int p0), .val (.int p1), .val (.int p2), .val (.int v3), .val (.int v4), .val (.int b5), .val (.int b6), .val (.int ((p0 &&& (255 : Int32)).toUInt32.toUInt16.toUInt32.toInt32)), .val (.int ((((p0.toUInt32 >>> ((8 : Int32) &&& 31).toUInt32).toInt32) &&& (255 : Int32)).toUInt32.toUInt16.toUInt32.toInt32)), .val (.int ((((p0.toUInt32 >>> ((16 : Int32) &&& 31).toUInt32).toInt32) &&& (255 : Int32)).toUInt32.toUInt16.toUInt32.toInt32)), .unset, .unset, .unset, .unset, .unset, .unset, .unset, .unset] [])) tgt
    refine XS.iloadN X0.here hx rfl (hb hby at_71) rfl ?_
    show Steps p.tables e below (s₁.setTop (mkF m 72 #[.val (.int p0), .val (.int p1), .val (.int p2), .val (.int v3), .val (.int v4), .val (.int b5), .val (.int b6), .val (.int ((p0 &&& (255 : Int32)).toUInt32.toUInt16.toUInt32.toInt32)), .val (.int ((((p0.toUInt32 >>> ((8 : Int32) &&& 31).toUInt32).toInt32) &&& (255 : Int32)).toUInt32.toUInt16.toUInt32.toInt32)), .val (.int ((((p0.toUInt32 >>> ((16 : Int32) &&& 31).toUInt32).toInt32) &&& (255 : Int32)).toUInt32.toUInt16.toUInt32.toInt32)), .unset, .unset, .unset, .unset, .unset, .unset, .unset, .unset] [(.int p1)])) tgt
    refine XS.sipush X0.here hx rfl (hb hby at_72) ?_
    show Steps p.tables e below (s₁.setTop (mkF m 75 #[.val (.int p0), .val (.int p1), .val (.int p2), .val (.int v3), .val (.int v4), .val (.int b5), .val (.int b6), .val (.int ((p0 &&& (255 : Int32)).toUInt32.toUInt16.toUInt32.toInt32)), .val (.int ((((p0.toUInt32 >>> ((8 : Int32) &&& 31).toUInt32).toInt32) &&& (255 : Int32)).toUInt32.toUInt16.toUInt32.toInt32)), .val (.int ((((p0.toUInt32 >>> ((16 : Int32) &&& 31).toUInt32).toInt32) &&& (255 : Int32)).toUInt32.toUInt16.toUInt32.toInt32)), .unset, .unset, .unset, .unset, .unset, .unset, .unset, .unset] [(.int (255 : Int32)), (.int p1)])) tgt
    refine XS.iand X0.here hx rfl (hb hby at_75) rfl ?_
    show Steps p.tables e below (s₁.setTop (mkF m 76 #[.val (.int p0), .val (.int p1), .val (.int p2), .val (.int v3), .val (.int v4), .val (.int b5), .val (.int b6), .val (.int ((p0 &&& (255 : Int32)).toUInt32.toUInt16.toUInt32.toInt32)), .val (.int ((((p0.toUInt32 >>> ((8 : Int32) &&& 31).toUInt32).toInt32) &&& (255 : Int32)).toUInt32.toUInt16.toUInt32.toInt32)), .val (.int ((((p0.toUInt32 >>> ((16 : Int32) &&& 31).toUInt32).toInt32) &&& (255 : Int32)).toUInt32.toUInt16.toUInt32.toInt32)), .unset, .unset, .unset, .unset, .unset, .unset, .unset, .unset] [(.int (p1 &&& (255 : Int32)))])) tgt
    refine XS.i2c X0.here hx rfl (hb hby at_76) rfl ?_
    show Steps p.tables e below (s₁.setTop (mkF m 77 #[.val (.int p0), .val (.int p1), .val (.int p2), .val (.int v3), .val (.int v4), .val (.int b5), .val (.int b6), .val (.int ((p0 &&& (255 : Int32)).toUInt32.toUInt16.toUInt32.toInt32)), .val (.int ((((p0.toUInt32 >>> ((8 : Int32) &&& 31).toUInt32).toInt32) &&& (255 : Int32)).toUInt32.toUInt16.toUInt32.toInt32)), .val (.int ((((p0.toUInt32 >>> ((16 : Int32) &&& 31).toUInt32).toInt32) &&& (255 : Int32)).toUInt32.toUInt16.toUInt32.toInt32)), .unset, .unset, .unset, .unset, .unset, .unset, .unset, .unset] [(.int ((p1 &&& (255 : Int32)).toUInt32.toUInt16.toUInt32.toInt32))])) tgt
    refine XS.istore X0.here hx rfl (hb hby at_77) rfl (l' := #[.val (.int p0), .val (.int p1), .val (.int p2), .val (.int v3), .val (.int v4), .val (.int b5), .val (.int b6), .val (.int ((p0 &&& (255 : Int32)).toUInt32.toUInt16.toUInt32.toInt32)), .val (.int ((((p0.toUInt32 >>> ((8 : Int32) &&& 31).toUInt32).toInt32) &&& (255 : Int32)).toUInt32.toUInt16.toUInt32.toInt32)), .val (.int ((((p0.toUInt32 >>> ((16 : Int32) &&& 31).toUInt32).toInt32) &&& (255 : Int32)).toUInt32.toUInt16.toUInt32.toInt32)), .val (.int ((p1 &&& (255 : Int32)).toUInt32.toUInt16.toUInt32.toInt32)), .unset, .unset, .unset, .unset, .unset, .unset, .unset]) rfl ?_
    show Steps p.tables e below (s₁.setTop (mkF m 79 #[.val (.int p0), .val (.int p1), .val (.int p2), .val (.int v3), .val (.int v4), .val (.int b5), .val (.int b6), .val (.int ((p0 &&& (255 : Int32)).toUInt32.toUInt16.toUInt32.toInt32)), .val (.int ((((p0.toUInt32 >>> ((8 : Int32) &&& 31).toUInt32).toInt32) &&& (255 : Int32)).toUInt32.toUInt16.toUInt32.toInt32)), .val (.int ((((p0.toUInt32 >>> ((16 : Int32) &&& 31).toUInt32).toInt32) &&& (255 : Int32)).toUInt32.toUInt16.toUInt32.toInt32)), .val (.int ((p1 &&& (255 : Int32)).toUInt32.toUInt16.toUInt32.toInt32)), .unset, .unset, .unset, .unset, .unset, .unset, .unset] [])) tgt
    refine XS.iloadN X0.here hx rfl (hb hby at_79) rfl ?_
    show Steps p.tables e below (s₁.setTop (mkF m 80 #[.val (.int p0), .val (.int p1), .val (.int p2), .val (.int v3), .val (.int v4), .val (.int b5), .val (.int b6), .val (.int ((p0 &&& (255 : Int32)).toUInt32.toUInt16.toUInt32.toInt32)), .val (.int ((((p0.toUInt32 >>> ((8 : Int32) &&& 31).toUInt32).toInt32) &&& (255 : Int32)).toUInt32.toUInt16.toUInt32.toInt32)), .val (.int ((((p0.toUInt32 >>> ((16 : Int32) &&& 31).toUInt32).toInt32) &&& (255 : Int32)).toUInt32.toUInt16.toUInt32.toInt32)), .val (.int ((p1 &&& (255 : Int32)).toUInt32.toUInt16.toUInt32.toInt32)), .unset, .unset, .unset, .unset, .unset, .unset, .unset] [(.int p1)])) tgt
    refine XS.bipush X0.here hx rfl (hb hby at_80) ?_
    show Steps p.tables e below (s₁.setTop (mkF m 82 #[.val (.int p0), .val (.int p1), .val (.int p2), .val (.int v3), .val (.int v4), .val (.int b5), .val (.int b6), .val (.int ((p0 &&& (255 : Int32)).toUInt32.toUInt16.toUInt32.toInt32)), .val (.int ((((p0.toUInt32 >>> ((8 : Int32) &&& 31).toUInt32).toInt32) &&& (255 : Int32)).toUInt32.toUInt16.toUInt32.toInt32)), .val (.int ((((p0.toUInt32 >>> ((16 : Int32) &&& 31).toUInt32).toInt32) &&& (255 : Int32)).toUInt32.toUInt16.toUInt32.toInt32)), .val (.int ((p1 &&& (255 : Int32)).toUInt32.toUInt16.toUInt32.toInt32)), .unset, .unset, .unset, .unset, .unset, .unset, .unset] [(.int (8 : Int32)), (.int p1)])) tgt
    refine XS.iushr X0.here hx rfl (hb hby at_82) rfl ?_
    show Steps p.tables e below (s₁.setTop (mkF m 83 #[.val (.int p0), .val (.int p1), .val (.int p2), .val (.int v3), .val (.int v4), .val (.int b5), .val (.int b6), .val (.int ((p0 &&& (255 : Int32)).toUInt32.toUInt16.toUInt32.toInt32)), .val (.int ((((p0.toUInt32 >>> ((8 : Int32) &&& 31).toUInt32).toInt32) &&& (255 : Int32)).toUInt32.toUInt16.toUInt32.toInt32)), .val (.int ((((p0.toUInt32 >>> ((16 : Int32) &&& 31).toUInt32).toInt32) &&& (255 : Int32)).toUInt32.toUInt16.toUInt32.toInt32)), .val (.int ((p1 &&& (255 : Int32)).toUInt32.toUInt16.toUInt32.toInt32)), .unset, .unset, .unset, .unset, .unset, .unset, .unset] [(.int ((p1.toUInt32 >>> ((8 : Int32) &&& 31).toUInt32).toInt32))])) tgt
    refine XS.sipush X0.here hx rfl (hb hby at_83) ?_
    show Steps p.tables e below (s₁.setTop (mkF m 86 #[.val (.int p0), .val (.int p1), .val (.int p2), .val (.int v3), .val (.int v4), .val (.int b5), .val (.int b6), .val (.int ((p0 &&& (255 : Int32)).toUInt32.toUInt16.toUInt32.toInt32)), .val (.int ((((p0.toUInt32 >>> ((8 : Int32) &&& 31).toUInt32).toInt32) &&& (255 : Int32)).toUInt32.toUInt16.toUInt32.toInt32)), .val (.int ((((p0.toUInt32 >>> ((16 : Int32) &&& 31).toUInt32).toInt32) &&& (255 : Int32)).toUInt32.toUInt16.toUInt32.toInt32)), .val (.int ((p1 &&& (255 : Int32)).toUInt32.toUInt16.toUInt32.toInt32)), .unset, .unset, .unset, .unset, .unset, .unset, .unset] [(.int (255 : Int32)), (.int ((p1.toUInt32 >>> ((8 : Int32) &&& 31).toUInt32).toInt32))])) tgt
    refine XS.iand X0.here hx rfl (hb hby at_86) rfl ?_
    show Steps p.tables e below (s₁.setTop (mkF m 87 #[.val (.int p0), .val (.int p1), .val (.int p2), .val (.int v3), .val (.int v4), .val (.int b5), .val (.int b6), .val (.int ((p0 &&& (255 : Int32)).toUInt32.toUInt16.toUInt32.toInt32)), .val (.int ((((p0.toUInt32 >>> ((8 : Int32) &&& 31).toUInt32).toInt32) &&& (255 : Int32)).toUInt32.toUInt16.toUInt32.toInt32)), .val (.int ((((p0.toUInt32 >>> ((16 : Int32) &&& 31).toUInt32).toInt32) &&& (255 : Int32)).toUInt32.toUInt16.toUInt32.toInt32)), .val (.int ((p1 &&& (255 : Int32)).toUInt32.toUInt16.toUInt32.toInt32)), .unset, .unset, .unset, .unset, .unset, .unset, .unset] [(.int (((p1.toUInt32 >>> ((8 : Int32) &&& 31).toUInt32).toInt32) &&& (255 : Int32)))])) tgt
    refine XS.i2c X0.here hx rfl (hb hby at_87) rfl ?_
    show Steps p.tables e below (s₁.setTop (mkF m 88 #[.val (.int p0), .val (.int p1), .val (.int p2), .val (.int v3), .val (.int v4), .val (.int b5), .val (.int b6), .val (.int ((p0 &&& (255 : Int32)).toUInt32.toUInt16.toUInt32.toInt32)), .val (.int ((((p0.toUInt32 >>> ((8 : Int32) &&& 31).toUInt32).toInt32) &&& (255 : Int32)).toUInt32.toUInt16.toUInt32.toInt32)), .val (.int ((((p0.toUInt32 >>> ((16 : Int32) &&& 31).toUInt32).toInt32) &&& (255 : Int32)).toUInt32.toUInt16.toUInt32.toInt32)), .val (.int ((p1 &&& (255 : Int32)).toUInt32.toUInt16.toUInt32.toInt32)), .unset, .unset, .unset, .unset, .unset, .unset, .unset] [(.int ((((p1.toUInt32 >>> ((8 : Int32) &&& 31).toUInt32).toInt32) &&& (255 : Int32)).toUInt32.toUInt16.toUInt32.toInt32))])) tgt
    refine XS.istore X0.here hx rfl (hb hby at_88) rfl (l' := #[.val (.int p0), .val (.int p1), .val (.int p2), .val (.int v3), .val (.int v4), .val (.int b5), .val (.int b6), .val (.int ((p0 &&& (255 : Int32)).toUInt32.toUInt16.toUInt32.toInt32)), .val (.int ((((p0.toUInt32 >>> ((8 : Int32) &&& 31).toUInt32).toInt32) &&& (255 : Int32)).toUInt32.toUInt16.toUInt32.toInt32)), .val (.int ((((p0.toUInt32 >>> ((16 : Int32) &&& 31).toUInt32).toInt32) &&& (255 : Int32)).toUInt32.toUInt16.toUInt32.toInt32)), .val (.int ((p1 &&& (255 : Int32)).toUInt32.toUInt16.toUInt32.toInt32)), .val (.int ((((p1.toUInt32 >>> ((8 : Int32) &&& 31).toUInt32).toInt32) &&& (255 : Int32)).toUInt32.toUInt16.toUInt32.toInt32)), .unset, .unset, .unset, .unset, .unset, .unset]) rfl ?_
    show Steps p.tables e below (s₁.setTop (mkF m 90 #[.val (.int p0), .val (.int p1), .val (.int p2), .val (.int v3), .val (.int v4), .val (.int b5), .val (.int b6), .val (.int ((p0 &&& (255 : Int32)).toUInt32.toUInt16.toUInt32.toInt32)), .val (.int ((((p0.toUInt32 >>> ((8 : Int32) &&& 31).toUInt32).toInt32) &&& (255 : Int32)).toUInt32.toUInt16.toUInt32.toInt32)), .val (.int ((((p0.toUInt32 >>> ((16 : Int32) &&& 31).toUInt32).toInt32) &&& (255 : Int32)).toUInt32.toUInt16.toUInt32.toInt32)), .val (.int ((p1 &&& (255 : Int32)).toUInt32.toUInt16.toUInt32.toInt32)), .val (.int ((((p1.toUInt32 >>> ((8 : Int32) &&& 31).toUInt32).toInt32) &&& (255 : Int32)).toUInt32.toUInt16.toUInt32.toInt32)), .unset, .unset, .unset, .unset, .unset, .unset] [])) tgt
    refine XS.iloadN X0.here hx rfl (hb hby at_90) rfl ?_
    show Steps p.tables e below (s₁.setTop (mkF m 91 #[.val (.int p0), .val (.int p1), .val (.int p2), .val (.int v3), .val (.int v4), .val (.int b5), .val (.int b6), .val (.int ((p0 &&& (255 : Int32)).toUInt32.toUInt16.toUInt32.toInt32)), .val (.int ((((p0.toUInt32 >>> ((8 : Int32) &&& 31).toUInt32).toInt32) &&& (255 : Int32)).toUInt32.toUInt16.toUInt32.toInt32)), .val (.int ((((p0.toUInt32 >>> ((16 : Int32) &&& 31).toUInt32).toInt32) &&& (255 : Int32)).toUInt32.toUInt16.toUInt32.toInt32)), .val (.int ((p1 &&& (255 : Int32)).toUInt32.toUInt16.toUInt32.toInt32)), .val (.int ((((p1.toUInt32 >>> ((8 : Int32) &&& 31).toUInt32).toInt32) &&& (255 : Int32)).toUInt32.toUInt16.toUInt32.toInt32)), .unset, .unset, .unset, .unset, .unset, .unset] [(.int p1)])) tgt
    refine XS.bipush X0.here hx rfl (hb hby at_91) ?_
    show Steps p.tables e below (s₁.setTop (mkF m 93 #[.val (.int p0), .val (.int p1), .val (.int p2), .val (.int v3), .val (.int v4), .val (.int b5), .val (.int b6), .val (.int ((p0 &&& (255 : Int32)).toUInt32.toUInt16.toUInt32.toInt32)), .val (.int ((((p0.toUInt32 >>> ((8 : Int32) &&& 31).toUInt32).toInt32) &&& (255 : Int32)).toUInt32.toUInt16.toUInt32.toInt32)), .val (.int ((((p0.toUInt32 >>> ((16 : Int32) &&& 31).toUInt32).toInt32) &&& (255 : Int32)).toUInt32.toUInt16.toUInt32.toInt32)), .val (.int ((p1 &&& (255 : Int32)).toUInt32.toUInt16.toUInt32.toInt32)), .val (.int ((((p1.toUInt32 >>> ((8 : Int32) &&& 31).toUInt32).toInt32) &&& (255 : Int32)).toUInt32.toUInt16.toUInt32.toInt32)), .unset, .unset, .unset, .unset, .unset, .unset] [(.int (16 : Int32)), (.int p1)])) tgt
    refine XS.iushr X0.here hx rfl (hb hby at_93) rfl ?_
    show Steps p.tables e below (s₁.setTop (mkF m 94 #[.val (.int p0), .val (.int p1), .val (.int p2), .val (.int v3), .val (.int v4), .val (.int b5), .val (.int b6), .val (.int ((p0 &&& (255 : Int32)).toUInt32.toUInt16.toUInt32.toInt32)), .val (.int ((((p0.toUInt32 >>> ((8 : Int32) &&& 31).toUInt32).toInt32) &&& (255 : Int32)).toUInt32.toUInt16.toUInt32.toInt32)), .val (.int ((((p0.toUInt32 >>> ((16 : Int32) &&& 31).toUInt32).toInt32) &&& (255 : Int32)).toUInt32.toUInt16.toUInt32.toInt32)), .val (.int ((p1 &&& (255 : Int32)).toUInt32.toUInt16.toUInt32.toInt32)), .val (.int ((((p1.toUInt32 >>> ((8 : Int32) &&& 31).toUInt32).toInt32) &&& (255 : Int32)).toUInt32.toUInt16.toUInt32.toInt32)), .unset, .unset, .unset, .unset, .unset, .unset] [(.int ((p1.toUInt32 >>> ((16 : Int32) &&& 31).toUInt32).toInt32))])) tgt
    refine XS.sipush X0.here hx rfl (hb hby at_94) ?_
    show Steps p.tables e below (s₁.setTop (mkF m 97 #[.val (.int p0), .val (.int p1), .val (.int p2), .val (.int v3), .val (.int v4), .val (.int b5), .val (.int b6), .val (.int ((p0 &&& (255 : Int32)).toUInt32.toUInt16.toUInt32.toInt32)), .val (.int ((((p0.toUInt32 >>> ((8 : Int32) &&& 31).toUInt32).toInt32) &&& (255 : Int32)).toUInt32.toUInt16.toUInt32.toInt32)), .val (.int ((((p0.toUInt32 >>> ((16 : Int32) &&& 31).toUInt32).toInt32) &&& (255 : Int32)).toUInt32.toUInt16.toUInt32.toInt32)), .val (.int ((p1 &&& (255 : Int32)).toUInt32.toUInt16.toUInt32.toInt32)), .val (.int ((((p1.toUInt32 >>> ((8 : Int32) &&& 31).toUInt32).toInt32) &&& (255 : Int32)).toUInt32.toUInt16.toUInt32.toInt32)), .unset, .unset, .unset, .unset, .unset, .unset] [(.int (255 : Int32)), (.int ((p1.toUInt32 >>> ((16 : Int32) &&& 31).toUInt32).toInt32))])) tgt
    refine XS.iand X0.here hx rfl (hb hby at_97) rfl ?_
    show Steps p.tables e below (s₁.setTop (mkF m 98 #[.val (.int p0), .val (.int p1), .val (.int p2), .val (.int v3), .val (.int v4), .val (.int b5), .val (.int b6), .val (.int ((p0 &&& (255 : Int32)).toUInt32.toUInt16.toUInt32.toInt32)), .val (.int ((((p0.toUInt32 >>> ((8 : Int32) &&& 31).toUInt32).toInt32) &&& (255 : Int32)).toUInt32.toUInt16.toUInt32.toInt32)), .val (.int ((((p0.toUInt32 >>> ((16 : Int32) &&& 31).toUInt32).toInt32) &&& (255 : Int32)).toUInt32.toUInt16.toUInt32.toInt32)), .val (.int ((p1 &&& (255 : Int32)).toUInt32.toUInt16.toUInt32.toInt32)), .val (.int ((((p1.toUInt32 >>> ((8 : Int32) &&& 31).toUInt32).toInt32) &&& (255 : Int32)).toUInt32.toUInt16.toUInt32.toInt32)), .unset, .unset, .unset, .unset, .unset, .unset] [(.int (((p1.toUInt32 >>> ((16 : Int32) &&& 31).toUInt32).toInt32) &&& (255 : Int32)))])) tgt
    refine XS.i2c X0.here hx rfl (hb hby at_98) rfl ?_
    show Steps p.tables e below (s₁.setTop (mkF m 99 #[.val (.int p0), .val (.int p1), .val (.int p2), .val (.int v3), .val (.int v4), .val (.int b5), .val (.int b6), .val (.int ((p0 &&& (255 : Int32)).toUInt32.toUInt16.toUInt32.toInt32)), .val (.int ((((p0.toUInt32 >>> ((8 : Int32) &&& 31).toUInt32).toInt32) &&& (255 : Int32)).toUInt32.toUInt16.toUInt32.toInt32)), .val (.int ((((p0.toUInt32 >>> ((16 : Int32) &&& 31).toUInt32).toInt32) &&& (255 : Int32)).toUInt32.toUInt16.toUInt32.toInt32)), .val (.int ((p1 &&& (255 : Int32)).toUInt32.toUInt16.toUInt32.toInt32)), .val (.int ((((p1.toUInt32 >>> ((8 : Int32) &&& 31).toUInt32).toInt32) &&& (255 : Int32)).toUInt32.toUInt16.toUInt32.toInt32)), .unset, .unset, .unset, .unset, .unset, .unset] [(.int ((((p1.toUInt32 >>> ((16 : Int32) &&& 31).toUInt32).toInt32) &&& (255 : Int32)).toUInt32.toUInt16.toUInt32.toInt32))])) tgt
    refine XS.istore X0.here hx rfl (hb hby at_99) rfl (l' := #[.val (.int p0), .val (.int p1), .val (.int p2), .val (.int v3), .val (.int v4), .val (.int b5), .val (.int b6), .val (.int ((p0 &&& (255 : Int32)).toUInt32.toUInt16.toUInt32.toInt32)), .val (.int ((((p0.toUInt32 >>> ((8 : Int32) &&& 31).toUInt32).toInt32) &&& (255 : Int32)).toUInt32.toUInt16.toUInt32.toInt32)), .val (.int ((((p0.toUInt32 >>> ((16 : Int32) &&& 31).toUInt32).toInt32) &&& (255 : Int32)).toUInt32.toUInt16.toUInt32.toInt32)), .val (.int ((p1 &&& (255 : Int32)).toUInt32.toUInt16.toUInt32.toInt32)), .val (.int ((((p1.toUInt32 >>> ((8 : Int32) &&& 31).toUInt32).toInt32) &&& (255 : Int32)).toUInt32.toUInt16.toUInt32.toInt32)), .val (.int ((((p1.toUInt32 >>> ((16 : Int32) &&& 31).toUInt32).toInt32) &&& (255 : Int32)).toUInt32.toUInt16.toUInt32.toInt32)), .unset, .unset, .unset, .unset, .unset]) rfl ?_
    exact kont)
  have q7 : own_chr v7 := by rw [hv7]; exact own_cmask _
  obtain ⟨v8, hv8⟩ : ∃ z : Int32, z = ((((p0.toUInt32 >>> ((8 : Int32) &&& 31).toUInt32).toInt32) &&& (255 : Int32)).toUInt32.toUInt16.toUInt32.toInt32) := ⟨_, rfl⟩
  have go8 : ∀ tgt, Steps p.tables e below (s₁.setTop (mkF m 101 #[.val (.int p0), .val (.int p1), .val (.int p2), .val (.int v3), .val (.int v4), .val (.int b5), .val (.int b6), .val (.int v7), .val (.int v8), .val (.int ((((p0.toUInt32 >>> ((16 : Int32) &&& 31).toUInt32).toInt32) &&& (255 : Int32)).toUInt32.toUInt16.toUInt32.toInt32)), .val (.int ((p1 &&& (255 : Int32)).toUInt32.toUInt16.toUInt32.toInt32)), .val (.int ((((p1.toUInt32 >>> ((8 : Int32) &&& 31).toUInt32).toInt32) &&& (255 : Int32)).toUInt32.toUInt16.toUInt32.toInt32)), .val (.int ((((p1.toUInt32 >>> ((16 : Int32) &&& 31).toUInt32).toInt32) &&& (255 : Int32)).toUInt32.toUInt16.toUInt32.toInt32)), .unset, .unset, .unset, .unset, .unset] [])) tgt → Steps p.tables e below E0 tgt := fun tgt kont => go7 tgt (by
    rw [hv8] at kont
    exact kont)
  have q8 : own_chr v8 := by rw [hv8]; exact own_cmask _
  obtain ⟨v9, hv9⟩ : ∃ z : Int32, z = ((((p0.toUInt32 >>> ((16 : Int32) &&& 31).toUInt32).toInt32) &&& (255 : Int32)).toUInt32.toUInt16.toUInt32.toInt32) := ⟨_, rfl⟩
  have go9 : ∀ tgt, Steps p.tables e below (s₁.setTop (mkF m 101 #[.val (.int p0), .val (.int p1), .val (.int p2), .val (.int v3), .val (.int v4), .val (.int b5), .val (.int b6), .val (.int v7), .val (.int v8), .val (.int v9), .val (.int ((p1 &&& (255 : Int32)).toUInt32.toUInt16.toUInt32.toInt32)), .val (.int ((((p1.toUInt32 >>> ((8 : Int32) &&& 31).toUInt32).toInt32) &&& (255 : Int32)).toUInt32.toUInt16.toUInt32.toInt32)), .val (.int ((((p1.toUInt32 >>> ((16 : Int32) &&& 31).toUInt32).toInt32) &&& (255 : Int32)).toUInt32.toUInt16.toUInt32.toInt32)), .unset, .unset, .unset, .unset, .unset] [])) tgt → Steps p.tables e below E0 tgt := fun tgt kont => go8 tgt (by
    rw [hv9] at kont
    exact kont)
  have q9 : own_chr v9 := by rw [hv9]; exact own_cmask _
  obtain ⟨v10, hv10⟩ : ∃ z : Int32, z = ((p1 &&& (255 : Int32)).toUInt32.toUInt16.toUInt32.toInt32) := ⟨_, rfl⟩
  have go10 : ∀ tgt, Steps p.tables e below (s₁.setTop (mkF m 101 #[.val (.int p0), .val (.int p1), .val (.int p2), .val (.int v3), .val (.int v4), .val (.int b5), .val (.int b6), .val (.int v7), .val (.int v8), .val (.int v9), .val (.int v10), .val (.int ((((p1.toUInt32 >>> ((8 : Int32) &&& 31).toUInt32).toInt32) &&& (255 : Int32)).toUInt32.toUInt16.toUInt32.toInt32)), .val (.int ((((p1.toUInt32 >>> ((16 : Int32) &&& 31).toUInt32).toInt32) &&& (255 : Int32)).toUInt32.toUInt16.toUInt32.toInt32)), .unset, .unset, .unset, .unset, .unset] [])) tgt → Steps p.tables e below E0 tgt := fun tgt kont => go9 tgt (by
    rw [hv10] at kont
    exact kont)
  have q10 : own_chr v10 := by rw [hv10]; exact own_cmask _
  obtain ⟨v11, hv11⟩ : ∃ z : Int32, z = ((((p1.toUInt32 >>> ((8 : Int32) &&& 31).toUInt32).toInt32) &&& (255 : Int32)).toUInt32.toUInt16.toUInt32.toInt32) := ⟨_, rfl⟩
  have go11 : ∀ tgt, Steps p.tables e below (s₁.setTop (mkF m 101 #[.val (.int p0), .val (.int p1), .val (.int p2), .val (.int v3), .val (.int v4), .val (.int b5), .val (.int b6), .val (.int v7), .val (.int v8), .val (.int v9), .val (.int v10), .val (.int v11), .val (.int ((((p1.toUInt32 >>> ((16 : Int32) &&& 31).toUInt32).toInt32) &&& (255 : Int32)).toUInt32.toUInt16.toUInt32.toInt32)), .unset, .unset, .unset, .unset, .unset] [])) tgt → Steps p.tables e below E0 tgt := fun tgt kont => go10 tgt (by
    rw [hv11] at kont
    exact kont)
  have q11 : own_chr v11 := by rw [hv11]; exact own_cmask _
  obtain ⟨v12, hv12⟩ : ∃ z : Int32, z = ((((p1.toUInt32 >>> ((16 : Int32) &&& 31).toUInt32).toInt32) &&& (255 : Int32)).toUInt32.toUInt16.toUInt32.toInt32) := ⟨_, rfl⟩
  have go12 : ∀ tgt, Steps p.tables e below (s₁.setTop (mkF m 101 #[.val (.int p0), .val (.int p1), .val (.int p2), .val (.int v3), .val (.int v4), .val (.int b5), .val (.int b6), .val (.int v7), .val (.int v8), .val (.int v9), .val (.int v10), .val (.int v11), .val (.int v12), .unset, .unset, .unset, .unset, .unset] [])) tgt → Steps p.tables e below E0 tgt := fun tgt kont => go11 tgt (by
    rw [hv12] at kont
    exact kont)
  have q12 : own_chr v12 := by rw [hv12]; exact own_cmask _
  have go13 : ∀ tgt, Steps p.tables e below (s₁.setTop (mkF m 103 #[.val (.int p0), .val (.int p1), .val (.int p2), .val (.int v3), .val (.int v4), .val (.int b5), .val (.int b6), .val (.int v7), .val (.int v8), .val (.int v9), .val (.int v10), .val (.int v11), .val (.int v12), .unset, .unset, .unset, .unset, .unset] [(.int b5)])) tgt → Steps p.tables e below E0 tgt := fun tgt kont => go12 tgt (by
    show Steps p.tables e below (s₁.setTop (mkF m 101 #[.val (.int p0), .val (.int p1), .val (.int p2), .val (.int v3), .val (.int v4), .val (.int b5), .val (.int b6), .val (.int v7), .val (.int v8), .val (.int v9), .val (.int v10), .val (.int v11), .val (.int v12), .unset, .unset, .unset, .unset, .unset] [])) tgt
    refine XS.iload X0.here hx rfl (hb hby at_101) rfl ?_
    exact kont)
  by_cases hcp : b5 = (0 : Int32)
  · have go14 : ∀ tgt, Steps p.tables e below (s₁.setTop (mkF m 142 #[.val (.int p0), .val (.int p1), .val (.int p2), .val (.int v3), .val (.int v4), .val (.int b5), .val (.int b6), .val (.int v7), .val (.int v8), .val (.int v9), .val (.int v10), .val (.int v11), .val (.int v12), .unset, .unset, .unset, .unset, .unset] [(.int v9), (.int v8), (.int v7), (.int v3)])) tgt → Steps p.tables e below E0 tgt := fun tgt kont => go13 tgt (by
      show Steps p.tables e below (s₁.setTop (mkF m 103 #[.val (.int p0), .val (.int p1), .val (.int p2), .val (.int v3), .val (.int v4), .val (.int b5), .val (.int b6), .val (.int v7), .val (.int v8), .val (.int v9), .val (.int v10), .val (.int v11), .val (.int v12), .unset, .unset, .unset, .unset, .unset] [(.int b5)])) tgt
      refine XS.ifYes X0.here hx rfl (pc0 := 103) (pc' := 135) rfl (hb hby at_103) rfl ((if0 _ _).trans (teq hcp).1) (by decide) (by decide) ?_
      show Steps p.tables e below (s₁.setTop (mkF m 135 #[.val (.int p0), .val (.int p1), .val (.int p2), .val (.int v3), .val (.int v4), .val (.int b5), .val (.int b6), .val (.int v7), .val (.int v8), .val (.int v9), .val (.int v10), .val (.int v11), .val (.int v12), .unset, .unset, .unset, .unset, .unset] [])) tgt
      refine XS.iloadN X0.here hx rfl (hb hby at_135) rfl ?_
      show Steps p.tables e below (s₁.setTop (mkF m 136 #[.val (.int p0), .val (.int p1), .val (.int p2), .val (.int v3), .val (.int v4), .val (.int b5), .val (.int b6), .val (.int v7), .val (.int v8), .val (.int v9), .val (.int v10), .val (.int v11), .val (.int v12), .unset, .unset, .unset, .unset, .unset] [(.int v3)])) tgt
      refine XS.iload X0.here hx rfl (hb hby at_136) rfl ?_
      show Steps p.tables e below (s₁.setTop (mkF m 138 #[.val (.int p0), .val (.int p1), .val (.int p2), .val (.int v3), .val (.int v4), .val (.int b5), .val (.int b6), .val (.int v7), .val (.int v8), .val (.int v9), .val (.int v10), .val (.int v11), .val (.int v12), .unset, .unset, .unset, .unset, .unset] [(.int v7), (.int v3)])) tgt
      refine XS.iload X0.here hx rfl (hb hby at_138) rfl ?_
      show Steps p.tables e below (s₁.setTop (mkF m 140 #[.val (.int p0), .val (.int p1), .val (.int p2), .val (.int v3), .val (.int v4), .val (.int b5), .val (.int b6), .val (.int v7), .val (.int v8), .val (.int v9), .val (.int v10), .val (.int v11), .val (.int v12), .unset, .unset, .unset, .unset, .unset] [(.int v8), (.int v7), (.int v3)])) tgt
      refine XS.iload X0.here hx rfl (hb hby at_140) rfl ?_
      exact kont)
    obtain ⟨_, _, ⟨T15, L15, k15, n15⟩, -, Xp15, hSp15, hgp15, ⟨Lc15, hQ15, l15, y15, z15⟩, st15⟩ := callSS X0 hx (y := (⟨"com/example/caskwright/caskwright/io/ViewEntryVersionedPinLaw", "make", "(ICCC)Ljava/lang/String;"⟩ : MethodName)) hown (mvT hZ (hw _ (List.mem_of_getElem? (i := 0) rfl))) (mvT hZ (hw _ (List.mem_of_getElem? (i := 1) rfl))) (mvT hZ (hw _ (List.mem_of_getElem? (i := 2) rfl))) (mvT hZ (hw _ (List.mem_of_getElem? (i := 3) rfl))) (by decide) (own_backJ (W := 0) (rmMK l Z a0 hw [] v3 v7 v8 v9 G h0 n0 Z0 q7 q8 q9 SC hG O0 hH hCW) hZ (hw _ (List.mem_of_getElem? (i := 3) rfl)) (hw _ (List.mem_of_getElem? (i := 2) rfl)) (by decide) (by decide)) (g := (mkF m 142 #[.val (.int p0), .val (.int p1), .val (.int p2), .val (.int v3), .val (.int v4), .val (.int b5), .val (.int b6), .val (.int v7), .val (.int v8), .val (.int v9), .val (.int v10), .val (.int v11), .val (.int v12), .unset, .unset, .unset, .unset, .unset] [(.int v9), (.int v8), (.int v7), (.int v3)])) rfl (by rw [hml]; rfl) (argsL := [(.int v3), (.int v7), (.int v8), (.int v9)]) (rest := []) (lenOf pd_10 rfl) rfl (by show 2 * 0 + _ ≤ _; exact Nat.le_of_eq rfl) (hb hby at_142) (fun _ hwm => ⟨rfl, e0, (own_Jwarm (s := s.setVm s.vm) hJ0 hwm), (by decide : 0 + 4 ≤ _), (by decide : 0 + 10 ≤ _)⟩)
    dsimp only [Pt.U, Pt.locs, Pt.cells, Pt.slots] at Xp15 hSp15 hgp15 l15 y15 z15 st15 hQ15
    subst l15 y15 z15
    obtain ⟨X15, hS15, hZ15, hown15⟩ := rebS hS0 (by rw [e0]; exact hk0) Xp15 hSp15 hgp15 hZ hown
    obtain ⟨rfl, N15q, Ksa, Esa, Csa, tsa, ksa, ltsa, Vsa, Asa, Jsa⟩ := hQ15
    have N15 := Fr.app N0 N15q
    obtain ⟨sa, g15⟩ : ∃ z, z = h0.size := ⟨_, rfl⟩
    rw [← g15] at st15 Esa Csa Vsa
    have ge_sa : n0 ≤ sa := Nat.le_trans Z0 (Nat.le_of_eq g15.symm)
    have z16 : n0 ≤ T15.heap.size := Nat.le_trans Z0 Ksa.1
    have go15 : ∀ tgt, Steps p.tables e below (T15.setTop (mkF m 145 #[.val (.int p0), .val (.int p1), .val (.int p2), .val (.int v3), .val (.int v4), .val (.int b5), .val (.int b6), .val (.int v7), .val (.int v8), .val (.int v9), .val (.int v10), .val (.int v11), .val (.int v12), .unset, .unset, .unset, .unset, .unset] [(.ref sa)])) tgt → Steps p.tables e below E0 tgt := fun tgt kont => go14 tgt (st15.trans kont)
    have f17 : Old Z n0 T15.heap := (O0.keep Ksa all0)
    have go18 : ∀ tgt, Steps p.tables e below (T15.setTop (mkF m 155 #[.val (.int p0), .val (.int p1), .val (.int p2), .val (.int v3), .val (.int v4), .val (.int b5), .val (.int b6), .val (.int v7), .val (.int v8), .val (.int v9), .val (.int v10), .val (.int v11), .val (.int v12), .val (.ref sa), .unset, .unset, .unset, .unset] [(.int v12), (.int v11), (.int v10), (.int v4)])) tgt → Steps p.tables e below E0 tgt := fun tgt kont => go15 tgt (by
      show Steps p.tables e below (T15.setTop (mkF m 145 #[.val (.int p0), .val (.int p1), .val (.int p2), .val (.int v3), .val (.int v4), .val (.int b5), .val (.int b6), .val (.int v7), .val (.int v8), .val (.int v9), .val (.int v10), .val (.int v11), .val (.int v12), .unset, .unset, .unset, .unset, .unset] [(.ref sa)])) tgt
      refine XS.astore X15.here hx rfl (hb hby at_145) rfl rfl (l' := #[.val (.int p0), .val (.int p1), .val (.int p2), .val (.int v3), .val (.int v4), .val (.int b5), .val (.int b6), .val (.int v7), .val (.int v8), .val (.int v9), .val (.int v10), .val (.int v11), .val (.int v12), .val (.ref sa), .unset, .unset, .unset, .unset]) rfl ?_
      show Steps p.tables e below (T15.setTop (mkF m 147 #[.val (.int p0), .val (.int p1), .val (.int p2), .val (.int v3), .val (.int v4), .val (.int b5), .val (.int b6), .val (.int v7), .val (.int v8), .val (.int v9), .val (.int v10), .val (.int v11), .val (.int v12), .val (.ref sa), .unset, .unset, .unset, .unset] [])) tgt
      refine XS.iload X15.here hx rfl (hb hby at_147) rfl ?_
      show Steps p.tables e below (T15.setTop (mkF m 149 #[.val (.int p0), .val (.int p1), .val (.int p2), .val (.int v3), .val (.int v4), .val (.int b5), .val (.int b6), .val (.int v7), .val (.int v8), .val (.int v9), .val (.int v10), .val (.int v11), .val (.int v12), .val (.ref sa), .unset, .unset, .unset, .unset] [(.int v4)])) tgt
      refine XS.iload X15.here hx rfl (hb hby at_149) rfl ?_
      show Steps p.tables e below (T15.setTop (mkF m 151 #[.val (.int p0), .val (.int p1), .val (.int p2), .val (.int v3), .val (.int v4), .val (.int b5), .val (.int b6), .val (.int v7), .val (.int v8), .val (.int v9), .val (.int v10), .val (.int v11), .val (.int v12), .val (.ref sa), .unset, .unset, .unset, .unset] [(.int v10), (.int v4)])) tgt
      refine XS.iload X15.here hx rfl (hb hby at_151) rfl ?_
      show Steps p.tables e below (T15.setTop (mkF m 153 #[.val (.int p0), .val (.int p1), .val (.int p2), .val (.int v3), .val (.int v4), .val (.int b5), .val (.int b6), .val (.int v7), .val (.int v8), .val (.int v9), .val (.int v10), .val (.int v11), .val (.int v12), .val (.ref sa), .unset, .unset, .unset, .unset] [(.int v11), (.int v10), (.int v4)])) tgt
      refine XS.iload X15.here hx rfl (hb hby at_153) rfl ?_
      exact kont)
    obtain ⟨_, _, ⟨T19, L19, k19, n19⟩, -, Xp19, hSp19, hgp19, ⟨Lc19, hQ19, l19, y19, z19⟩, st19⟩ := callSS X15 hx (y := (⟨"com/example/caskwright/caskwright/io/ViewEntryVersionedPinLaw", "make", "(ICCC)Ljava/lang/String;"⟩ : MethodName)) hown15 (mvT hZ15 (hw _ (List.mem_of_getElem? (i := 0) rfl))) (mvT hZ15 (hw _ (List.mem_of_getElem? (i := 1) rfl))) (mvT hZ15 (hw _ (List.mem_of_getElem? (i := 2) rfl))) (mvT hZ15 (hw _ (List.mem_of_getElem? (i := 3) rfl))) (by decide) (own_backJ (W := 0) (rmMK l Z a0 hw [] v4 v10 v11 v12 G T15.heap n0 z16 q10 q11 q12 SC hG f17 hH hCW) hZ15 (hw _ (List.mem_of_getElem? (i := 3) rfl)) (hw _ (List.mem_of_getElem? (i := 2) rfl)) (by decide) (by decide)) (g := (mkF m 155 #[.val (.int p0), .val (.int p1), .val (.int p2), .val (.int v3), .val (.int v4), .val (.int b5), .val (.int b6), .val (.int v7), .val (.int v8), .val (.int v9), .val (.int v10), .val (.int v11), .val (.int v12), .val (.ref sa), .unset, .unset, .unset, .unset] [(.int v12), (.int v11), (.int v10), (.int v4)])) rfl (by rw [hml]; rfl) (argsL := [(.int v4), (.int v10), (.int v11), (.int v12)]) (rest := []) (lenOf pd_10 rfl) rfl (by show 2 * 0 + _ ≤ _; exact Nat.le_of_eq rfl) (hb hby at_155) (fun _ hwm => ⟨rfl, rfl, (own_Jwarm (s := s.setVm T15.vm) Jsa hwm), (by decide : 4 + 4 ≤ _), (by decide : 10 + 10 ≤ _)⟩)
    dsimp only [Pt.U, Pt.locs, Pt.cells, Pt.slots] at Xp19 hSp19 hgp19 l19 y19 z19 st19 hQ19
    subst l19 y19 z19
    obtain ⟨X19, hS19, hZ19, hown19⟩ := rebS hS15 (Nat.le_refl _) Xp19 hSp19 hgp19 hZ15 hown15
    obtain ⟨rfl, N19q, Ksb, Esb, Csb, tsb, ksb, ltsb, Vsb, Asb, Jsb⟩ := hQ19
    have N19 := Fr.app N15 N19q
    obtain ⟨sb, g19⟩ : ∃ z, z = T15.heap.size := ⟨_, rfl⟩
    rw [← g19] at st19 Esb Csb Vsb
    have ne_sa_sb : sa ≠ sb := Nat.ne_of_lt (Nat.lt_of_lt_of_le Esa.lt (Nat.le_of_eq g19.symm))
    have ne_tsa_sb : tsa ≠ sb := Nat.ne_of_lt (Nat.lt_of_lt_of_le Asa.lt (Nat.le_of_eq g19.symm))
    have ge_sb : n0 ≤ sb := Nat.le_trans z16 (Nat.le_of_eq g19.symm)
    have z20 : n0 ≤ T19.heap.size := Nat.le_trans z16 Ksb.1
    have go19 : ∀ tgt, Steps p.tables e below (T19.setTop (mkF m 158 #[.val (.int p0), .val (.int p1), .val (.int p2), .val (.int v3), .val (.int v4), .val (.int b5), .val (.int b6), .val (.int v7), .val (.int v8), .val (.int v9), .val (.int v10), .val (.int v11), .val (.int v12), .val (.ref sa), .unset, .unset, .unset, .unset] [(.ref sb)])) tgt → Steps p.tables e below E0 tgt := fun tgt kont => go18 tgt (st19.trans kont)
    have go21 : ∀ tgt, Steps p.tables e below (T19.setTop (mkF m 163 #[.val (.int p0), .val (.int p1), .val (.int p2), .val (.int v3), .val (.int v4), .val (.int b5), .val (.int b6), .val (.int v7), .val (.int v8), .val (.int v9), .val (.int v10), .val (.int v11), .val (.int v12), .val (.ref sa), .val (.ref sb), .unset, .unset, .unset] [(.int v4), (.int v3)])) tgt → Steps p.tables e below E0 tgt := fun tgt kont => go19 tgt (by
      show Steps p.tables e below (T19.setTop (mkF m 158 #[.val (.int p0), .val (.int p1), .val (.int p2), .val (.int v3), .val (.int v4), .val (.int b5), .val (.int b6), .val (.int v7), .val (.int v8), .val (.int v9), .val (.int v10), .val (.int v11), .val (.int v12), .val (.ref sa), .unset, .unset, .unset, .unset] [(.ref sb)])) tgt
      refine XS.astore X19.here hx rfl (hb hby at_158) rfl rfl (l' := #[.val (.int p0), .val (.int p1), .val (.int p2), .val (.int v3), .val (.int v4), .val (.int b5), .val (.int b6), .val (.int v7), .val (.int v8), .val (.int v9), .val (.int v10), .val (.int v11), .val (.int v12), .val (.ref sa), .val (.ref sb), .unset, .unset, .unset]) rfl ?_
      show Steps p.tables e below (T19.setTop (mkF m 160 #[.val (.int p0), .val (.int p1), .val (.int p2), .val (.int v3), .val (.int v4), .val (.int b5), .val (.int b6), .val (.int v7), .val (.int v8), .val (.int v9), .val (.int v10), .val (.int v11), .val (.int v12), .val (.ref sa), .val (.ref sb), .unset, .unset, .unset] [])) tgt
      refine XS.iloadN X19.here hx rfl (hb hby at_160) rfl ?_
      show Steps p.tables e below (T19.setTop (mkF m 161 #[.val (.int p0), .val (.int p1), .val (.int p2), .val (.int v3), .val (.int v4), .val (.int b5), .val (.int b6), .val (.int v7), .val (.int v8), .val (.int v9), .val (.int v10), .val (.int v11), .val (.int v12), .val (.ref sa), .val (.ref sb), .unset, .unset, .unset] [(.int v3)])) tgt
      refine XS.iload X19.here hx rfl (hb hby at_161) rfl ?_
      exact kont)
    obtain ⟨b15, hb15, go22⟩ : ∃ b15 : Int32, ((b15 = 1 ∧ ((own_cs v3 v7 v8 v9) = (own_cs v4 v10 v11 v12))) ∨ (b15 = 0 ∧ ¬ ((own_cs v3 v7 v8 v9) = (own_cs v4 v10 v11 v12)))) ∧ ∀ tgt, Steps p.tables e below (T19.setTop (mkF m 209 #[.val (.int p0), .val (.int p1), .val (.int p2), .val (.int v3), .val (.int v4), .val (.int b5), .val (.int b6), .val (.int v7), .val (.int v8), .val (.int v9), .val (.int v10), .val (.int v11), .val (.int v12), .val (.ref sa), .val (.ref sb), .val (.int b15), .unset, .unset] [])) tgt → Steps p.tables e below E0 tgt := by
      by_cases u0 : v3 = v4
      · rcases r3 with z | z | z | z
        · have ea : (own_cs v3 v7 v8 v9) = [] := by rw [own_cs, z]; rfl
          have eb : (own_cs v4 v10 v11 v12) = [] := by rw [own_cs, (u0.symm.trans z)]; rfl
          exact ⟨1, Or.inl ⟨rfl, by rw [ea, eb]⟩, fun tgt kont => go21 tgt (by
              show Steps p.tables e below (T19.setTop (mkF m 163 #[.val (.int p0), .val (.int p1), .val (.int p2), .val (.int v3), .val (.int v4), .val (.int b5), .val (.int b6), .val (.int v7), .val (.int v8), .val (.int v9), .val (.int v10), .val (.int v11), .val (.int v12), .val (.ref sa), .val (.ref sb), .unset, .unset, .unset] [(.int v4), (.int v3)])) tgt
              refine XS.icmpNo X19.here hx rfl (hb hby at_163) rfl (teq u0).2 ?_
              show Steps p.tables e below (T19.setTop (mkF m 166 #[.val (.int p0), .val (.int p1), .val (.int p2), .val (.int v3), .val (.int v4), .val (.int b5), .val (.int b6), .val (.int v7), .val (.int v8), .val (.int v9), .val (.int v10), .val (.int v11), .val (.int v12), .val (.ref sa), .val (.ref sb), .unset, .unset, .unset] [])) tgt
              refine XS.iloadN X19.here hx rfl (hb hby at_166) rfl ?_
              show Steps p.tables e below (T19.setTop (mkF m 167 #[.val (.int p0), .val (.int p1), .val (.int p2), .val (.int v3), .val (.int v4), .val (.int b5), .val (.int b6), .val (.int v7), .val (.int v8), .val (.int v9), .val (.int v10), .val (.int v11), .val (.int v12), .val (.ref sa), .val (.ref sb), .unset, .unset, .unset] [(.int v3)])) tgt
              refine XS.iconst X19.here hx rfl (hb hby at_167) ?_
              show Steps p.tables e below (T19.setTop (mkF m 168 #[.val (.int p0), .val (.int p1), .val (.int p2), .val (.int v3), .val (.int v4), .val (.int b5), .val (.int b6), .val (.int v7), .val (.int v8), .val (.int v9), .val (.int v10), .val (.int v11), .val (.int v12), .val (.ref sa), .val (.ref sb), .unset, .unset, .unset] [(.int (1 : Int32)), (.int v3)])) tgt
              refine XS.icmpYes X19.here hx rfl (pc0 := 168) (pc' := 178) rfl (hb hby at_168) rfl (tlt (by rw [z]; decide)).1 (by decide) (by decide) ?_
              show Steps p.tables e below (T19.setTop (mkF m 178 #[.val (.int p0), .val (.int p1), .val (.int p2), .val (.int v3), .val (.int v4), .val (.int b5), .val (.int b6), .val (.int v7), .val (.int v8), .val (.int v9), .val (.int v10), .val (.int v11), .val (.int v12), .val (.ref sa), .val (.ref sb), .unset, .unset, .unset] [])) tgt
              refine XS.iloadN X19.here hx rfl (hb hby at_178) rfl ?_
              show Steps p.tables e below (T19.setTop (mkF m 179 #[.val (.int p0), .val (.int p1), .val (.int p2), .val (.int v3), .val (.int v4), .val (.int b5), .val (.int b6), .val (.int v7), .val (.int v8), .val (.int v9), .val (.int v10), .val (.int v11), .val (.int v12), .val (.ref sa), .val (.ref sb), .unset, .unset, .unset] [(.int v3)])) tgt
              refine XS.iconst X19.here hx rfl (hb hby at_179) ?_
              show Steps p.tables e below (T19.setTop (mkF m 180 #[.val (.int p0), .val (.int p1), .val (.int p2), .val (.int v3), .val (.int v4), .val (.int b5), .val (.int b6), .val (.int v7), .val (.int v8), .val (.int v9), .val (.int v10), .val (.int v11), .val (.int v12), .val (.ref sa), .val (.ref sb), .unset, .unset, .unset] [(.int (2 : Int32)), (.int v3)])) tgt
              refine XS.icmpYes X19.here hx rfl (pc0 := 180) (pc' := 190) rfl (hb hby at_180) rfl (tlt (by rw [z]; decide)).1 (by decide) (by decide) ?_
              show Steps p.tables e below (T19.setTop (mkF m 190 #[.val (.int p0), .val (.int p1), .val (.int p2), .val (.int v3), .val (.int v4), .val (.int b5), .val (.int b6), .val (.int v7), .val (.int v8), .val (.int v9), .val (.int v10), .val (.int v11), .val (.int v12), .val (.ref sa), .val (.ref sb), .unset, .unset, .unset] [])) tgt
              refine XS.iloadN X19.here hx rfl (hb hby at_190) rfl ?_
              show Steps p.tables e below (T19.setTop (mkF m 191 #[.val (.int p0), .val (.int p1), .val (.int p2), .val (.int v3), .val (.int v4), .val (.int b5), .val (.int b6), .val (.int v7), .val (.int v8), .val (.int v9), .val (.int v10), .val (.int v11), .val (.int v12), .val (.ref sa), .val (.ref sb), .unset, .unset, .unset] [(.int v3)])) tgt
              refine XS.iconst X19.here hx rfl (hb hby at_191) ?_
              show Steps p.tables e below (T19.setTop (mkF m 192 #[.val (.int p0), .val (.int p1), .val (.int p2), .val (.int v3), .val (.int v4), .val (.int b5), .val (.int b6), .val (.int v7), .val (.int v8), .val (.int v9), .val (.int v10), .val (.int v11), .val (.int v12), .val (.ref sa), .val (.ref sb), .unset, .unset, .unset] [(.int (3 : Int32)), (.int v3)])) tgt
              refine XS.icmpYes X19.here hx rfl (pc0 := 192) (pc' := 202) rfl (hb hby at_192) rfl (tlt (by rw [z]; decide)).1 (by decide) (by decide) ?_
              show Steps p.tables e below (T19.setTop (mkF m 202 #[.val (.int p0), .val (.int p1), .val (.int p2), .val (.int v3), .val (.int v4), .val (.int b5), .val (.int b6), .val (.int v7), .val (.int v8), .val (.int v9), .val (.int v10), .val (.int v11), .val (.int v12), .val (.ref sa), .val (.ref sb), .unset, .unset, .unset] [])) tgt
              refine XS.iconst X19.here hx rfl (hb hby at_202) ?_
              show Steps p.tables e below (T19.setTop (mkF m 203 #[.val (.int p0), .val (.int p1), .val (.int p2), .val (.int v3), .val (.int v4), .val (.int b5), .val (.int b6), .val (.int v7), .val (.int v8), .val (.int v9), .val (.int v10), .val (.int v11), .val (.int v12), .val (.ref sa), .val (.ref sb), .unset, .unset, .unset] [(.int (1 : Int32))])) tgt
              refine XS.goto X19.here hx rfl (pc0 := 203) (pc' := 207) rfl (hb hby at_203) (by decide) (by decide) ?_
              show Steps p.tables e below (T19.setTop (mkF m 207 #[.val (.int p0), .val (.int p1), .val (.int p2), .val (.int v3), .val (.int v4), .val (.int b5), .val (.int b6), .val (.int v7), .val (.int v8), .val (.int v9), .val (.int v10), .val (.int v11), .val (.int v12), .val (.ref sa), .val (.ref sb), .unset, .unset, .unset] [(.int (1 : Int32))])) tgt
              refine XS.istore X19.here hx rfl (hb hby at_207) rfl (l' := #[.val (.int p0), .val (.int p1), .val (.int p2), .val (.int v3), .val (.int v4), .val (.int b5), .val (.int b6), .val (.int v7), .val (.int v8), .val (.int v9), .val (.int v10), .val (.int v11), .val (.int v12), .val (.ref sa), .val (.ref sb), .val (.int (1 : Int32)), .unset, .unset]) rfl ?_
              exact kont)⟩
        · have ea : (own_cs v3 v7 v8 v9) = [v7] := by rw [own_cs, z]; rfl
          have eb : (own_cs v4 v10 v11 v12) = [v10] := by rw [own_cs, (u0.symm.trans z)]; rfl
          by_cases w0 : v7 = v10
          · exact ⟨1, Or.inl ⟨rfl, by rw [ea, eb, w0]⟩, fun tgt kont => go21 tgt (by
                show Steps p.tables e below (T19.setTop (mkF m 163 #[.val (.int p0), .val (.int p1), .val (.int p2), .val (.int v3), .val (.int v4), .val (.int b5), .val (.int b6), .val (.int v7), .val (.int v8), .val (.int v9), .val (.int v10), .val (.int v11), .val (.int v12), .val (.ref sa), .val (.ref sb), .unset, .unset, .unset] [(.int v4), (.int v3)])) tgt
                refine XS.icmpNo X19.here hx rfl (hb hby at_163) rfl (teq u0).2 ?_
                show Steps p.tables e below (T19.setTop (mkF m 166 #[.val (.int p0), .val (.int p1), .val (.int p2), .val (.int v3), .val (.int v4), .val (.int b5), .val (.int b6), .val (.int v7), .val (.int v8), .val (.int v9), .val (.int v10), .val (.int v11), .val (.int v12), .val (.ref sa), .val (.ref sb), .unset, .unset, .unset] [])) tgt
                refine XS.iloadN X19.here hx rfl (hb hby at_166) rfl ?_
                show Steps p.tables e below (T19.setTop (mkF m 167 #[.val (.int p0), .val (.int p1), .val (.int p2), .val (.int v3), .val (.int v4), .val (.int b5), .val (.int b6), .val (.int v7), .val (.int v8), .val (.int v9), .val (.int v10), .val (.int v11), .val (.int v12), .val (.ref sa), .val (.ref sb), .unset, .unset, .unset] [(.int v3)])) tgt
                refine XS.iconst X19.here hx rfl (hb hby at_167) ?_
                show Steps p.tables e below (T19.setTop (mkF m 168 #[.val (.int p0), .val (.int p1), .val (.int p2), .val (.int v3), .val (.int v4), .val (.int b5), .val (.int b6), .val (.int v7), .val (.int v8), .val (.int v9), .val (.int v10), .val (.int v11), .val (.int v12), .val (.ref sa), .val (.ref sb), .unset, .unset, .unset] [(.int (1 : Int32)), (.int v3)])) tgt
                refine XS.icmpNo X19.here hx rfl (hb hby at_168) rfl (flt (by rw [z]; decide)).1 ?_
                show Steps p.tables e below (T19.setTop (mkF m 171 #[.val (.int p0), .val (.int p1), .val (.int p2), .val (.int v3), .val (.int v4), .val (.int b5), .val (.int b6), .val (.int v7), .val (.int v8), .val (.int v9), .val (.int v10), .val (.int v11), .val (.int v12), .val (.ref sa), .val (.ref sb), .unset, .unset, .unset] [])) tgt
                refine XS.iload X19.here hx rfl (hb hby at_171) rfl ?_
                show Steps p.tables e below (T19.setTop (mkF m 173 #[.val (.int p0), .val (.int p1), .val (.int p2), .val (.int v3), .val (.int v4), .val (.int b5), .val (.int b6), .val (.int v7), .val (.int v8), .val (.int v9), .val (.int v10), .val (.int v11), .val (.int v12), .val (.ref sa), .val (.ref sb), .unset, .unset, .unset] [(.int v7)])) tgt
                refine XS.iload X19.here hx rfl (hb hby at_173) rfl ?_
                show Steps p.tables e below (T19.setTop (mkF m 175 #[.val (.int p0), .val (.int p1), .val (.int p2), .val (.int v3), .val (.int v4), .val (.int b5), .val (.int b6), .val (.int v7), .val (.int v8), .val (.int v9), .val (.int v10), .val (.int v11), .val (.int v12), .val (.ref sa), .val (.ref sb), .unset, .unset, .unset] [(.int v10), (.int v7)])) tgt
                refine XS.icmpNo X19.here hx rfl (hb hby at_175) rfl (teq w0).2 ?_
                show Steps p.tables e below (T19.setTop (mkF m 178 #[.val (.int p0), .val (.int p1), .val (.int p2), .val (.int v3), .val (.int v4), .val (.int b5), .val (.int b6), .val (.int v7), .val (.int v8), .val (.int v9), .val (.int v10), .val (.int v11), .val (.int v12), .val (.ref sa), .val (.ref sb), .unset, .unset, .unset] [])) tgt
                refine XS.iloadN X19.here hx rfl (hb hby at_178) rfl ?_
                show Steps p.tables e below (T19.setTop (mkF m 179 #[.val (.int p0), .val (.int p1), .val (.int p2), .val (.int v3), .val (.int v4), .val (.int b5), .val (.int b6), .val (.int v7), .val (.int v8), .val (.int v9), .val (.int v10), .val (.int v11), .val (.int v12), .val (.ref sa), .val (.ref sb), .unset, .unset, .unset] [(.int v3)])) tgt
                refine XS.iconst X19.here hx rfl (hb hby at_179) ?_
                show Steps p.tables e below (T19.setTop (mkF m 180 #[.val (.int p0), .val (.int p1), .val (.int p2), .val (.int v3), .val (.int v4), .val (.int b5), .val (.int b6), .val (.int v7), .val (.int v8), .val (.int v9), .val (.int v10), .val (.int v11), .val (.int v12), .val (.ref sa), .val (.ref sb), .unset, .unset, .unset] [(.int (2 : Int32)), (.int v3)])) tgt
                refine XS.icmpYes X19.here hx rfl (pc0 := 180) (pc' := 190) rfl (hb hby at_180) rfl (tlt (by rw [z]; decide)).1 (by decide) (by decide) ?_
                show Steps p.tables e below (T19.setTop (mkF m 190 #[.val (.int p0), .val (.int p1), .val (.int p2), .val (.int v3), .val (.int v4), .val (.int b5), .val (.int b6), .val (.int v7), .val (.int v8), .val (.int v9), .val (.int v10), .val (.int v11), .val (.int v12), .val (.ref sa), .val (.ref sb), .unset, .unset, .unset] [])) tgt
                refine XS.iloadN X19.here hx rfl (hb hby at_190) rfl ?_
                show Steps p.tables e below (T19.setTop (mkF m 191 #[.val (.int p0), .val (.int p1), .val (.int p2), .val (.int v3), .val (.int v4), .val (.int b5), .val (.int b6), .val (.int v7), .val (.int v8), .val (.int v9), .val (.int v10), .val (.int v11), .val (.int v12), .val (.ref sa), .val (.ref sb), .unset, .unset, .unset] [(.int v3)])) tgt
                refine XS.iconst X19.here hx rfl (hb hby at_191) ?_
                show Steps p.tables e below (T19.setTop (mkF m 192 #[.val (.int p0), .val (.int p1), .val (.int p2), .val (.int v3), .val (.int v4), .val (.int b5), .val (.int b6), .val (.int v7), .val (.int v8), .val (.int v9), .val (.int v10), .val (.int v11), .val (.int v12), .val (.ref sa), .val (.ref sb), .unset, .unset, .unset] [(.int (3 : Int32)), (.int v3)])) tgt
                refine XS.icmpYes X19.here hx rfl (pc0 := 192) (pc' := 202) rfl (hb hby at_192) rfl (tlt (by rw [z]; decide)).1 (by decide) (by decide) ?_
                show Steps p.tables e below (T19.setTop (mkF m 202 #[.val (.int p0), .val (.int p1), .val (.int p2), .val (.int v3), .val (.int v4), .val (.int b5), .val (.int b6), .val (.int v7), .val (.int v8), .val (.int v9), .val (.int v10), .val (.int v11), .val (.int v12), .val (.ref sa), .val (.ref sb), .unset, .unset, .unset] [])) tgt
                refine XS.iconst X19.here hx rfl (hb hby at_202) ?_
                show Steps p.tables e below (T19.setTop (mkF m 203 #[.val (.int p0), .val (.int p1), .val (.int p2), .val (.int v3), .val (.int v4), .val (.int b5), .val (.int b6), .val (.int v7), .val (.int v8), .val (.int v9), .val (.int v10), .val (.int v11), .val (.int v12), .val (.ref sa), .val (.ref sb), .unset, .unset, .unset] [(.int (1 : Int32))])) tgt
                refine XS.goto X19.here hx rfl (pc0 := 203) (pc' := 207) rfl (hb hby at_203) (by decide) (by decide) ?_
                show Steps p.tables e below (T19.setTop (mkF m 207 #[.val (.int p0), .val (.int p1), .val (.int p2), .val (.int v3), .val (.int v4), .val (.int b5), .val (.int b6), .val (.int v7), .val (.int v8), .val (.int v9), .val (.int v10), .val (.int v11), .val (.int v12), .val (.ref sa), .val (.ref sb), .unset, .unset, .unset] [(.int (1 : Int32))])) tgt
                refine XS.istore X19.here hx rfl (hb hby at_207) rfl (l' := #[.val (.int p0), .val (.int p1), .val (.int p2), .val (.int v3), .val (.int v4), .val (.int b5), .val (.int b6), .val (.int v7), .val (.int v8), .val (.int v9), .val (.int v10), .val (.int v11), .val (.int v12), .val (.ref sa), .val (.ref sb), .val (.int (1 : Int32)), .unset, .unset]) rfl ?_
                exact kont)⟩
          · exact ⟨0, Or.inr ⟨rfl, fun q => w0 (by first | rfl | (rw [ea, eb] at q; simp only [List.cons.injEq, and_true] at q; first | exact q | exact q.1 | exact q.2 | exact q.2.1 | exact q.2.2))⟩, fun tgt kont => go21 tgt (by
              show Steps p.tables e below (T19.setTop (mkF m 163 #[.val (.int p0), .val (.int p1), .val (.int p2), .val (.int v3), .val (.int v4), .val (.int b5), .val (.int b6), .val (.int v7), .val (.int v8), .val (.int v9), .val (.int v10), .val (.int v11), .val (.int v12), .val (.ref sa), .val (.ref sb), .unset, .unset, .unset] [(.int v4), (.int v3)])) tgt
              refine XS.icmpNo X19.here hx rfl (hb hby at_163) rfl (teq u0).2 ?_
              show Steps p.tables e below (T19.setTop (mkF m 166 #[.val (.int p0), .val (.int p1), .val (.int p2), .val (.int v3), .val (.int v4), .val (.int b5), .val (.int b6), .val (.int v7), .val (.int v8), .val (.int v9), .val (.int v10), .val (.int v11), .val (.int v12), .val (.ref sa), .val (.ref sb), .unset, .unset, .unset] [])) tgt
              refine XS.iloadN X19.here hx rfl (hb hby at_166) rfl ?_
              show Steps p.tables e below (T19.setTop (mkF m 167 #[.val (.int p0), .val (.int p1), .val (.int p2), .val (.int v3), .val (.int v4), .val (.int b5), .val (.int b6), .val (.int v7), .val (.int v8), .val (.int v9), .val (.int v10), .val (.int v11), .val (.int v12), .val (.ref sa), .val (.ref sb), .unset, .unset, .unset] [(.int v3)])) tgt
              refine XS.iconst X19.here hx rfl (hb hby at_167) ?_
              show Steps p.tables e below (T19.setTop (mkF m 168 #[.val (.int p0), .val (.int p1), .val (.int p2), .val (.int v3), .val (.int v4), .val (.int b5), .val (.int b6), .val (.int v7), .val (.int v8), .val (.int v9), .val (.int v10), .val (.int v11), .val (.int v12), .val (.ref sa), .val (.ref sb), .unset, .unset, .unset] [(.int (1 : Int32)), (.int v3)])) tgt
              refine XS.icmpNo X19.here hx rfl (hb hby at_168) rfl (flt (by rw [z]; decide)).1 ?_
              show Steps p.tables e below (T19.setTop (mkF m 171 #[.val (.int p0), .val (.int p1), .val (.int p2), .val (.int v3), .val (.int v4), .val (.int b5), .val (.int b6), .val (.int v7), .val (.int v8), .val (.int v9), .val (.int v10), .val (.int v11), .val (.int v12), .val (.ref sa), .val (.ref sb), .unset, .unset, .unset] [])) tgt
              refine XS.iload X19.here hx rfl (hb hby at_171) rfl ?_
              show Steps p.tables e below (T19.setTop (mkF m 173 #[.val (.int p0), .val (.int p1), .val (.int p2), .val (.int v3), .val (.int v4), .val (.int b5), .val (.int b6), .val (.int v7), .val (.int v8), .val (.int v9), .val (.int v10), .val (.int v11), .val (.int v12), .val (.ref sa), .val (.ref sb), .unset, .unset, .unset] [(.int v7)])) tgt
              refine XS.iload X19.here hx rfl (hb hby at_173) rfl ?_
              show Steps p.tables e below (T19.setTop (mkF m 175 #[.val (.int p0), .val (.int p1), .val (.int p2), .val (.int v3), .val (.int v4), .val (.int b5), .val (.int b6), .val (.int v7), .val (.int v8), .val (.int v9), .val (.int v10), .val (.int v11), .val (.int v12), .val (.ref sa), .val (.ref sb), .unset, .unset, .unset] [(.int v10), (.int v7)])) tgt
              refine XS.icmpYes X19.here hx rfl (pc0 := 175) (pc' := 206) rfl (hb hby at_175) rfl (feq w0).2 (by decide) (by decide) ?_
              show Steps p.tables e below (T19.setTop (mkF m 206 #[.val (.int p0), .val (.int p1), .val (.int p2), .val (.int v3), .val (.int v4), .val (.int b5), .val (.int b6), .val (.int v7), .val (.int v8), .val (.int v9), .val (.int v10), .val (.int v11), .val (.int v12), .val (.ref sa), .val (.ref sb), .unset, .unset, .unset] [])) tgt
              refine XS.iconst X19.here hx rfl (hb hby at_206) ?_
              show Steps p.tables e below (T19.setTop (mkF m 207 #[.val (.int p0), .val (.int p1), .val (.int p2), .val (.int v3), .val (.int v4), .val (.int b5), .val (.int b6), .val (.int v7), .val (.int v8), .val (.int v9), .val (.int v10), .val (.int v11), .val (.int v12), .val (.ref sa), .val (.ref sb), .unset, .unset, .unset] [(.int (0 : Int32))])) tgt
              refine XS.istore X19.here hx rfl (hb hby at_207) rfl (l' := #[.val (.int p0), .val (.int p1), .val (.int p2), .val (.int v3), .val (.int v4), .val (.int b5), .val (.int b6), .val (.int v7), .val (.int v8), .val (.int v9), .val (.int v10), .val (.int v11), .val (.int v12), .val (.ref sa), .val (.ref sb), .val (.int (0 : Int32)), .unset, .unset]) rfl ?_
              exact kont)⟩
        · have ea : (own_cs v3 v7 v8 v9) = [v7, v8] := by rw [own_cs, z]; rfl
          have eb : (own_cs v4 v10 v11 v12) = [v10, v11] := by rw [own_cs, (u0.symm.trans z)]; rfl
          by_cases w0 : v7 = v10
          · by_cases w1 : v8 = v11
            · exact ⟨1, Or.inl ⟨rfl, by rw [ea, eb, w0, w1]⟩, fun tgt kont => go21 tgt (by
                  show Steps p.tables e below (T19.setTop (mkF m 163 #[.val (.int p0), .val (.int p1), .val (.int p2), .val (.int v3), .val (.int v4), .val (.int b5), .val (.int b6), .val (.int v7), .val (.int v8), .val (.int v9), .val (.int v10), .val (.int v11), .val (.int v12), .val (.ref sa), .val (.ref sb), .unset, .unset, .unset] [(.int v4), (.int v3)])) tgt
                  refine XS.icmpNo X19.here hx rfl (hb hby at_163) rfl (teq u0).2 ?_
                  show Steps p.tables e below (T19.setTop (mkF m 166 #[.val (.int p0), .val (.int p1), .val (.int p2), .val (.int v3), .val (.int v4), .val (.int b5), .val (.int b6), .val (.int v7), .val (.int v8), .val (.int v9), .val (.int v10), .val (.int v11), .val (.int v12), .val (.ref sa), .val (.ref sb), .unset, .unset, .unset] [])) tgt
                  refine XS.iloadN X19.here hx rfl (hb hby at_166) rfl ?_
                  show Steps p.tables e below (T19.setTop (mkF m 167 #[.val (.int p0), .val (.int p1), .val (.int p2), .val (.int v3), .val (.int v4), .val (.int b5), .val (.int b6), .val (.int v7), .val (.int v8), .val (.int v9), .val (.int v10), .val (.int v11), .val (.int v12), .val (.ref sa), .val (.ref sb), .unset, .unset, .unset] [(.int v3)])) tgt
                  refine XS.iconst X19.here hx rfl (hb hby at_167) ?_
                  show Steps p.tables e below (T19.setTop (mkF m 168 #[.val (.int p0), .val (.int p1), .val (.int p2), .val (.int v3), .val (.int v4), .val (.int b5), .val (.int b6), .val (.int v7), .val (.int v8), .val (.int v9), .val (.int v10), .val (.int v11), .val (.int v12), .val (.ref sa), .val (.ref sb), .unset, .unset, .unset] [(.int (1 : Int32)), (.int v3)])) tgt
                  refine XS.icmpNo X19.here hx rfl (hb hby at_168) rfl (flt (by rw [z]; decide)).1 ?_
                  show Steps p.tables e below (T19.setTop (mkF m 171 #[.val (.int p0), .val (.int p1), .val (.int p2), .val (.int v3), .val (.int v4), .val (.int b5), .val (.int b6), .val (.int v7), .val (.int v8), .val (.int v9), .val (.int v10), .val (.int v11), .val (.int v12), .val (.ref sa), .val (.ref sb), .unset, .unset, .unset] [])) tgt
                  refine XS.iload X19.here hx rfl (hb hby at_171) rfl ?_
                  show Steps p.tables e below (T19.setTop (mkF m 173 #[.val (.int p0), .val (.int p1), .val (.int p2), .val (.int v3), .val (.int v4), .val (.int b5), .val (.int b6), .val (.int v7), .val (.int v8), .val (.int v9), .val (.int v10), .val (.int v11), .val (.int v12), .val (.ref sa), .val (.ref sb), .unset, .unset, .unset] [(.int v7)])) tgt
                  refine XS.iload X19.here hx rfl (hb hby at_173) rfl ?_
                  show Steps p.tables e below (T19.setTop (mkF m 175 #[.val (.int p0), .val (.int p1), .val (.int p2), .val (.int v3), .val (.int v4), .val (.int b5), .val (.int b6), .val (.int v7), .val (.int v8), .val (.int v9), .val (.int v10), .val (.int v11), .val (.int v12), .val (.ref sa), .val (.ref sb), .unset, .unset, .unset] [(.int v10), (.int v7)])) tgt
                  refine XS.icmpNo X19.here hx rfl (hb hby at_175) rfl (teq w0).2 ?_
                  show Steps p.tables e below (T19.setTop (mkF m 178 #[.val (.int p0), .val (.int p1), .val (.int p2), .val (.int v3), .val (.int v4), .val (.int b5), .val (.int b6), .val (.int v7), .val (.int v8), .val (.int v9), .val (.int v10), .val (.int v11), .val (.int v12), .val (.ref sa), .val (.ref sb), .unset, .unset, .unset] [])) tgt
                  refine XS.iloadN X19.here hx rfl (hb hby at_178) rfl ?_
                  show Steps p.tables e below (T19.setTop (mkF m 179 #[.val (.int p0), .val (.int p1), .val (.int p2), .val (.int v3), .val (.int v4), .val (.int b5), .val (.int b6), .val (.int v7), .val (.int v8), .val (.int v9), .val (.int v10), .val (.int v11), .val (.int v12), .val (.ref sa), .val (.ref sb), .unset, .unset, .unset] [(.int v3)])) tgt
                  refine XS.iconst X19.here hx rfl (hb hby at_179) ?_
                  show Steps p.tables e below (T19.setTop (mkF m 180 #[.val (.int p0), .val (.int p1), .val (.int p2), .val (.int v3), .val (.int v4), .val (.int b5), .val (.int b6), .val (.int v7), .val (.int v8), .val (.int v9), .val (.int v10), .val (.int v11), .val (.int v12), .val (.ref sa), .val (.ref sb), .unset, .unset, .unset] [(.int (2 : Int32)), (.int v3)])) tgt
                  refine XS.icmpNo X19.here hx rfl (hb hby at_180) rfl (flt (by rw [z]; decide)).1 ?_
                  show Steps p.tables e below (T19.setTop (mkF m 183 #[.val (.int p0), .val (.int p1), .val (.int p2), .val (.int v3), .val (.int v4), .val (.int b5), .val (.int b6), .val (.int v7), .val (.int v8), .val (.int v9), .val (.int v10), .val (.int v11), .val (.int v12), .val (.ref sa), .val (.ref sb), .unset, .unset, .unset] [])) tgt
                  refine XS.iload X19.here hx rfl (hb hby at_183) rfl ?_
                  show Steps p.tables e below (T19.setTop (mkF m 185 #[.val (.int p0), .val (.int p1), .val (.int p2), .val (.int v3), .val (.int v4), .val (.int b5), .val (.int b6), .val (.int v7), .val (.int v8), .val (.int v9), .val (.int v10), .val (.int v11), .val (.int v12), .val (.ref sa), .val (.ref sb), .unset, .unset, .unset] [(.int v8)])) tgt
                  refine XS.iload X19.here hx rfl (hb hby at_185) rfl ?_
                  show Steps p.tables e below (T19.setTop (mkF m 187 #[.val (.int p0), .val (.int p1), .val (.int p2), .val (.int v3), .val (.int v4), .val (.int b5), .val (.int b6), .val (.int v7), .val (.int v8), .val (.int v9), .val (.int v10), .val (.int v11), .val (.int v12), .val (.ref sa), .val (.ref sb), .unset, .unset, .unset] [(.int v11), (.int v8)])) tgt
                  refine XS.icmpNo X19.here hx rfl (hb hby at_187) rfl (teq w1).2 ?_
                  show Steps p.tables e below (T19.setTop (mkF m 190 #[.val (.int p0), .val (.int p1), .val (.int p2), .val (.int v3), .val (.int v4), .val (.int b5), .val (.int b6), .val (.int v7), .val (.int v8), .val (.int v9), .val (.int v10), .val (.int v11), .val (.int v12), .val (.ref sa), .val (.ref sb), .unset, .unset, .unset] [])) tgt
                  refine XS.iloadN X19.here hx rfl (hb hby at_190) rfl ?_
                  show Steps p.tables e below (T19.setTop (mkF m 191 #[.val (.int p0), .val (.int p1), .val (.int p2), .val (.int v3), .val (.int v4), .val (.int b5), .val (.int b6), .val (.int v7), .val (.int v8), .val (.int v9), .val (.int v10), .val (.int v11), .val (.int v12), .val (.ref sa), .val (.ref sb), .unset, .unset, .unset] [(.int v3)])) tgt
                  refine XS.iconst X19.here hx rfl (hb hby at_191) ?_
                  show Steps p.tables e below (T19.setTop (mkF m 192 #[.val (.int p0), .val (.int p1), .val (.int p2), .val (.int v3), .val (.int v4), .val (.int b5), .val (.int b6), .val (.int v7), .val (.int v8), .val (.int v9), .val (.int v10), .val (.int v11), .val (.int v12), .val (.ref sa), .val (.ref sb), .unset, .unset, .unset] [(.int (3 : Int32)), (.int v3)])) tgt
                  refine XS.icmpYes X19.here hx rfl (pc0 := 192) (pc' := 202) rfl (hb hby at_192) rfl (tlt (by rw [z]; decide)).1 (by decide) (by decide) ?_
                  show Steps p.tables e below (T19.setTop (mkF m 202 #[.val (.int p0), .val (.int p1), .val (.int p2), .val (.int v3), .val (.int v4), .val (.int b5), .val (.int b6), .val (.int v7), .val (.int v8), .val (.int v9), .val (.int v10), .val (.int v11), .val (.int v12), .val (.ref sa), .val (.ref sb), .unset, .unset, .unset] [])) tgt
                  refine XS.iconst X19.here hx rfl (hb hby at_202) ?_
                  show Steps p.tables e below (T19.setTop (mkF m 203 #[.val (.int p0), .val (.int p1), .val (.int p2), .val (.int v3), .val (.int v4), .val (.int b5), .val (.int b6), .val (.int v7), .val (.int v8), .val (.int v9), .val (.int v10), .val (.int v11), .val (.int v12), .val (.ref sa), .val (.ref sb), .unset, .unset, .unset] [(.int (1 : Int32))])) tgt
                  refine XS.goto X19.here hx rfl (pc0 := 203) (pc' := 207) rfl (hb hby at_203) (by decide) (by decide) ?_
                  show Steps p.tables e below (T19.setTop (mkF m 207 #[.val (.int p0), .val (.int p1), .val (.int p2), .val (.int v3), .val (.int v4), .val (.int b5), .val (.int b6), .val (.int v7), .val (.int v8), .val (.int v9), .val (.int v10), .val (.int v11), .val (.int v12), .val (.ref sa), .val (.ref sb), .unset, .unset, .unset] [(.int (1 : Int32))])) tgt
                  refine XS.istore X19.here hx rfl (hb hby at_207) rfl (l' := #[.val (.int p0), .val (.int p1), .val (.int p2), .val (.int v3), .val (.int v4), .val (.int b5), .val (.int b6), .val (.int v7), .val (.int v8), .val (.int v9), .val (.int v10), .val (.int v11), .val (.int v12), .val (.ref sa), .val (.ref sb), .val (.int (1 : Int32)), .unset, .unset]) rfl ?_
                  exact kont)⟩
            · exact ⟨0, Or.inr ⟨rfl, fun q => w1 (by first | rfl | (rw [ea, eb] at q; simp only [List.cons.injEq, and_true] at q; first | exact q | exact q.1 | exact q.2 | exact q.2.1 | exact q.2.2))⟩, fun tgt kont => go21 tgt (by
                show Steps p.tables e below (T19.setTop (mkF m 163 #[.val (.int p0), .val (.int p1), .val (.int p2), .val (.int v3), .val (.int v4), .val (.int b5), .val (.int b6), .val (.int v7), .val (.int v8), .val (.int v9), .val (.int v10), .val (.int v11), .val (.int v12), .val (.ref sa), .val (.ref sb), .unset, .unset, .unset] [(.int v4), (.int v3)])) tgt
                refine XS.icmpNo X19.here hx rfl (hb hby at_163) rfl (teq u0).2 ?_
                show Steps p.tables e below (T19.setTop (mkF m 166 #[.val (.int p0), .val (.int p1), .val (.int p2), .val (.int v3), .val (.int v4), .val (.int b5), .val (.int b6), .val (.int v7), .val (.int v8), .val (.int v9), .val (.int v10), .val (.int v11), .val (.int v12), .val (.ref sa), .val (.ref sb), .unset, .unset, .unset] [])) tgt
                refine XS.iloadN X19.here hx rfl (hb hby at_166) rfl ?_
                show Steps p.tables e below (T19.setTop (mkF m 167 #[.val (.int p0), .val (.int p1), .val (.int p2), .val (.int v3), .val (.int v4), .val (.int b5), .val (.int b6), .val (.int v7), .val (.int v8), .val (.int v9), .val (.int v10), .val (.int v11), .val (.int v12), .val (.ref sa), .val (.ref sb), .unset, .unset, .unset] [(.int v3)])) tgt
                refine XS.iconst X19.here hx rfl (hb hby at_167) ?_
                show Steps p.tables e below (T19.setTop (mkF m 168 #[.val (.int p0), .val (.int p1), .val (.int p2), .val (.int v3), .val (.int v4), .val (.int b5), .val (.int b6), .val (.int v7), .val (.int v8), .val (.int v9), .val (.int v10), .val (.int v11), .val (.int v12), .val (.ref sa), .val (.ref sb), .unset, .unset, .unset] [(.int (1 : Int32)), (.int v3)])) tgt
                refine XS.icmpNo X19.here hx rfl (hb hby at_168) rfl (flt (by rw [z]; decide)).1 ?_
                show Steps p.tables e below (T19.setTop (mkF m 171 #[.val (.int p0), .val (.int p1), .val (.int p2), .val (.int v3), .val (.int v4), .val (.int b5), .val (.int b6), .val (.int v7), .val (.int v8), .val (.int v9), .val (.int v10), .val (.int v11), .val (.int v12), .val (.ref sa), .val (.ref sb), .unset, .unset, .unset] [])) tgt
                refine XS.iload X19.here hx rfl (hb hby at_171) rfl ?_
                show Steps p.tables e below (T19.setTop (mkF m 173 #[.val (.int p0), .val (.int p1), .val (.int p2), .val (.int v3), .val (.int v4), .val (.int b5), .val (.int b6), .val (.int v7), .val (.int v8), .val (.int v9), .val (.int v10), .val (.int v11), .val (.int v12), .val (.ref sa), .val (.ref sb), .unset, .unset, .unset] [(.int v7)])) tgt
                refine XS.iload X19.here hx rfl (hb hby at_173) rfl ?_
                show Steps p.tables e below (T19.setTop (mkF m 175 #[.val (.int p0), .val (.int p1), .val (.int p2), .val (.int v3), .val (.int v4), .val (.int b5), .val (.int b6), .val (.int v7), .val (.int v8), .val (.int v9), .val (.int v10), .val (.int v11), .val (.int v12), .val (.ref sa), .val (.ref sb), .unset, .unset, .unset] [(.int v10), (.int v7)])) tgt
                refine XS.icmpNo X19.here hx rfl (hb hby at_175) rfl (teq w0).2 ?_
                show Steps p.tables e below (T19.setTop (mkF m 178 #[.val (.int p0), .val (.int p1), .val (.int p2), .val (.int v3), .val (.int v4), .val (.int b5), .val (.int b6), .val (.int v7), .val (.int v8), .val (.int v9), .val (.int v10), .val (.int v11), .val (.int v12), .val (.ref sa), .val (.ref sb), .unset, .unset, .unset] [])) tgt
                refine XS.iloadN X19.here hx rfl (hb hby at_178) rfl ?_
                show Steps p.tables e below (T19.setTop (mkF m 179 #[.val (.int p0), .val (.int p1), .val (.int p2), .val (.int v3), .val (.int v4), .val (.int b5), .val (.int b6), .val (.int v7), .val (.int v8), .val (.int v9), .val (.int v10), .val (.int v11), .val (.int v12), .val (.ref sa), .val (.ref sb), .unset, .unset, .unset] [(.int v3)])) tgt
                refine XS.iconst X19.here hx rfl (hb hby at_179) ?_
                show Steps p.tables e below (T19.setTop (mkF m 180 #[.val (.int p0), .val (.int p1), .val (.int p2), .val (.int v3), .val (.int v4), .val (.int b5), .val (.int b6), .val (.int v7), .val (.int v8), .val (.int v9), .val (.int v10), .val (.int v11), .val (.int v12), .val (.ref sa), .val (.ref sb), .unset, .unset, .unset] [(.int (2 : Int32)), (.int v3)])) tgt
                refine XS.icmpNo X19.here hx rfl (hb hby at_180) rfl (flt (by rw [z]; decide)).1 ?_
                show Steps p.tables e below (T19.setTop (mkF m 183 #[.val (.int p0), .val (.int p1), .val (.int p2), .val (.int v3), .val (.int v4), .val (.int b5), .val (.int b6), .val (.int v7), .val (.int v8), .val (.int v9), .val (.int v10), .val (.int v11), .val (.int v12), .val (.ref sa), .val (.ref sb), .unset, .unset, .unset] [])) tgt
                refine XS.iload X19.here hx rfl (hb hby at_183) rfl ?_
                show Steps p.tables e below (T19.setTop (mkF m 185 #[.val (.int p0), .val (.int p1), .val (.int p2), .val (.int v3), .val (.int v4), .val (.int b5), .val (.int b6), .val (.int v7), .val (.int v8), .val (.int v9), .val (.int v10), .val (.int v11), .val (.int v12), .val (.ref sa), .val (.ref sb), .unset, .unset, .unset] [(.int v8)])) tgt
                refine XS.iload X19.here hx rfl (hb hby at_185) rfl ?_
                show Steps p.tables e below (T19.setTop (mkF m 187 #[.val (.int p0), .val (.int p1), .val (.int p2), .val (.int v3), .val (.int v4), .val (.int b5), .val (.int b6), .val (.int v7), .val (.int v8), .val (.int v9), .val (.int v10), .val (.int v11), .val (.int v12), .val (.ref sa), .val (.ref sb), .unset, .unset, .unset] [(.int v11), (.int v8)])) tgt
                refine XS.icmpYes X19.here hx rfl (pc0 := 187) (pc' := 206) rfl (hb hby at_187) rfl (feq w1).2 (by decide) (by decide) ?_
                show Steps p.tables e below (T19.setTop (mkF m 206 #[.val (.int p0), .val (.int p1), .val (.int p2), .val (.int v3), .val (.int v4), .val (.int b5), .val (.int b6), .val (.int v7), .val (.int v8), .val (.int v9), .val (.int v10), .val (.int v11), .val (.int v12), .val (.ref sa), .val (.ref sb), .unset, .unset, .unset] [])) tgt
                refine XS.iconst X19.here hx rfl (hb hby at_206) ?_
                show Steps p.tables e below (T19.setTop (mkF m 207 #[.val (.int p0), .val (.int p1), .val (.int p2), .val (.int v3), .val (.int v4), .val (.int b5), .val (.int b6), .val (.int v7), .val (.int v8), .val (.int v9), .val (.int v10), .val (.int v11), .val (.int v12), .val (.ref sa), .val (.ref sb), .unset, .unset, .unset] [(.int (0 : Int32))])) tgt
                refine XS.istore X19.here hx rfl (hb hby at_207) rfl (l' := #[.val (.int p0), .val (.int p1), .val (.int p2), .val (.int v3), .val (.int v4), .val (.int b5), .val (.int b6), .val (.int v7), .val (.int v8), .val (.int v9), .val (.int v10), .val (.int v11), .val (.int v12), .val (.ref sa), .val (.ref sb), .val (.int (0 : Int32)), .unset, .unset]) rfl ?_
                exact kont)⟩
          · exact ⟨0, Or.inr ⟨rfl, fun q => w0 (by first | rfl | (rw [ea, eb] at q; simp only [List.cons.injEq, and_true] at q; first | exact q | exact q.1 | exact q.2 | exact q.2.1 | exact q.2.2))⟩, fun tgt kont => go21 tgt (by
              show Steps p.tables e below (T19.setTop (mkF m 163 #[.val (.int p0), .val (.int p1), .val (.int p2), .val (.int v3), .val (.int v4), .val (.int b5), .val (.int b6), .val (.int v7), .val (.int v8), .val (.int v9), .val (.int v10), .val (.int v11), .val (.int v12), .val (.ref sa), .val (.ref sb), .unset, .unset, .unset] [(.int v4), (.int v3)])) tgt
              refine XS.icmpNo X19.here hx rfl (hb hby at_163) rfl (teq u0).2 ?_
              show Steps p.tables e below (T19.setTop (mkF m 166 #[.val (.int p0), .val (.int p1), .val (.int p2), .val (.int v3), .val (.int v4), .val (.int b5), .val (.int b6), .val (.int v7), .val (.int v8), .val (.int v9), .val (.int v10), .val (.int v11), .val (.int v12), .val (.ref sa), .val (.ref sb), .unset, .unset, .unset] [])) tgt
              refine XS.iloadN X19.here hx rfl (hb hby at_166) rfl ?_
              show Steps p.tables e below (T19.setTop (mkF m 167 #[.val (.int p0), .val (.int p1), .val (.int p2), .val (.int v3), .val (.int v4), .val (.int b5), .val (.int b6), .val (.int v7), .val (.int v8), .val (.int v9), .val (.int v10), .val (.int v11), .val (.int v12), .val (.ref sa), .val (.ref sb), .unset, .unset, .unset] [(.int v3)])) tgt
              refine XS.iconst X19.here hx rfl (hb hby at_167) ?_
              show Steps p.tables e below (T19.setTop (mkF m 168 #[.val (.int p0), .val (.int p1), .val (.int p2), .val (.int v3), .val (.int v4), .val (.int b5), .val (.int b6), .val (.int v7), .val (.int v8), .val (.int v9), .val (.int v10), .val (.int v11), .val (.int v12), .val (.ref sa), .val (.ref sb), .unset, .unset, .unset] [(.int (1 : Int32)), (.int v3)])) tgt
              refine XS.icmpNo X19.here hx rfl (hb hby at_168) rfl (flt (by rw [z]; decide)).1 ?_
              show Steps p.tables e below (T19.setTop (mkF m 171 #[.val (.int p0), .val (.int p1), .val (.int p2), .val (.int v3), .val (.int v4), .val (.int b5), .val (.int b6), .val (.int v7), .val (.int v8), .val (.int v9), .val (.int v10), .val (.int v11), .val (.int v12), .val (.ref sa), .val (.ref sb), .unset, .unset, .unset] [])) tgt
              refine XS.iload X19.here hx rfl (hb hby at_171) rfl ?_
              show Steps p.tables e below (T19.setTop (mkF m 173 #[.val (.int p0), .val (.int p1), .val (.int p2), .val (.int v3), .val (.int v4), .val (.int b5), .val (.int b6), .val (.int v7), .val (.int v8), .val (.int v9), .val (.int v10), .val (.int v11), .val (.int v12), .val (.ref sa), .val (.ref sb), .unset, .unset, .unset] [(.int v7)])) tgt
              refine XS.iload X19.here hx rfl (hb hby at_173) rfl ?_
              show Steps p.tables e below (T19.setTop (mkF m 175 #[.val (.int p0), .val (.int p1), .val (.int p2), .val (.int v3), .val (.int v4), .val (.int b5), .val (.int b6), .val (.int v7), .val (.int v8), .val (.int v9), .val (.int v10), .val (.int v11), .val (.int v12), .val (.ref sa), .val (.ref sb), .unset, .unset, .unset] [(.int v10), (.int v7)])) tgt
              refine XS.icmpYes X19.here hx rfl (pc0 := 175) (pc' := 206) rfl (hb hby at_175) rfl (feq w0).2 (by decide) (by decide) ?_
              show Steps p.tables e below (T19.setTop (mkF m 206 #[.val (.int p0), .val (.int p1), .val (.int p2), .val (.int v3), .val (.int v4), .val (.int b5), .val (.int b6), .val (.int v7), .val (.int v8), .val (.int v9), .val (.int v10), .val (.int v11), .val (.int v12), .val (.ref sa), .val (.ref sb), .unset, .unset, .unset] [])) tgt
              refine XS.iconst X19.here hx rfl (hb hby at_206) ?_
              show Steps p.tables e below (T19.setTop (mkF m 207 #[.val (.int p0), .val (.int p1), .val (.int p2), .val (.int v3), .val (.int v4), .val (.int b5), .val (.int b6), .val (.int v7), .val (.int v8), .val (.int v9), .val (.int v10), .val (.int v11), .val (.int v12), .val (.ref sa), .val (.ref sb), .unset, .unset, .unset] [(.int (0 : Int32))])) tgt
              refine XS.istore X19.here hx rfl (hb hby at_207) rfl (l' := #[.val (.int p0), .val (.int p1), .val (.int p2), .val (.int v3), .val (.int v4), .val (.int b5), .val (.int b6), .val (.int v7), .val (.int v8), .val (.int v9), .val (.int v10), .val (.int v11), .val (.int v12), .val (.ref sa), .val (.ref sb), .val (.int (0 : Int32)), .unset, .unset]) rfl ?_
              exact kont)⟩
        · have ea : (own_cs v3 v7 v8 v9) = [v7, v8, v9] := by rw [own_cs, z]; rfl
          have eb : (own_cs v4 v10 v11 v12) = [v10, v11, v12] := by rw [own_cs, (u0.symm.trans z)]; rfl
          by_cases w0 : v7 = v10
          · by_cases w1 : v8 = v11
            · by_cases w2 : v9 = v12
              · exact ⟨1, Or.inl ⟨rfl, by rw [ea, eb, w0, w1, w2]⟩, fun tgt kont => go21 tgt (by
                    show Steps p.tables e below (T19.setTop (mkF m 163 #[.val (.int p0), .val (.int p1), .val (.int p2), .val (.int v3), .val (.int v4), .val (.int b5), .val (.int b6), .val (.int v7), .val (.int v8), .val (.int v9), .val (.int v10), .val (.int v11), .val (.int v12), .val (.ref sa), .val (.ref sb), .unset, .unset, .unset] [(.int v4), (.int v3)])) tgt
                    refine XS.icmpNo X19.here hx rfl (hb hby at_163) rfl (teq u0).2 ?_
                    show Steps p.tables e below (T19.setTop (mkF m 166 #[.val (.int p0), .val (.int p1), .val (.int p2), .val (.int v3), .val (.int v4), .val (.int b5), .val (.int b6), .val (.int v7), .val (.int v8), .val (.int v9), .val (.int v10), .val (.int v11), .val (.int v12), .val (.ref sa), .val (.ref sb), .unset, .unset, .unset] [])) tgt
                    refine XS.iloadN X19.here hx rfl (hb hby at_166) rfl ?_
                    show Steps p.tables e below (T19.setTop (mkF m 167 #[.val (.int p0), .val (.int p1), .val (.int p2), .val (.int v3), .val (.int v4), .val (.int b5), .val (.int b6), .val (.int v7), .val (.int v8), .val (.int v9), .val (.int v10), .val (.int v11), .val (.int v12), .val (.ref sa), .val (.ref sb), .unset, .unset, .unset] [(.int v3)])) tgt
                    refine XS.iconst X19.here hx rfl (hb hby at_167) ?_
                    show Steps p.tables e below (T19.setTop (mkF m 168 #[.val (.int p0), .val (.int p1), .val (.int p2), .val (.int v3), .val (.int v4), .val (.int b5), .val (.int b6), .val (.int v7), .val (.int v8), .val (.int v9), .val (.int v10), .val (.int v11), .val (.int v12), .val (.ref sa), .val (.ref sb), .unset, .unset, .unset] [(.int (1 : Int32)), (.int v3)])) tgt
                    refine XS.icmpNo X19.here hx rfl (hb hby at_168) rfl (flt (by rw [z]; decide)).1 ?_
                    show Steps p.tables e below (T19.setTop (mkF m 171 #[.val (.int p0), .val (.int p1), .val (.int p2), .val (.int v3), .val (.int v4), .val (.int b5), .val (.int b6), .val (.int v7), .val (.int v8), .val (.int v9), .val (.int v10), .val (.int v11), .val (.int v12), .val (.ref sa), .val (.ref sb), .unset, .unset, .unset] [])) tgt
                    refine XS.iload X19.here hx rfl (hb hby at_171) rfl ?_
                    show Steps p.tables e below (T19.setTop (mkF m 173 #[.val (.int p0), .val (.int p1), .val (.int p2), .val (.int v3), .val (.int v4), .val (.int b5), .val (.int b6), .val (.int v7), .val (.int v8), .val (.int v9), .val (.int v10), .val (.int v11), .val (.int v12), .val (.ref sa), .val (.ref sb), .unset, .unset, .unset] [(.int v7)])) tgt
                    refine XS.iload X19.here hx rfl (hb hby at_173) rfl ?_
                    show Steps p.tables e below (T19.setTop (mkF m 175 #[.val (.int p0), .val (.int p1), .val (.int p2), .val (.int v3), .val (.int v4), .val (.int b5), .val (.int b6), .val (.int v7), .val (.int v8), .val (.int v9), .val (.int v10), .val (.int v11), .val (.int v12), .val (.ref sa), .val (.ref sb), .unset, .unset, .unset] [(.int v10), (.int v7)])) tgt
                    refine XS.icmpNo X19.here hx rfl (hb hby at_175) rfl (teq w0).2 ?_
                    show Steps p.tables e below (T19.setTop (mkF m 178 #[.val (.int p0), .val (.int p1), .val (.int p2), .val (.int v3), .val (.int v4), .val (.int b5), .val (.int b6), .val (.int v7), .val (.int v8), .val (.int v9), .val (.int v10), .val (.int v11), .val (.int v12), .val (.ref sa), .val (.ref sb), .unset, .unset, .unset] [])) tgt
                    refine XS.iloadN X19.here hx rfl (hb hby at_178) rfl ?_
                    show Steps p.tables e below (T19.setTop (mkF m 179 #[.val (.int p0), .val (.int p1), .val (.int p2), .val (.int v3), .val (.int v4), .val (.int b5), .val (.int b6), .val (.int v7), .val (.int v8), .val (.int v9), .val (.int v10), .val (.int v11), .val (.int v12), .val (.ref sa), .val (.ref sb), .unset, .unset, .unset] [(.int v3)])) tgt
                    refine XS.iconst X19.here hx rfl (hb hby at_179) ?_
                    show Steps p.tables e below (T19.setTop (mkF m 180 #[.val (.int p0), .val (.int p1), .val (.int p2), .val (.int v3), .val (.int v4), .val (.int b5), .val (.int b6), .val (.int v7), .val (.int v8), .val (.int v9), .val (.int v10), .val (.int v11), .val (.int v12), .val (.ref sa), .val (.ref sb), .unset, .unset, .unset] [(.int (2 : Int32)), (.int v3)])) tgt
                    refine XS.icmpNo X19.here hx rfl (hb hby at_180) rfl (flt (by rw [z]; decide)).1 ?_
                    show Steps p.tables e below (T19.setTop (mkF m 183 #[.val (.int p0), .val (.int p1), .val (.int p2), .val (.int v3), .val (.int v4), .val (.int b5), .val (.int b6), .val (.int v7), .val (.int v8), .val (.int v9), .val (.int v10), .val (.int v11), .val (.int v12), .val (.ref sa), .val (.ref sb), .unset, .unset, .unset] [])) tgt
                    refine XS.iload X19.here hx rfl (hb hby at_183) rfl ?_
                    show Steps p.tables e below (T19.setTop (mkF m 185 #[.val (.int p0), .val (.int p1), .val (.int p2), .val (.int v3), .val (.int v4), .val (.int b5), .val (.int b6), .val (.int v7), .val (.int v8), .val (.int v9), .val (.int v10), .val (.int v11), .val (.int v12), .val (.ref sa), .val (.ref sb), .unset, .unset, .unset] [(.int v8)])) tgt
                    refine XS.iload X19.here hx rfl (hb hby at_185) rfl ?_
                    show Steps p.tables e below (T19.setTop (mkF m 187 #[.val (.int p0), .val (.int p1), .val (.int p2), .val (.int v3), .val (.int v4), .val (.int b5), .val (.int b6), .val (.int v7), .val (.int v8), .val (.int v9), .val (.int v10), .val (.int v11), .val (.int v12), .val (.ref sa), .val (.ref sb), .unset, .unset, .unset] [(.int v11), (.int v8)])) tgt
                    refine XS.icmpNo X19.here hx rfl (hb hby at_187) rfl (teq w1).2 ?_
                    show Steps p.tables e below (T19.setTop (mkF m 190 #[.val (.int p0), .val (.int p1), .val (.int p2), .val (.int v3), .val (.int v4), .val (.int b5), .val (.int b6), .val (.int v7), .val (.int v8), .val (.int v9), .val (.int v10), .val (.int v11), .val (.int v12), .val (.ref sa), .val (.ref sb), .unset, .unset, .unset] [])) tgt
                    refine XS.iloadN X19.here hx rfl (hb hby at_190) rfl ?_
                    show Steps p.tables e below (T19.setTop (mkF m 191 #[.val (.int p0), .val (.int p1), .val (.int p2), .val (.int v3), .val (.int v4), .val (.int b5), .val (.int b6), .val (.int v7), .val (.int v8), .val (.int v9), .val (.int v10), .val (.int v11), .val (.int v12), .val (.ref sa), .val (.ref sb), .unset, .unset, .unset] [(.int v3)])) tgt
                    refine XS.iconst X19.here hx rfl (hb hby at_191) ?_
                    show Steps p.tables e below (T19.setTop (mkF m 192 #[.val (.int p0), .val (.int p1), .val (.int p2), .val (.int v3), .val (.int v4), .val (.int b5), .val (.int b6), .val (.int v7), .val (.int v8), .val (.int v9), .val (.int v10), .val (.int v11), .val (.int v12), .val (.ref sa), .val (.ref sb), .unset, .unset, .unset] [(.int (3 : Int32)), (.int v3)])) tgt
                    refine XS.icmpNo X19.here hx rfl (hb hby at_192) rfl (flt (by rw [z]; decide)).1 ?_
                    show Steps p.tables e below (T19.setTop (mkF m 195 #[.val (.int p0), .val (.int p1), .val (.int p2), .val (.int v3), .val (.int v4), .val (.int b5), .val (.int b6), .val (.int v7), .val (.int v8), .val (.int v9), .val (.int v10), .val (.int v11), .val (.int v12), .val (.ref sa), .val (.ref sb), .unset, .unset, .unset] [])) tgt
                    refine XS.iload X19.here hx rfl (hb hby at_195) rfl ?_
                    show Steps p.tables e below (T19.setTop (mkF m 197 #[.val (.int p0), .val (.int p1), .val (.int p2), .val (.int v3), .val (.int v4), .val (.int b5), .val (.int b6), .val (.int v7), .val (.int v8), .val (.int v9), .val (.int v10), .val (.int v11), .val (.int v12), .val (.ref sa), .val (.ref sb), .unset, .unset, .unset] [(.int v9)])) tgt
                    refine XS.iload X19.here hx rfl (hb hby at_197) rfl ?_
                    show Steps p.tables e below (T19.setTop (mkF m 199 #[.val (.int p0), .val (.int p1), .val (.int p2), .val (.int v3), .val (.int v4), .val (.int b5), .val (.int b6), .val (.int v7), .val (.int v8), .val (.int v9), .val (.int v10), .val (.int v11), .val (.int v12), .val (.ref sa), .val (.ref sb), .unset, .unset, .unset] [(.int v12), (.int v9)])) tgt
                    refine XS.icmpNo X19.here hx rfl (hb hby at_199) rfl (teq w2).2 ?_
                    show Steps p.tables e below (T19.setTop (mkF m 202 #[.val (.int p0), .val (.int p1), .val (.int p2), .val (.int v3), .val (.int v4), .val (.int b5), .val (.int b6), .val (.int v7), .val (.int v8), .val (.int v9), .val (.int v10), .val (.int v11), .val (.int v12), .val (.ref sa), .val (.ref sb), .unset, .unset, .unset] [])) tgt
                    refine XS.iconst X19.here hx rfl (hb hby at_202) ?_
                    show Steps p.tables e below (T19.setTop (mkF m 203 #[.val (.int p0), .val (.int p1), .val (.int p2), .val (.int v3), .val (.int v4), .val (.int b5), .val (.int b6), .val (.int v7), .val (.int v8), .val (.int v9), .val (.int v10), .val (.int v11), .val (.int v12), .val (.ref sa), .val (.ref sb), .unset, .unset, .unset] [(.int (1 : Int32))])) tgt
                    refine XS.goto X19.here hx rfl (pc0 := 203) (pc' := 207) rfl (hb hby at_203) (by decide) (by decide) ?_
                    show Steps p.tables e below (T19.setTop (mkF m 207 #[.val (.int p0), .val (.int p1), .val (.int p2), .val (.int v3), .val (.int v4), .val (.int b5), .val (.int b6), .val (.int v7), .val (.int v8), .val (.int v9), .val (.int v10), .val (.int v11), .val (.int v12), .val (.ref sa), .val (.ref sb), .unset, .unset, .unset] [(.int (1 : Int32))])) tgt
                    refine XS.istore X19.here hx rfl (hb hby at_207) rfl (l' := #[.val (.int p0), .val (.int p1), .val (.int p2), .val (.int v3), .val (.int v4), .val (.int b5), .val (.int b6), .val (.int v7), .val (.int v8), .val (.int v9), .val (.int v10), .val (.int v11), .val (.int v12), .val (.ref sa), .val (.ref sb), .val (.int (1 : Int32)), .unset, .unset]) rfl ?_
                    exact kont)⟩
              · exact ⟨0, Or.inr ⟨rfl, fun q => w2 (by first | rfl | (rw [ea, eb] at q; simp only [List.cons.injEq, and_true] at q; first | exact q | exact q.1 | exact q.2 | exact q.2.1 | exact q.2.2))⟩, fun tgt kont => go21 tgt (by
                  show Steps p.tables e below (T19.setTop (mkF m 163 #[.val (.int p0), .val (.int p1), .val (.int p2), .val (.int v3), .val (.int v4), .val (.int b5), .val (.int b6), .val (.int v7), .val (.int v8), .val (.int v9), .val (.int v10), .val (.int v11), .val (.int v12), .val (.ref sa), .val (.ref sb), .unset, .unset, .unset] [(.int v4), (.int v3)])) tgt
                  refine XS.icmpNo X19.here hx rfl (hb hby at_163) rfl (teq u0).2 ?_
                  show Steps p.tables e below (T19.setTop (mkF m 166 #[.val (.int p0), .val (.int p1), .val (.int p2), .val (.int v3), .val (.int v4), .val (.int b5), .val (.int b6), .val (.int v7), .val (.int v8), .val (.int v9), .val (.int v10), .val (.int v11), .val (.int v12), .val (.ref sa), .val (.ref sb), .unset, .unset, .unset] [])) tgt
                  refine XS.iloadN X19.here hx rfl (hb hby at_166) rfl ?_
                  show Steps p.tables e below (T19.setTop (mkF m 167 #[.val (.int p0), .val (.int p1), .val (.int p2), .val (.int v3), .val (.int v4), .val (.int b5), .val (.int b6), .val (.int v7), .val (.int v8), .val (.int v9), .val (.int v10), .val (.int v11), .val (.int v12), .val (.ref sa), .val (.ref sb), .unset, .unset, .unset] [(.int v3)])) tgt
                  refine XS.iconst X19.here hx rfl (hb hby at_167) ?_
                  show Steps p.tables e below (T19.setTop (mkF m 168 #[.val (.int p0), .val (.int p1), .val (.int p2), .val (.int v3), .val (.int v4), .val (.int b5), .val (.int b6), .val (.int v7), .val (.int v8), .val (.int v9), .val (.int v10), .val (.int v11), .val (.int v12), .val (.ref sa), .val (.ref sb), .unset, .unset, .unset] [(.int (1 : Int32)), (.int v3)])) tgt
                  refine XS.icmpNo X19.here hx rfl (hb hby at_168) rfl (flt (by rw [z]; decide)).1 ?_
                  show Steps p.tables e below (T19.setTop (mkF m 171 #[.val (.int p0), .val (.int p1), .val (.int p2), .val (.int v3), .val (.int v4), .val (.int b5), .val (.int b6), .val (.int v7), .val (.int v8), .val (.int v9), .val (.int v10), .val (.int v11), .val (.int v12), .val (.ref sa), .val (.ref sb), .unset, .unset, .unset] [])) tgt
                  refine XS.iload X19.here hx rfl (hb hby at_171) rfl ?_
                  show Steps p.tables e below (T19.setTop (mkF m 173 #[.val (.int p0), .val (.int p1), .val (.int p2), .val (.int v3), .val (.int v4), .val (.int b5), .val (.int b6), .val (.int v7), .val (.int v8), .val (.int v9), .val (.int v10), .val (.int v11), .val (.int v12), .val (.ref sa), .val (.ref sb), .unset, .unset, .unset] [(.int v7)])) tgt
                  refine XS.iload X19.here hx rfl (hb hby at_173) rfl ?_
                  show Steps p.tables e below (T19.setTop (mkF m 175 #[.val (.int p0), .val (.int p1), .val (.int p2), .val (.int v3), .val (.int v4), .val (.int b5), .val (.int b6), .val (.int v7), .val (.int v8), .val (.int v9), .val (.int v10), .val (.int v11), .val (.int v12), .val (.ref sa), .val (.ref sb), .unset, .unset, .unset] [(.int v10), (.int v7)])) tgt
                  refine XS.icmpNo X19.here hx rfl (hb hby at_175) rfl (teq w0).2 ?_
                  show Steps p.tables e below (T19.setTop (mkF m 178 #[.val (.int p0), .val (.int p1), .val (.int p2), .val (.int v3), .val (.int v4), .val (.int b5), .val (.int b6), .val (.int v7), .val (.int v8), .val (.int v9), .val (.int v10), .val (.int v11), .val (.int v12), .val (.ref sa), .val (.ref sb), .unset, .unset, .unset] [])) tgt
                  refine XS.iloadN X19.here hx rfl (hb hby at_178) rfl ?_
                  show Steps p.tables e below (T19.setTop (mkF m 179 #[.val (.int p0), .val (.int p1), .val (.int p2), .val (.int v3), .val (.int v4), .val (.int b5), .val (.int b6), .val (.int v7), .val (.int v8), .val (.int v9), .val (.int v10), .val (.int v11), .val (.int v12), .val (.ref sa), .val (.ref sb), .unset, .unset, .unset] [(.int v3)])) tgt
                  refine XS.iconst X19.here hx rfl (hb hby at_179) ?_
                  show Steps p.tables e below (T19.setTop (mkF m 180 #[.val (.int p0), .val (.int p1), .val (.int p2), .val (.int v3), .val (.int v4), .val (.int b5), .val (.int b6), .val (.int v7), .val (.int v8), .val (.int v9), .val (.int v10), .val (.int v11), .val (.int v12), .val (.ref sa), .val (.ref sb), .unset, .unset, .unset] [(.int (2 : Int32)), (.int v3)])) tgt
                  refine XS.icmpNo X19.here hx rfl (hb hby at_180) rfl (flt (by rw [z]; decide)).1 ?_
                  show Steps p.tables e below (T19.setTop (mkF m 183 #[.val (.int p0), .val (.int p1), .val (.int p2), .val (.int v3), .val (.int v4), .val (.int b5), .val (.int b6), .val (.int v7), .val (.int v8), .val (.int v9), .val (.int v10), .val (.int v11), .val (.int v12), .val (.ref sa), .val (.ref sb), .unset, .unset, .unset] [])) tgt
                  refine XS.iload X19.here hx rfl (hb hby at_183) rfl ?_
                  show Steps p.tables e below (T19.setTop (mkF m 185 #[.val (.int p0), .val (.int p1), .val (.int p2), .val (.int v3), .val (.int v4), .val (.int b5), .val (.int b6), .val (.int v7), .val (.int v8), .val (.int v9), .val (.int v10), .val (.int v11), .val (.int v12), .val (.ref sa), .val (.ref sb), .unset, .unset, .unset] [(.int v8)])) tgt
                  refine XS.iload X19.here hx rfl (hb hby at_185) rfl ?_
                  show Steps p.tables e below (T19.setTop (mkF m 187 #[.val (.int p0), .val (.int p1), .val (.int p2), .val (.int v3), .val (.int v4), .val (.int b5), .val (.int b6), .val (.int v7), .val (.int v8), .val (.int v9), .val (.int v10), .val (.int v11), .val (.int v12), .val (.ref sa), .val (.ref sb), .unset, .unset, .unset] [(.int v11), (.int v8)])) tgt
                  refine XS.icmpNo X19.here hx rfl (hb hby at_187) rfl (teq w1).2 ?_
                  show Steps p.tables e below (T19.setTop (mkF m 190 #[.val (.int p0), .val (.int p1), .val (.int p2), .val (.int v3), .val (.int v4), .val (.int b5), .val (.int b6), .val (.int v7), .val (.int v8), .val (.int v9), .val (.int v10), .val (.int v11), .val (.int v12), .val (.ref sa), .val (.ref sb), .unset, .unset, .unset] [])) tgt
                  refine XS.iloadN X19.here hx rfl (hb hby at_190) rfl ?_
                  show Steps p.tables e below (T19.setTop (mkF m 191 #[.val (.int p0), .val (.int p1), .val (.int p2), .val (.int v3), .val (.int v4), .val (.int b5), .val (.int b6), .val (.int v7), .val (.int v8), .val (.int v9), .val (.int v10), .val (.int v11), .val (.int v12), .val (.ref sa), .val (.ref sb), .unset, .unset, .unset] [(.int v3)])) tgt
                  refine XS.iconst X19.here hx rfl (hb hby at_191) ?_
                  show Steps p.tables e below (T19.setTop (mkF m 192 #[.val (.int p0), .val (.int p1), .val (.int p2), .val (.int v3), .val (.int v4), .val (.int b5), .val (.int b6), .val (.int v7), .val (.int v8), .val (.int v9), .val (.int v10), .val (.int v11), .val (.int v12), .val (.ref sa), .val (.ref sb), .unset, .unset, .unset] [(.int (3 : Int32)), (.int v3)])) tgt
                  refine XS.icmpNo X19.here hx rfl (hb hby at_192) rfl (flt (by rw [z]; decide)).1 ?_
                  show Steps p.tables e below (T19.setTop (mkF m 195 #[.val (.int p0), .val (.int p1), .val (.int p2), .val (.int v3), .val (.int v4), .val (.int b5), .val (.int b6), .val (.int v7), .val (.int v8), .val (.int v9), .val (.int v10), .val (.int v11), .val (.int v12), .val (.ref sa), .val (.ref sb), .unset, .unset, .unset] [])) tgt
                  refine XS.iload X19.here hx rfl (hb hby at_195) rfl ?_
                  show Steps p.tables e below (T19.setTop (mkF m 197 #[.val (.int p0), .val (.int p1), .val (.int p2), .val (.int v3), .val (.int v4), .val (.int b5), .val (.int b6), .val (.int v7), .val (.int v8), .val (.int v9), .val (.int v10), .val (.int v11), .val (.int v12), .val (.ref sa), .val (.ref sb), .unset, .unset, .unset] [(.int v9)])) tgt
                  refine XS.iload X19.here hx rfl (hb hby at_197) rfl ?_
                  show Steps p.tables e below (T19.setTop (mkF m 199 #[.val (.int p0), .val (.int p1), .val (.int p2), .val (.int v3), .val (.int v4), .val (.int b5), .val (.int b6), .val (.int v7), .val (.int v8), .val (.int v9), .val (.int v10), .val (.int v11), .val (.int v12), .val (.ref sa), .val (.ref sb), .unset, .unset, .unset] [(.int v12), (.int v9)])) tgt
                  refine XS.icmpYes X19.here hx rfl (pc0 := 199) (pc' := 206) rfl (hb hby at_199) rfl (feq w2).2 (by decide) (by decide) ?_
                  show Steps p.tables e below (T19.setTop (mkF m 206 #[.val (.int p0), .val (.int p1), .val (.int p2), .val (.int v3), .val (.int v4), .val (.int b5), .val (.int b6), .val (.int v7), .val (.int v8), .val (.int v9), .val (.int v10), .val (.int v11), .val (.int v12), .val (.ref sa), .val (.ref sb), .unset, .unset, .unset] [])) tgt
                  refine XS.iconst X19.here hx rfl (hb hby at_206) ?_
                  show Steps p.tables e below (T19.setTop (mkF m 207 #[.val (.int p0), .val (.int p1), .val (.int p2), .val (.int v3), .val (.int v4), .val (.int b5), .val (.int b6), .val (.int v7), .val (.int v8), .val (.int v9), .val (.int v10), .val (.int v11), .val (.int v12), .val (.ref sa), .val (.ref sb), .unset, .unset, .unset] [(.int (0 : Int32))])) tgt
                  refine XS.istore X19.here hx rfl (hb hby at_207) rfl (l' := #[.val (.int p0), .val (.int p1), .val (.int p2), .val (.int v3), .val (.int v4), .val (.int b5), .val (.int b6), .val (.int v7), .val (.int v8), .val (.int v9), .val (.int v10), .val (.int v11), .val (.int v12), .val (.ref sa), .val (.ref sb), .val (.int (0 : Int32)), .unset, .unset]) rfl ?_
                  exact kont)⟩
            · exact ⟨0, Or.inr ⟨rfl, fun q => w1 (by first | rfl | (rw [ea, eb] at q; simp only [List.cons.injEq, and_true] at q; first | exact q | exact q.1 | exact q.2 | exact q.2.1 | exact q.2.2))⟩, fun tgt kont => go21 tgt (by
                show Steps p.tables e below (T19.setTop (mkF m 163 #[.val (.int p0), .val (.int p1), .val (.int p2), .val (.int v3), .val (.int v4), .val (.int b5), .val (.int b6), .val (.int v7), .val (.int v8), .val (.int v9), .val (.int v10), .val (.int v11), .val (.int v12), .val (.ref sa), .val (.ref sb), .unset, .unset, .unset] [(.int v4), (.int v3)])) tgt
                refine XS.icmpNo X19.here hx rfl (hb hby at_163) rfl (teq u0).2 ?_
                show Steps p.tables e below (T19.setTop (mkF m 166 #[.val (.int p0), .val (.int p1), .val (.int p2), .val (.int v3), .val (.int v4), .val (.int b5), .val (.int b6), .val (.int v7), .val (.int v8), .val (.int v9), .val (.int v10), .val (.int v11), .val (.int v12), .val (.ref sa), .val (.ref sb), .unset, .unset, .unset] [])) tgt
                refine XS.iloadN X19.here hx rfl (hb hby at_166) rfl ?_
                show Steps p.tables e below (T19.setTop (mkF m 167 #[.val (.int p0), .val (.int p1), .val (.int p2), .val (.int v3), .val (.int v4), .val (.int b5), .val (.int b6), .val (.int v7), .val (.int v8), .val (.int v9), .val (.int v10), .val (.int v11), .val (.int v12), .val (.ref sa), .val (.ref sb), .unset, .unset, .unset] [(.int v3)])) tgt
                refine XS.iconst X19.here hx rfl (hb hby at_167) ?_
                show Steps p.tables e below (T19.setTop (mkF m 168 #[.val (.int p0), .val (.int p1), .val (.int p2), .val (.int v3), .val (.int v4), .val (.int b5), .val (.int b6), .val (.int v7), .val (.int v8), .val (.int v9), .val (.int v10), .val (.int v11), .val (.int v12), .val (.ref sa), .val (.ref sb), .unset, .unset, .unset] [(.int (1 : Int32)), (.int v3)])) tgt
                refine XS.icmpNo X19.here hx rfl (hb hby at_168) rfl (flt (by rw [z]; decide)).1 ?_
                show Steps p.tables e below (T19.setTop (mkF m 171 #[.val (.int p0), .val (.int p1), .val (.int p2), .val (.int v3), .val (.int v4), .val (.int b5), .val (.int b6), .val (.int v7), .val (.int v8), .val (.int v9), .val (.int v10), .val (.int v11), .val (.int v12), .val (.ref sa), .val (.ref sb), .unset, .unset, .unset] [])) tgt
                refine XS.iload X19.here hx rfl (hb hby at_171) rfl ?_
                show Steps p.tables e below (T19.setTop (mkF m 173 #[.val (.int p0), .val (.int p1), .val (.int p2), .val (.int v3), .val (.int v4), .val (.int b5), .val (.int b6), .val (.int v7), .val (.int v8), .val (.int v9), .val (.int v10), .val (.int v11), .val (.int v12), .val (.ref sa), .val (.ref sb), .unset, .unset, .unset] [(.int v7)])) tgt
                refine XS.iload X19.here hx rfl (hb hby at_173) rfl ?_
                show Steps p.tables e below (T19.setTop (mkF m 175 #[.val (.int p0), .val (.int p1), .val (.int p2), .val (.int v3), .val (.int v4), .val (.int b5), .val (.int b6), .val (.int v7), .val (.int v8), .val (.int v9), .val (.int v10), .val (.int v11), .val (.int v12), .val (.ref sa), .val (.ref sb), .unset, .unset, .unset] [(.int v10), (.int v7)])) tgt
                refine XS.icmpNo X19.here hx rfl (hb hby at_175) rfl (teq w0).2 ?_
                show Steps p.tables e below (T19.setTop (mkF m 178 #[.val (.int p0), .val (.int p1), .val (.int p2), .val (.int v3), .val (.int v4), .val (.int b5), .val (.int b6), .val (.int v7), .val (.int v8), .val (.int v9), .val (.int v10), .val (.int v11), .val (.int v12), .val (.ref sa), .val (.ref sb), .unset, .unset, .unset] [])) tgt
                refine XS.iloadN X19.here hx rfl (hb hby at_178) rfl ?_
                show Steps p.tables e below (T19.setTop (mkF m 179 #[.val (.int p0), .val (.int p1), .val (.int p2), .val (.int v3), .val (.int v4), .val (.int b5), .val (.int b6), .val (.int v7), .val (.int v8), .val (.int v9), .val (.int v10), .val (.int v11), .val (.int v12), .val (.ref sa), .val (.ref sb), .unset, .unset, .unset] [(.int v3)])) tgt
                refine XS.iconst X19.here hx rfl (hb hby at_179) ?_
                show Steps p.tables e below (T19.setTop (mkF m 180 #[.val (.int p0), .val (.int p1), .val (.int p2), .val (.int v3), .val (.int v4), .val (.int b5), .val (.int b6), .val (.int v7), .val (.int v8), .val (.int v9), .val (.int v10), .val (.int v11), .val (.int v12), .val (.ref sa), .val (.ref sb), .unset, .unset, .unset] [(.int (2 : Int32)), (.int v3)])) tgt
                refine XS.icmpNo X19.here hx rfl (hb hby at_180) rfl (flt (by rw [z]; decide)).1 ?_
                show Steps p.tables e below (T19.setTop (mkF m 183 #[.val (.int p0), .val (.int p1), .val (.int p2), .val (.int v3), .val (.int v4), .val (.int b5), .val (.int b6), .val (.int v7), .val (.int v8), .val (.int v9), .val (.int v10), .val (.int v11), .val (.int v12), .val (.ref sa), .val (.ref sb), .unset, .unset, .unset] [])) tgt
                refine XS.iload X19.here hx rfl (hb hby at_183) rfl ?_
                show Steps p.tables e below (T19.setTop (mkF m 185 #[.val (.int p0), .val (.int p1), .val (.int p2), .val (.int v3), .val (.int v4), .val (.int b5), .val (.int b6), .val (.int v7), .val (.int v8), .val (.int v9), .val (.int v10), .val (.int v11), .val (.int v12), .val (.ref sa), .val (.ref sb), .unset, .unset, .unset] [(.int v8)])) tgt
                refine XS.iload X19.here hx rfl (hb hby at_185) rfl ?_
                show Steps p.tables e below (T19.setTop (mkF m 187 #[.val (.int p0), .val (.int p1), .val (.int p2), .val (.int v3), .val (.int v4), .val (.int b5), .val (.int b6), .val (.int v7), .val (.int v8), .val (.int v9), .val (.int v10), .val (.int v11), .val (.int v12), .val (.ref sa), .val (.ref sb), .unset, .unset, .unset] [(.int v11), (.int v8)])) tgt
                refine XS.icmpYes X19.here hx rfl (pc0 := 187) (pc' := 206) rfl (hb hby at_187) rfl (feq w1).2 (by decide) (by decide) ?_
                show Steps p.tables e below (T19.setTop (mkF m 206 #[.val (.int p0), .val (.int p1), .val (.int p2), .val (.int v3), .val (.int v4), .val (.int b5), .val (.int b6), .val (.int v7), .val (.int v8), .val (.int v9), .val (.int v10), .val (.int v11), .val (.int v12), .val (.ref sa), .val (.ref sb), .unset, .unset, .unset] [])) tgt
                refine XS.iconst X19.here hx rfl (hb hby at_206) ?_
                show Steps p.tables e below (T19.setTop (mkF m 207 #[.val (.int p0), .val (.int p1), .val (.int p2), .val (.int v3), .val (.int v4), .val (.int b5), .val (.int b6), .val (.int v7), .val (.int v8), .val (.int v9), .val (.int v10), .val (.int v11), .val (.int v12), .val (.ref sa), .val (.ref sb), .unset, .unset, .unset] [(.int (0 : Int32))])) tgt
                refine XS.istore X19.here hx rfl (hb hby at_207) rfl (l' := #[.val (.int p0), .val (.int p1), .val (.int p2), .val (.int v3), .val (.int v4), .val (.int b5), .val (.int b6), .val (.int v7), .val (.int v8), .val (.int v9), .val (.int v10), .val (.int v11), .val (.int v12), .val (.ref sa), .val (.ref sb), .val (.int (0 : Int32)), .unset, .unset]) rfl ?_
                exact kont)⟩
          · exact ⟨0, Or.inr ⟨rfl, fun q => w0 (by first | rfl | (rw [ea, eb] at q; simp only [List.cons.injEq, and_true] at q; first | exact q | exact q.1 | exact q.2 | exact q.2.1 | exact q.2.2))⟩, fun tgt kont => go21 tgt (by
              show Steps p.tables e below (T19.setTop (mkF m 163 #[.val (.int p0), .val (.int p1), .val (.int p2), .val (.int v3), .val (.int v4), .val (.int b5), .val (.int b6), .val (.int v7), .val (.int v8), .val (.int v9), .val (.int v10), .val (.int v11), .val (.int v12), .val (.ref sa), .val (.ref sb), .unset, .unset, .unset] [(.int v4), (.int v3)])) tgt
              refine XS.icmpNo X19.here hx rfl (hb hby at_163) rfl (teq u0).2 ?_
              show Steps p.tables e below (T19.setTop (mkF m 166 #[.val (.int p0), .val (.int p1), .val (.int p2), .val (.int v3), .val (.int v4), .val (.int b5), .val (.int b6), .val (.int v7), .val (.int v8), .val (.int v9), .val (.int v10), .val (.int v11), .val (.int v12), .val (.ref sa), .val (.ref sb), .unset, .unset, .unset] [])) tgt
              refine XS.iloadN X19.here hx rfl (hb hby at_166) rfl ?_
              show Steps p.tables e below (T19.setTop (mkF m 167 #[.val (.int p0), .val (.int p1), .val (.int p2), .val (.int v3), .val (.int v4), .val (.int b5), .val (.int b6), .val (.int v7), .val (.int v8), .val (.int v9), .val (.int v10), .val (.int v11), .val (.int v12), .val (.ref sa), .val (.ref sb), .unset, .unset, .unset] [(.int v3)])) tgt
              refine XS.iconst X19.here hx rfl (hb hby at_167) ?_
              show Steps p.tables e below (T19.setTop (mkF m 168 #[.val (.int p0), .val (.int p1), .val (.int p2), .val (.int v3), .val (.int v4), .val (.int b5), .val (.int b6), .val (.int v7), .val (.int v8), .val (.int v9), .val (.int v10), .val (.int v11), .val (.int v12), .val (.ref sa), .val (.ref sb), .unset, .unset, .unset] [(.int (1 : Int32)), (.int v3)])) tgt
              refine XS.icmpNo X19.here hx rfl (hb hby at_168) rfl (flt (by rw [z]; decide)).1 ?_
              show Steps p.tables e below (T19.setTop (mkF m 171 #[.val (.int p0), .val (.int p1), .val (.int p2), .val (.int v3), .val (.int v4), .val (.int b5), .val (.int b6), .val (.int v7), .val (.int v8), .val (.int v9), .val (.int v10), .val (.int v11), .val (.int v12), .val (.ref sa), .val (.ref sb), .unset, .unset, .unset] [])) tgt
              refine XS.iload X19.here hx rfl (hb hby at_171) rfl ?_
              show Steps p.tables e below (T19.setTop (mkF m 173 #[.val (.int p0), .val (.int p1), .val (.int p2), .val (.int v3), .val (.int v4), .val (.int b5), .val (.int b6), .val (.int v7), .val (.int v8), .val (.int v9), .val (.int v10), .val (.int v11), .val (.int v12), .val (.ref sa), .val (.ref sb), .unset, .unset, .unset] [(.int v7)])) tgt
              refine XS.iload X19.here hx rfl (hb hby at_173) rfl ?_
              show Steps p.tables e below (T19.setTop (mkF m 175 #[.val (.int p0), .val (.int p1), .val (.int p2), .val (.int v3), .val (.int v4), .val (.int b5), .val (.int b6), .val (.int v7), .val (.int v8), .val (.int v9), .val (.int v10), .val (.int v11), .val (.int v12), .val (.ref sa), .val (.ref sb), .unset, .unset, .unset] [(.int v10), (.int v7)])) tgt
              refine XS.icmpYes X19.here hx rfl (pc0 := 175) (pc' := 206) rfl (hb hby at_175) rfl (feq w0).2 (by decide) (by decide) ?_
              show Steps p.tables e below (T19.setTop (mkF m 206 #[.val (.int p0), .val (.int p1), .val (.int p2), .val (.int v3), .val (.int v4), .val (.int b5), .val (.int b6), .val (.int v7), .val (.int v8), .val (.int v9), .val (.int v10), .val (.int v11), .val (.int v12), .val (.ref sa), .val (.ref sb), .unset, .unset, .unset] [])) tgt
              refine XS.iconst X19.here hx rfl (hb hby at_206) ?_
              show Steps p.tables e below (T19.setTop (mkF m 207 #[.val (.int p0), .val (.int p1), .val (.int p2), .val (.int v3), .val (.int v4), .val (.int b5), .val (.int b6), .val (.int v7), .val (.int v8), .val (.int v9), .val (.int v10), .val (.int v11), .val (.int v12), .val (.ref sa), .val (.ref sb), .unset, .unset, .unset] [(.int (0 : Int32))])) tgt
              refine XS.istore X19.here hx rfl (hb hby at_207) rfl (l' := #[.val (.int p0), .val (.int p1), .val (.int p2), .val (.int v3), .val (.int v4), .val (.int b5), .val (.int b6), .val (.int v7), .val (.int v8), .val (.int v9), .val (.int v10), .val (.int v11), .val (.int v12), .val (.ref sa), .val (.ref sb), .val (.int (0 : Int32)), .unset, .unset]) rfl ?_
              exact kont)⟩
      · exact ⟨0, Or.inr ⟨rfl, own_cs_ne r3 r4 u0⟩, fun tgt kont => go21 tgt (by
          show Steps p.tables e below (T19.setTop (mkF m 163 #[.val (.int p0), .val (.int p1), .val (.int p2), .val (.int v3), .val (.int v4), .val (.int b5), .val (.int b6), .val (.int v7), .val (.int v8), .val (.int v9), .val (.int v10), .val (.int v11), .val (.int v12), .val (.ref sa), .val (.ref sb), .unset, .unset, .unset] [(.int v4), (.int v3)])) tgt
          refine XS.icmpYes X19.here hx rfl (pc0 := 163) (pc' := 206) rfl (hb hby at_163) rfl (feq u0).2 (by decide) (by decide) ?_
          show Steps p.tables e below (T19.setTop (mkF m 206 #[.val (.int p0), .val (.int p1), .val (.int p2), .val (.int v3), .val (.int v4), .val (.int b5), .val (.int b6), .val (.int v7), .val (.int v8), .val (.int v9), .val (.int v10), .val (.int v11), .val (.int v12), .val (.ref sa), .val (.ref sb), .unset, .unset, .unset] [])) tgt
          refine XS.iconst X19.here hx rfl (hb hby at_206) ?_
          show Steps p.tables e below (T19.setTop (mkF m 207 #[.val (.int p0), .val (.int p1), .val (.int p2), .val (.int v3), .val (.int v4), .val (.int b5), .val (.int b6), .val (.int v7), .val (.int v8), .val (.int v9), .val (.int v10), .val (.int v11), .val (.int v12), .val (.ref sa), .val (.ref sb), .unset, .unset, .unset] [(.int (0 : Int32))])) tgt
          refine XS.istore X19.here hx rfl (hb hby at_207) rfl (l' := #[.val (.int p0), .val (.int p1), .val (.int p2), .val (.int v3), .val (.int v4), .val (.int b5), .val (.int b6), .val (.int v7), .val (.int v8), .val (.int v9), .val (.int v10), .val (.int v11), .val (.int v12), .val (.ref sa), .val (.ref sb), .val (.int (0 : Int32)), .unset, .unset]) rfl ?_
          exact kont)⟩
    obtain ⟨T23, h23, X23, e23, E23, A23, D23, -, st23⟩ := newO X19 hx hZ19 hown19 (hw _ (List.mem_of_getElem? (i := 37) rfl)) (hw _ (List.mem_of_getElem? (i := 38) rfl)) (hw _ (List.mem_of_getElem? (i := 39) rfl)) rfl (g := (mkF m 209 #[.val (.int p0), .val (.int p1), .val (.int p2), .val (.int v3), .val (.int v4), .val (.int b5), .val (.int b6), .val (.int v7), .val (.int v8), .val (.int v9), .val (.int v10), .val (.int v11), .val (.int v12), .val (.ref sa), .val (.ref sb), .val (.int b15), .unset, .unset] [])) rfl (hb hby at_209) (by decide) (by decide)
    obtain ⟨en, g23⟩ : ∃ z, z = T19.heap.size := ⟨_, rfl⟩
    rw [← g23] at A23 D23 st23
    have ne_sa_en : sa ≠ en := Nat.ne_of_lt (Nat.lt_of_lt_of_le (Nat.lt_of_lt_of_le Esa.lt Ksb.1) (Nat.le_of_eq g23.symm))
    have ne_tsa_en : tsa ≠ en := Nat.ne_of_lt (Nat.lt_of_lt_of_le (Nat.lt_of_lt_of_le Asa.lt Ksb.1) (Nat.le_of_eq g23.symm))
    have ne_sb_en : sb ≠ en := Nat.ne_of_lt (Nat.lt_of_lt_of_le Esb.lt (Nat.le_of_eq g23.symm))
    have ne_tsb_en : tsb ≠ en := Nat.ne_of_lt (Nat.lt_of_lt_of_le Asb.lt (Nat.le_of_eq g23.symm))
    have ge_en : n0 ≤ en := Nat.le_trans z20 (Nat.le_of_eq g23.symm)
    have z24 : n0 ≤ h23.size := Nat.le_trans z20 E23.1
    have Fname_en : Fld Z h23 en "com/example/caskwright/caskwright/model/Entry" "name" "Ljava/lang/String;" .null := D23 (Or.inr (hw _ (List.mem_of_getElem? (i := 59) rfl))) (ty := (.object "java/lang/String")) (by decide)
    have FstoredName_en : Fld Z h23 en "com/example/caskwright/caskwright/model/Entry" "storedName" "[B" .null := D23 (Or.inr (hw _ (List.mem_of_getElem? (i := 61) rfl))) (ty := (.array .byte)) (by decide)
    have Fmethod_en : Fld Z h23 en "com/example/caskwright/caskwright/model/Entry" "method" "I" (.int (0 : Int32)) := D23 (Or.inr (hw _ (List.mem_of_getElem? (i := 63) rfl))) (ty := .int) (by decide)
    have Fcrc_en : Fld Z h23 en "com/example/caskwright/caskwright/model/Entry" "crc" "J" (.long (0 : Int64)) := D23 (Or.inr (hw _ (List.mem_of_getElem? (i := 65) rfl))) (ty := .long) (by decide)
    have FcompressedSize_en : Fld Z h23 en "com/example/caskwright/caskwright/model/Entry" "compressedSize" "J" (.long (0 : Int64)) := D23 (Or.inr (hw _ (List.mem_of_getElem? (i := 67) rfl))) (ty := .long) (by decide)
    have Fsize_en : Fld Z h23 en "com/example/caskwright/caskwright/model/Entry" "size" "J" (.long (0 : Int64)) := D23 (Or.inr (hw _ (List.mem_of_getElem? (i := 69) rfl))) (ty := .long) (by decide)
    have FlocalHeaderPosition_en : Fld Z h23 en "com/example/caskwright/caskwright/model/Entry" "localHeaderPosition" "J" (.long (0 : Int64)) := D23 (Or.inr (hw _ (List.mem_of_getElem? (i := 71) rfl))) (ty := .long) (by decide)
    have FexternalAttributes_en : Fld Z h23 en "com/example/caskwright/caskwright/model/Entry" "externalAttributes" "J" (.long (0 : Int64)) := D23 (Or.inr (hw _ (List.mem_of_getElem? (i := 73) rfl))) (ty := .long) (by decide)
    have go23 : ∀ tgt, Steps p.tables e below (T23.setTop (mkF m 212 #[.val (.int p0), .val (.int p1), .val (.int p2), .val (.int v3), .val (.int v4), .val (.int b5), .val (.int b6), .val (.int v7), .val (.int v8), .val (.int v9), .val (.int v10), .val (.int v11), .val (.int v12), .val (.ref sa), .val (.ref sb), .val (.int b15), .unset, .unset] [(.ref en)])) tgt → Steps p.tables e below E0 tgt := fun tgt kont => go22 tgt (st23 tgt kont)
    have go25 : ∀ tgt, Steps p.tables e below (T23.setTop (mkF m 216 #[.val (.int p0), .val (.int p1), .val (.int p2), .val (.int v3), .val (.int v4), .val (.int b5), .val (.int b6), .val (.int v7), .val (.int v8), .val (.int v9), .val (.int v10), .val (.int v11), .val (.int v12), .val (.ref sa), .val (.ref sb), .val (.int b15), .unset, .unset] [(.int (0 : Int32)), (.ref sb), (.ref en), (.ref en)])) tgt → Steps p.tables e below E0 tgt := fun tgt kont => go23 tgt (by
      show Steps p.tables e below (T23.setTop (mkF m 212 #[.val (.int p0), .val (.int p1), .val (.int p2), .val (.int v3), .val (.int v4), .val (.int b5), .val (.int b6), .val (.int v7), .val (.int v8), .val (.int v9), .val (.int v10), .val (.int v11), .val (.int v12), .val (.ref sa), .val (.ref sb), .val (.int b15), .unset, .unset] [(.ref en)])) tgt
      refine XS.dup X23.here hx rfl (hb hby at_212) rfl rfl ?_
      show Steps p.tables e below (T23.setTop (mkF m 213 #[.val (.int p0), .val (.int p1), .val (.int p2), .val (.int v3), .val (.int v4), .val (.int b5), .val (.int b6), .val (.int v7), .val (.int v8), .val (.int v9), .val (.int v10), .val (.int v11), .val (.int v12), .val (.ref sa), .val (.ref sb), .val (.int b15), .unset, .unset] [(.ref en), (.ref en)])) tgt
      refine XS.aload X23.here hx rfl (hb hby at_213) rfl rfl ?_
      show Steps p.tables e below (T23.setTop (mkF m 215 #[.val (.int p0), .val (.int p1), .val (.int p2), .val (.int v3), .val (.int v4), .val (.int b5), .val (.int b6), .val (.int v7), .val (.int v8), .val (.int v9), .val (.int v10), .val (.int v11), .val (.int v12), .val (.ref sa), .val (.ref sb), .val (.int b15), .unset, .unset] [(.ref sb), (.ref en), (.ref en)])) tgt
      refine XS.iconst X23.here hx rfl (hb hby at_215) ?_
      exact kont)
    obtain ⟨T26, h26, k26, X26, e26, E26, A26, B26, st26⟩ := newPE X23 hx hZ19 (hw _ (List.mem_of_getElem? (i := 23) rfl)) e23 (g := (mkF m 216 #[.val (.int p0), .val (.int p1), .val (.int p2), .val (.int v3), .val (.int v4), .val (.int b5), .val (.int b6), .val (.int v7), .val (.int v8), .val (.int v9), .val (.int v10), .val (.int v11), .val (.int v12), .val (.ref sa), .val (.ref sb), .val (.int b15), .unset, .unset] [(.int (0 : Int32)), (.ref sb), (.ref en), (.ref en)])) rfl (hb hby at_216) rfl (by decide) (cap := 0) (by decide) (by decide) (by decide) (by decide) (ad := "[B") (by decide)
    obtain ⟨ba, g26⟩ : ∃ z, z = h23.size := ⟨_, rfl⟩
    rw [← g26] at A26 B26 st26
    have ne_sa_ba : sa ≠ ba := Nat.ne_of_lt (Nat.lt_of_lt_of_le (Nat.lt_of_lt_of_le Esa.lt (Nat.le_trans Ksb.1 E23.1)) (Nat.le_of_eq g26.symm))
    have ne_tsa_ba : tsa ≠ ba := Nat.ne_of_lt (Nat.lt_of_lt_of_le (Nat.lt_of_lt_of_le Asa.lt (Nat.le_trans Ksb.1 E23.1)) (Nat.le_of_eq g26.symm))
    have ne_sb_ba : sb ≠ ba := Nat.ne_of_lt (Nat.lt_of_lt_of_le (Nat.lt_of_lt_of_le Esb.lt E23.1) (Nat.le_of_eq g26.symm))
    have ne_tsb_ba : tsb ≠ ba := Nat.ne_of_lt (Nat.lt_of_lt_of_le (Nat.lt_of_lt_of_le Asb.lt E23.1) (Nat.le_of_eq g26.symm))
    have ne_en_ba : en ≠ ba := Nat.ne_of_lt (Nat.lt_of_lt_of_le A23.lt (Nat.le_of_eq g26.symm))
    have ge_ba : n0 ≤ ba := Nat.le_trans z24 (Nat.le_of_eq g26.symm)
    have z27 : n0 ≤ h26.size := Nat.le_trans z24 E26.1
    have V26 : Arv Z h26 ba k26 .byte (0 : Int32) [] (.int (0 : Int32)) := Arv.new A26 (by decide)
    have go26 : ∀ tgt, Steps p.tables e below (T26.setTop (mkF m 218 #[.val (.int p0), .val (.int p1), .val (.int p2), .val (.int v3), .val (.int v4), .val (.int b5), .val (.int b6), .val (.int v7), .val (.int v8), .val (.int v9), .val (.int v10), .val (.int v11), .val (.int v12), .val (.ref sa), .val (.ref sb), .val (.int b15), .unset, .unset] [(.ref ba), (.ref sb), (.ref en), (.ref en)])) tgt → Steps p.tables e below E0 tgt := fun tgt kont => go25 tgt (st26 tgt kont)
    have f28 : Exa Z h26 en "com/example/caskwright/caskwright/model/Entry" := (A23.ext E26)
    have f29 : Fld Z h26 en "com/example/caskwright/caskwright/model/Entry" "name" "Ljava/lang/String;" .null := (Fname_en.ext E26)
    have f30 : Fld Z h26 en "com/example/caskwright/caskwright/model/Entry" "storedName" "[B" .null := (FstoredName_en.ext E26)
    have f31 : Fld Z h26 en "com/example/caskwright/caskwright/model/Entry" "method" "I" (.int (0 : Int32)) := (Fmethod_en.ext E26)
    have f32 : Fld Z h26 en "com/example/caskwright/caskwright/model/Entry" "crc" "J" (.long (0 : Int64)) := (Fcrc_en.ext E26)
    have f33 : Fld Z h26 en "com/example/caskwright/caskwright/model/Entry" "compressedSize" "J" (.long (0 : Int64)) := (FcompressedSize_en.ext E26)
    have f34 : Fld Z h26 en "com/example/caskwright/caskwright/model/Entry" "size" "J" (.long (0 : Int64)) := (Fsize_en.ext E26)
    have f35 : Fld Z h26 en "com/example/caskwright/caskwright/model/Entry" "localHeaderPosition" "J" (.long (0 : Int64)) := (FlocalHeaderPosition_en.ext E26)
    have f36 : Fld Z h26 en "com/example/caskwright/caskwright/model/Entry" "externalAttributes" "J" (.long (0 : Int64)) := (FexternalAttributes_en.ext E26)
    have go37 : ∀ tgt, Steps p.tables e below (T26.setTop (mkF m 224 #[.val (.int p0), .val (.int p1), .val (.int p2), .val (.int v3), .val (.int v4), .val (.int b5), .val (.int b6), .val (.int v7), .val (.int v8), .val (.int v9), .val (.int v10), .val (.int v11), .val (.int v12), .val (.ref sa), .val (.ref sb), .val (.int b15), .unset, .unset] [(.long (0 : Int64)), (.long (0 : Int64)), (.long (0 : Int64)), (.long (0 : Int64)), (.long (0 : Int64)), (.int (0 : Int32)), (.ref ba), (.ref sb), (.ref en), (.ref en)])) tgt → Steps p.tables e below E0 tgt := fun tgt kont => go26 tgt (by
      show Steps p.tables e below (T26.setTop (mkF m 218 #[.val (.int p0), .val (.int p1), .val (.int p2), .val (.int v3), .val (.int v4), .val (.int b5), .val (.int b6), .val (.int v7), .val (.int v8), .val (.int v9), .val (.int v10), .val (.int v11), .val (.int v12), .val (.ref sa), .val (.ref sb), .val (.int b15), .unset, .unset] [(.ref ba), (.ref sb), (.ref en), (.ref en)])) tgt
      refine XS.iconst X26.here hx rfl (hb hby at_218) ?_
      show Steps p.tables e below (T26.setTop (mkF m 219 #[.val (.int p0), .val (.int p1), .val (.int p2), .val (.int v3), .val (.int v4), .val (.int b5), .val (.int b6), .val (.int v7), .val (.int v8), .val (.int v9), .val (.int v10), .val (.int v11), .val (.int v12), .val (.ref sa), .val (.ref sb), .val (.int b15), .unset, .unset] [(.int (0 : Int32)), (.ref ba), (.ref sb), (.ref en), (.ref en)])) tgt
      refine XS.lconst X26.here hx rfl (hb hby at_219) ?_
      show Steps p.tables e below (T26.setTop (mkF m 220 #[.val (.int p0), .val (.int p1), .val (.int p2), .val (.int v3), .val (.int v4), .val (.int b5), .val (.int b6), .val (.int v7), .val (.int v8), .val (.int v9), .val (.int v10), .val (.int v11), .val (.int v12), .val (.ref sa), .val (.ref sb), .val (.int b15), .unset, .unset] [(.long (0 : Int64)), (.int (0 : Int32)), (.ref ba), (.ref sb), (.ref en), (.ref en)])) tgt
      refine XS.lconst X26.here hx rfl (hb hby at_220) ?_
      show Steps p.tables e below (T26.setTop (mkF m 221 #[.val (.int p0), .val (.int p1), .val (.int p2), .val (.int v3), .val (.int v4), .val (.int b5), .val (.int b6), .val (.int v7), .val (.int v8), .val (.int v9), .val (.int v10), .val (.int v11), .val (.int v12), .val (.ref sa), .val (.ref sb), .val (.int b15), .unset, .unset] [(.long (0 : Int64)), (.long (0 : Int64)), (.int (0 : Int32)), (.ref ba), (.ref sb), (.ref en), (.ref en)])) tgt
      refine XS.lconst X26.here hx rfl (hb hby at_221) ?_
      show Steps p.tables e below (T26.setTop (mkF m 222 #[.val (.int p0), .val (.int p1), .val (.int p2), .val (.int v3), .val (.int v4), .val (.int b5), .val (.int b6), .val (.int v7), .val (.int v8), .val (.int v9), .val (.int v10), .val (.int v11), .val (.int v12), .val (.ref sa), .val (.ref sb), .val (.int b15), .unset, .unset] [(.long (0 : Int64)), (.long (0 : Int64)), (.long (0 : Int64)), (.int (0 : Int32)), (.ref ba), (.ref sb), (.ref en), (.ref en)])) tgt
      refine XS.lconst X26.here hx rfl (hb hby at_222) ?_
      show Steps p.tables e below (T26.setTop (mkF m 223 #[.val (.int p0), .val (.int p1), .val (.int p2), .val (.int v3), .val (.int v4), .val (.int b5), .val (.int b6), .val (.int v7), .val (.int v8), .val (.int v9), .val (.int v10), .val (.int v11), .val (.int v12), .val (.ref sa), .val (.ref sb), .val (.int b15), .unset, .unset] [(.long (0 : Int64)), (.long (0 : Int64)), (.long (0 : Int64)), (.long (0 : Int64)), (.int (0 : Int32)), (.ref ba), (.ref sb), (.ref en), (.ref en)])) tgt
      refine XS.lconst X26.here hx rfl (hb hby at_223) ?_
      exact kont)
    obtain ⟨_, _, ⟨T38, L38, k38, n38⟩, -, X38, ⟨Lc38, hQ38, l38, y38, z38⟩, st38⟩ := X26.specialBack hx (y := (⟨"com/example/caskwright/caskwright/model/Entry", "<init>", "(Ljava/lang/String;[BIJJJJJ)V"⟩ : MethodName)) rfl hown19 (mvT hZ19 (hw _ (List.mem_of_getElem? (i := 40) rfl))) (mvT hZ19 (hw _ (List.mem_of_getElem? (i := 41) rfl))) (mvT hZ19 (hw _ (List.mem_of_getElem? (i := 42) rfl))) (by decide) (backOf (W := 1) (rmEI l Z a0 hw [] en sb ba k26 0 0 0 0 0 0 h26 n0 z27 f28 ge_en B26 V26 f29 f30 f31 f32 f33 f34 f35 f36) hZ19 (hw _ (List.mem_of_getElem? (i := 42) rfl)) (hw _ (List.mem_of_getElem? (i := 39) rfl)) (by decide) (by decide)) (g := (mkF m 224 #[.val (.int p0), .val (.int p1), .val (.int p2), .val (.int v3), .val (.int v4), .val (.int b5), .val (.int b6), .val (.int v7), .val (.int v8), .val (.int v9), .val (.int v10), .val (.int v11), .val (.int v12), .val (.ref sa), .val (.ref sb), .val (.int b15), .unset, .unset] [(.long (0 : Int64)), (.long (0 : Int64)), (.long (0 : Int64)), (.long (0 : Int64)), (.long (0 : Int64)), (.int (0 : Int32)), (.ref ba), (.ref sb), (.ref en), (.ref en)])) rfl (by rw [hml]; rfl) (Steps.refl _) (a := en) (argsL := [(.ref sb), (.ref ba), (.int (0 : Int32)), (.long (0 : Int64)), (.long (0 : Int64)), (.long (0 : Int64)), (.long (0 : Int64)), (.long (0 : Int64))]) (rest := [(.ref en)]) (lenOf pd_11 rfl) rfl (by show 2 * 0 + _ ≤ _; exact Nat.le_of_eq rfl) (hb hby at_224) (fun _ _ => ⟨rfl, e26, (by decide : 10 + 1 ≤ _), (by decide : 28 + 0 ≤ _)⟩)
    dsimp only [Pt.U, Pt.locs, Pt.cells, Pt.slots] at X38 l38 y38 z38 st38 hQ38
    subst l38 y38 z38
    obtain ⟨rfl, N38q, Ke, Ee, Fe⟩ := hQ38
    have N38 := Fr.app N19 N38q
    have z39 : n0 ≤ T38.heap.size := Nat.le_trans z27 Ke.1
    have go38 : ∀ tgt, Steps p.tables e below (T38.setTop (mkF m 227 #[.val (.int p0), .val (.int p1), .val (.int p2), .val (.int v3), .val (.int v4), .val (.int b5), .val (.int b6), .val (.int v7), .val (.int v8), .val (.int v9), .val (.int v10), .val (.int v11), .val (.int v12), .val (.ref sa), .val (.ref sb), .val (.int b15), .unset, .unset] [(.ref en)])) tgt → Steps p.tables e below E0 tgt := fun tgt kont => go37 tgt (st38.trans kont)
    have go40 : ∀ tgt, Steps p.tables e below (T38.setTop (mkF m 229 #[.val (.int p0), .val (.int p1), .val (.int p2), .val (.int v3), .val (.int v4), .val (.int b5), .val (.int b6), .val (.int v7), .val (.int v8), .val (.int v9), .val (.int v10), .val (.int v11), .val (.int v12), .val (.ref sa), .val (.ref sb), .val (.int b15), .val (.ref en), .unset] [])) tgt → Steps p.tables e below E0 tgt := fun tgt kont => go38 tgt (by
      show Steps p.tables e below (T38.setTop (mkF m 227 #[.val (.int p0), .val (.int p1), .val (.int p2), .val (.int v3), .val (.int v4), .val (.int b5), .val (.int b6), .val (.int v7), .val (.int v8), .val (.int v9), .val (.int v10), .val (.int v11), .val (.int v12), .val (.ref sa), .val (.ref sb), .val (.int b15), .unset, .unset] [(.ref en)])) tgt
      refine XS.astore X38.here hx rfl (hb hby at_227) rfl rfl (l' := #[.val (.int p0), .val (.int p1), .val (.int p2), .val (.int v3), .val (.int v4), .val (.int b5), .val (.int b6), .val (.int v7), .val (.int v8), .val (.int v9), .val (.int v10), .val (.int v11), .val (.int v12), .val (.ref sa), .val (.ref sb), .val (.int b15), .val (.ref en), .unset]) rfl ?_
      exact kont)
    obtain ⟨T41, h41, X41, e41, E41, A41, D41, -, st41⟩ := newO X38 hx hZ19 hown19 (hw _ (List.mem_of_getElem? (i := 74) rfl)) (hw _ (List.mem_of_getElem? (i := 75) rfl)) (hw _ (List.mem_of_getElem? (i := 76) rfl)) rfl (g := (mkF m 229 #[.val (.int p0), .val (.int p1), .val (.int p2), .val (.int v3), .val (.int v4), .val (.int b5), .val (.int b6), .val (.int v7), .val (.int v8), .val (.int v9), .val (.int v10), .val (.int v11), .val (.int v12), .val (.ref sa), .val (.ref sb), .val (.int b15), .val (.ref en), .unset] [])) rfl (hb hby at_229) (by decide) (by decide)
    obtain ⟨ve, g41⟩ : ∃ z, z = T38.heap.size := ⟨_, rfl⟩
    rw [← g41] at A41 D41 st41
    have ne_sa_ve : sa ≠ ve := Nat.ne_of_lt (Nat.lt_of_lt_of_le (Nat.lt_of_lt_of_le Esa.lt (Nat.le_trans (Nat.le_trans (Nat.le_trans Ksb.1 E23.1) E26.1) Ke.1)) (Nat.le_of_eq g41.symm))
    have ne_tsa_ve : tsa ≠ ve := Nat.ne_of_lt (Nat.lt_of_lt_of_le (Nat.lt_of_lt_of_le Asa.lt (Nat.le_trans (Nat.le_trans (Nat.le_trans Ksb.1 E23.1) E26.1) Ke.1)) (Nat.le_of_eq g41.symm))
    have ne_sb_ve : sb ≠ ve := Nat.ne_of_lt (Nat.lt_of_lt_of_le (Nat.lt_of_lt_of_le Esb.lt (Nat.le_trans (Nat.le_trans E23.1 E26.1) Ke.1)) (Nat.le_of_eq g41.symm))
    have ne_tsb_ve : tsb ≠ ve := Nat.ne_of_lt (Nat.lt_of_lt_of_le (Nat.lt_of_lt_of_le Asb.lt (Nat.le_trans (Nat.le_trans E23.1 E26.1) Ke.1)) (Nat.le_of_eq g41.symm))
    have ne_en_ve : en ≠ ve := Nat.ne_of_lt (Nat.lt_of_lt_of_le (Nat.lt_of_lt_of_le A23.lt (Nat.le_trans E26.1 Ke.1)) (Nat.le_of_eq g41.symm))
    have ne_ba_ve : ba ≠ ve := Nat.ne_of_lt (Nat.lt_of_lt_of_le (Nat.lt_of_lt_of_le V26.lt Ke.1) (Nat.le_of_eq g41.symm))
    have ge_ve : n0 ≤ ve := Nat.le_trans z39 (Nat.le_of_eq g41.symm)
    have z42 : n0 ≤ h41.size := Nat.le_trans z39 E41.1
    have Fname_ve : Fld Z h41 ve "com/example/caskwright/caskwright/io/MultiRelease$ViewEntry" "name" "Ljava/lang/String;" .null := D41 (Or.inr (hw _ (List.mem_of_getElem? (i := 82) rfl))) (ty := (.object "java/lang/String")) (by decide)
    have Fentry_ve : Fld Z h41 ve "com/example/caskwright/caskwright/io/MultiRelease$ViewEntry" "entry" "Lcom/example/caskwright/caskwright/model/Entry;" .null := D41 (Or.inr (hw _ (List.mem_of_getElem? (i := 84) rfl))) (ty := (.object "com/example/caskwright/caskwright/model/Entry")) (by decide)
    have go41 : ∀ tgt, Steps p.tables e below (T41.setTop (mkF m 232 #[.val (.int p0), .val (.int p1), .val (.int p2), .val (.int v3), .val (.int v4), .val (.int b5), .val (.int b6), .val (.int v7), .val (.int v8), .val (.int v9), .val (.int v10), .val (.int v11), .val (.int v12), .val (.ref sa), .val (.ref sb), .val (.int b15), .val (.ref en), .unset] [(.ref ve)])) tgt → Steps p.tables e below E0 tgt := fun tgt kont => go40 tgt (st41 tgt kont)
    have go43 : ∀ tgt, Steps p.tables e below (T41.setTop (mkF m 237 #[.val (.int p0), .val (.int p1), .val (.int p2), .val (.int v3), .val (.int v4), .val (.int b5), .val (.int b6), .val (.int v7), .val (.int v8), .val (.int v9), .val (.int v10), .val (.int v11), .val (.int v12), .val (.ref sa), .val (.ref sb), .val (.int b15), .val (.ref en), .unset] [(.ref en), (.ref sa), (.ref ve), (.ref ve)])) tgt → Steps p.tables e below E0 tgt := fun tgt kont => go41 tgt (by
      show Steps p.tables e below (T41.setTop (mkF m 232 #[.val (.int p0), .val (.int p1), .val (.int p2), .val (.int v3), .val (.int v4), .val (.int b5), .val (.int b6), .val (.int v7), .val (.int v8), .val (.int v9), .val (.int v10), .val (.int v11), .val (.int v12), .val (.ref sa), .val (.ref sb), .val (.int b15), .val (.ref en), .unset] [(.ref ve)])) tgt
      refine XS.dup X41.here hx rfl (hb hby at_232) rfl rfl ?_
      show Steps p.tables e below (T41.setTop (mkF m 233 #[.val (.int p0), .val (.int p1), .val (.int p2), .val (.int v3), .val (.int v4), .val (.int b5), .val (.int b6), .val (.int v7), .val (.int v8), .val (.int v9), .val (.int v10), .val (.int v11), .val (.int v12), .val (.ref sa), .val (.ref sb), .val (.int b15), .val (.ref en), .unset] [(.ref ve), (.ref ve)])) tgt
      refine XS.aload X41.here hx rfl (hb hby at_233) rfl rfl ?_
      show Steps p.tables e below (T41.setTop (mkF m 235 #[.val (.int p0), .val (.int p1), .val (.int p2), .val (.int v3), .val (.int v4), .val (.int b5), .val (.int b6), .val (.int v7), .val (.int v8), .val (.int v9), .val (.int v10), .val (.int v11), .val (.int v12), .val (.ref sa), .val (.ref sb), .val (.int b15), .val (.ref en), .unset] [(.ref sa), (.ref ve), (.ref ve)])) tgt
      refine XS.aload X41.here hx rfl (hb hby at_235) rfl rfl ?_
      exact kont)
    obtain ⟨_, _, ⟨T44, L44, k44, n44⟩, -, X44, ⟨Lc44, hQ44, l44, y44, z44⟩, st44⟩ := X41.specialBack hx (y := (⟨"com/example/caskwright/caskwright/io/MultiRelease$ViewEntry", "<init>", "(Ljava/lang/String;Lcom/example/caskwright/caskwright/model/Entry;)V"⟩ : MethodName)) rfl hown19 (mvT hZ19 (hw _ (List.mem_of_getElem? (i := 77) rfl))) (mvT hZ19 (hw _ (List.mem_of_getElem? (i := 78) rfl))) (mvT hZ19 (hw _ (List.mem_of_getElem? (i := 79) rfl))) (by decide) (backOf (W := 1) (rmVI l Z a0 hw [] ve sa en h41 n0 z42 A41 ge_ve Fname_ve Fentry_ve) hZ19 (hw _ (List.mem_of_getElem? (i := 79) rfl)) (hw _ (List.mem_of_getElem? (i := 76) rfl)) (by decide) (by decide)) (g := (mkF m 237 #[.val (.int p0), .val (.int p1), .val (.int p2), .val (.int v3), .val (.int v4), .val (.int b5), .val (.int b6), .val (.int v7), .val (.int v8), .val (.int v9), .val (.int v10), .val (.int v11), .val (.int v12), .val (.ref sa), .val (.ref sb), .val (.int b15), .val (.ref en), .unset] [(.ref en), (.ref sa), (.ref ve), (.ref ve)])) rfl (by rw [hml]; rfl) (Steps.refl _) (a := ve) (argsL := [(.ref sa), (.ref en)]) (rest := [(.ref ve)]) (lenOf pd_12 rfl) rfl (by show 2 * 0 + _ ≤ _; exact Nat.le_of_eq rfl) (hb hby at_237) (fun _ _ => ⟨rfl, e41, (by decide : 12 + 0 ≤ _), (by decide : 30 + 0 ≤ _)⟩)
    dsimp only [Pt.U, Pt.locs, Pt.cells, Pt.slots] at X44 l44 y44 z44 st44 hQ44
    subst l44 y44 z44
    obtain ⟨rfl, N44q, Kv, Ev, Fv1, Fv2⟩ := hQ44
    have N44 := Fr.app N38 N44q
    have z45 : n0 ≤ T44.heap.size := Nat.le_trans z42 Kv.1
    have go44 : ∀ tgt, Steps p.tables e below (T44.setTop (mkF m 240 #[.val (.int p0), .val (.int p1), .val (.int p2), .val (.int v3), .val (.int v4), .val (.int b5), .val (.int b6), .val (.int v7), .val (.int v8), .val (.int v9), .val (.int v10), .val (.int v11), .val (.int v12), .val (.ref sa), .val (.ref sb), .val (.int b15), .val (.ref en), .unset] [(.ref ve)])) tgt → Steps p.tables e below E0 tgt := fun tgt kont => go43 tgt (st44.trans kont)
    have f46 : Exa Z T44.heap en "com/example/caskwright/caskwright/model/Entry" := ((Ee.ext E41).keep Kv)
    have f47 : Fld Z T44.heap en "com/example/caskwright/caskwright/model/Entry" "name" "Ljava/lang/String;" (.ref sb) := ((Fe.ext E41).keep Kv (ninS ne_en_ve nin0))
    have f48 : Exa Z T44.heap sa "java/lang/String" := ((((((Esa.keep Ksb).ext E23).ext E26).keep Ke).ext E41).keep Kv)
    have f49 : Fld Z T44.heap sa "java/lang/String" "value" "[B" (.ref tsa) := ((((((Vsa.keep Ksb nin0).ext E23).ext E26).keep Ke (ninS ne_sa_en nin0)).ext E41).keep Kv (ninS ne_sa_ve nin0))
    have f50 : Fld Z T44.heap sa "java/lang/String" "coder" "B" (.int (0 : Int32)) := ((((((Csa.keep Ksb nin0).ext E23).ext E26).keep Ke (ninS ne_sa_en nin0)).ext E41).keep Kv (ninS ne_sa_ve nin0))
    have f51 : Arv Z T44.heap tsa ksa .byte (Int32.ofNat (own_cs v3 v7 v8 v9).length) (((own_cs v3 v7 v8 v9).map (fun c => c.toInt8.toInt32)).map Value.int) (.int (0 : Int32)) := ((((((Asa.keep Ksb nin0).ext E23).ext E26).keep Ke (ninS ne_tsa_en nin0)).ext E41).keep Kv (ninS ne_tsa_ve nin0))
    have f52 : Exa Z T44.heap sb "java/lang/String" := (((((Esb.ext E23).ext E26).keep Ke).ext E41).keep Kv)
    have f53 : Fld Z T44.heap sb "java/lang/String" "value" "[B" (.ref tsb) := (((((Vsb.ext E23).ext E26).keep Ke (ninS ne_sb_en nin0)).ext E41).keep Kv (ninS ne_sb_ve nin0))
    have f54 : Fld Z T44.heap sb "java/lang/String" "coder" "B" (.int (0 : Int32)) := (((((Csb.ext E23).ext E26).keep Ke (ninS ne_sb_en nin0)).ext E41).keep Kv (ninS ne_sb_ve nin0))
    have f55 : Arv Z T44.heap tsb ksb .byte (Int32.ofNat (own_cs v4 v10 v11 v12).length) (((own_cs v4 v10 v11 v12).map (fun c => c.toInt8.toInt32)).map Value.int) (.int (0 : Int32)) := (((((Asb.ext E23).ext E26).keep Ke (ninS ne_tsb_en nin0)).ext E41).keep Kv (ninS ne_tsb_ve nin0))
    have f56 : Old Z n0 T44.heap := ((((((f17.keep Ksb all0).ext E23).ext E26).keep Ke (allS ge_en all0)).ext E41).keep Kv (allS ge_ve all0))
    have go57 : ∀ tgt, Steps p.tables e below (T44.setTop (mkF m 244 #[.val (.int p0), .val (.int p1), .val (.int p2), .val (.int v3), .val (.int v4), .val (.int b5), .val (.int b6), .val (.int v7), .val (.int v8), .val (.int v9), .val (.int v10), .val (.int v11), .val (.int v12), .val (.ref sa), .val (.ref sb), .val (.int b15), .val (.ref en), .val (.ref ve)] [(.ref ve)])) tgt → Steps p.tables e below E0 tgt := fun tgt kont => go44 tgt (by
      show Steps p.tables e below (T44.setTop (mkF m 240 #[.val (.int p0), .val (.int p1), .val (.int p2), .val (.int v3), .val (.int v4), .val (.int b5), .val (.int b6), .val (.int v7), .val (.int v8), .val (.int v9), .val (.int v10), .val (.int v11), .val (.int v12), .val (.ref sa), .val (.ref sb), .val (.int b15), .val (.ref en), .unset] [(.ref ve)])) tgt
      refine XS.astore X44.here hx rfl (hb hby at_240) rfl rfl (l' := #[.val (.int p0), .val (.int p1), .val (.int p2), .val (.int v3), .val (.int v4), .val (.int b5), .val (.int b6), .val (.int v7), .val (.int v8), .val (.int v9), .val (.int v10), .val (.int v11), .val (.int v12), .val (.ref sa), .val (.ref sb), .val (.int b15), .val (.ref en), .val (.ref ve)]) rfl ?_
      show Steps p.tables e below (T44.setTop (mkF m 242 #[.val (.int p0), .val (.int p1), .val (.int p2), .val (.int v3), .val (.int v4), .val (.int b5), .val (.int b6), .val (.int v7), .val (.int v8), .val (.int v9), .val (.int v10), .val (.int v11), .val (.int v12), .val (.ref sa), .val (.ref sb), .val (.int b15), .val (.ref en), .val (.ref ve)] [])) tgt
      refine XS.aload X44.here hx rfl (hb hby at_242) rfl rfl ?_
      exact kont)
    obtain ⟨cq58, kq58, q58a, q58b, q58c⟩ := isOf hZ19 rfl Ev
    obtain ⟨vv58, _, ⟨T58, L58, k58, n58⟩, -, X58, ⟨Lc58, hQ58, l58, y58, z58⟩, st58⟩ := X44.virtualBack hx (y := (⟨"com/example/caskwright/caskwright/io/MultiRelease$ViewEntry", "versioned", "()Z"⟩ : MethodName)) (z := (⟨"com/example/caskwright/caskwright/io/MultiRelease$ViewEntry", "versioned", "()Z"⟩ : MethodName)) hown19 (mvT hZ19 (hw _ (List.mem_of_getElem? (i := 85) rfl))) (mvT hZ19 (hw _ (List.mem_of_getElem? (i := 86) rfl))) (notFace_of_selects (args := #[]) (mvT hZ19 (hw _ (List.mem_of_getElem? (i := 88) rfl)))) (mvT hZ19 (hw _ (List.mem_of_getElem? (i := 88) rfl))) (mvT hZ19 (hw _ (List.mem_of_getElem? (i := 87) rfl))) (by decide) (backOf (W := 0) (rmVV l Z a0 hw [] ve en sa tsa ksa (own_cs v3 v7 v8 v9) sb tsb ksb (own_cs v4 v10 v11 v12) G T44.heap n0 z45 f46 Fv1 Fv2 f47 f48 f49 f50 f51 (own_cs_mem q7 q8 q9) (own_cs_len _ _ _ _) f52 f53 f54 f55 (own_cs_mem q10 q11 q12) (own_cs_len _ _ _ _) (SC.ext f56.2) hG) hZ19 (hw _ (List.mem_of_getElem? (i := 89) rfl)) (hw _ (List.mem_of_getElem? (i := 76) rfl)) (by decide) (by decide)) q58a q58c (g := (mkF m 244 #[.val (.int p0), .val (.int p1), .val (.int p2), .val (.int v3), .val (.int v4), .val (.int b5), .val (.int b6), .val (.int v7), .val (.int v8), .val (.int v9), .val (.int v10), .val (.int v11), .val (.int v12), .val (.ref sa), .val (.ref sb), .val (.int b15), .val (.ref en), .val (.ref ve)] [(.ref ve)])) rfl (by rw [hml]; rfl) (Steps.refl _) (argsL := []) (rest := []) (lenOf pd_13 rfl) rfl (by show 2 * 0 + _ ≤ _; exact Nat.le_of_eq rfl) (hb hby at_244) (fun _ _ => ⟨rfl, rfl, (by decide : 12 + 0 ≤ _), (by decide : 30 + 0 ≤ _)⟩)
    dsimp only [Pt.U, Pt.locs, Pt.cells, Pt.slots] at X58 l58 y58 z58 st58 hQ58
    subst l58 y58 z58
    obtain ⟨hv58, N58q, e58⟩ := hQ58
    obtain ⟨rv, rfl, hrv⟩ : ∃ r : Int32, vv58 = some (.int r) ∧ ((r = 1 ∧ ¬ ((own_cs v3 v7 v8 v9) = (own_cs v4 v10 v11 v12))) ∨ (r = 0 ∧ ¬ (¬ ((own_cs v3 v7 v8 v9) = (own_cs v4 v10 v11 v12))))) := by
      rcases hv58 with ⟨q, u⟩ | ⟨q, u⟩
      · exact ⟨1, q, Or.inl ⟨rfl, u⟩⟩
      · exact ⟨0, q, Or.inr ⟨rfl, u⟩⟩
    have N58 := Fr.app N44 N58q
    have go58 : ∀ tgt, Steps p.tables e below (T58.setTop (mkF m 247 #[.val (.int p0), .val (.int p1), .val (.int p2), .val (.int v3), .val (.int v4), .val (.int b5), .val (.int b6), .val (.int v7), .val (.int v8), .val (.int v9), .val (.int v10), .val (.int v11), .val (.int v12), .val (.ref sa), .val (.ref sb), .val (.int b15), .val (.ref en), .val (.ref ve)] [(.int rv)])) tgt → Steps p.tables e below E0 tgt := fun tgt kont => go57 tgt (st58.trans kont)
    have go59 : ∀ tgt, Steps p.tables e below (T58.setTop (mkF m 249 #[.val (.int p0), .val (.int p1), .val (.int p2), .val (.int v3), .val (.int v4), .val (.int b5), .val (.int b6), .val (.int v7), .val (.int v8), .val (.int v9), .val (.int v10), .val (.int v11), .val (.int v12), .val (.ref sa), .val (.ref sb), .val (.int b15), .val (.ref en), .val (.ref ve)] [(.int b15), (.int rv)])) tgt → Steps p.tables e below E0 tgt := fun tgt kont => go58 tgt (by
      show Steps p.tables e below (T58.setTop (mkF m 247 #[.val (.int p0), .val (.int p1), .val (.int p2), .val (.int v3), .val (.int v4), .val (.int b5), .val (.int b6), .val (.int v7), .val (.int v8), .val (.int v9), .val (.int v10), .val (.int v11), .val (.int v12), .val (.ref sa), .val (.ref sb), .val (.int b15), .val (.ref en), .val (.ref ve)] [(.int rv)])) tgt
      refine XS.iload X58.here hx rfl (hb hby at_247) rfl ?_
      exact kont)
    by_cases h15 : b15 = (0 : Int32)
    · have c1 : rv = 1 := hrv.elim (fun u => u.1) (fun u => absurd (fun q => hb15.elim (fun z => absurd (z.1.symm.trans h15) (by decide)) (fun z => z.2 q)) u.2)
      have go60 : ∀ tgt, Steps p.tables e below (T58.setTop (mkF m 265 #[.val (.int p0), .val (.int p1), .val (.int p2), .val (.int v3), .val (.int v4), .val (.int b5), .val (.int b6), .val (.int v7), .val (.int v8), .val (.int v9), .val (.int v10), .val (.int v11), .val (.int v12), .val (.ref sa), .val (.ref sb), .val (.int b15), .val (.ref en), .val (.ref ve)] [(.int (1 : Int32))])) tgt → Steps p.tables e below E0 tgt := fun tgt kont => go59 tgt (by
        show Steps p.tables e below (T58.setTop (mkF m 249 #[.val (.int p0), .val (.int p1), .val (.int p2), .val (.int v3), .val (.int v4), .val (.int b5), .val (.int b6), .val (.int v7), .val (.int v8), .val (.int v9), .val (.int v10), .val (.int v11), .val (.int v12), .val (.ref sa), .val (.ref sb), .val (.int b15), .val (.ref en), .val (.ref ve)] [(.int b15), (.int rv)])) tgt
        refine XS.ifNo X58.here hx rfl (hb hby at_249) rfl ((if0 _ _).trans (teq h15).2) ?_
        show Steps p.tables e below (T58.setTop (mkF m 252 #[.val (.int p0), .val (.int p1), .val (.int p2), .val (.int v3), .val (.int v4), .val (.int b5), .val (.int b6), .val (.int v7), .val (.int v8), .val (.int v9), .val (.int v10), .val (.int v11), .val (.int v12), .val (.ref sa), .val (.ref sb), .val (.int b15), .val (.ref en), .val (.ref ve)] [(.int rv)])) tgt
        refine XS.iconst X58.here hx rfl (hb hby at_252) ?_
        show Steps p.tables e below (T58.setTop (mkF m 253 #[.val (.int p0), .val (.int p1), .val (.int p2), .val (.int v3), .val (.int v4), .val (.int b5), .val (.int b6), .val (.int v7), .val (.int v8), .val (.int v9), .val (.int v10), .val (.int v11), .val (.int v12), .val (.ref sa), .val (.ref sb), .val (.int b15), .val (.ref en), .val (.ref ve)] [(.int (1 : Int32)), (.int rv)])) tgt
        refine XS.goto X58.here hx rfl (pc0 := 253) (pc' := 257) rfl (hb hby at_253) (by decide) (by decide) ?_
        show Steps p.tables e below (T58.setTop (mkF m 257 #[.val (.int p0), .val (.int p1), .val (.int p2), .val (.int v3), .val (.int v4), .val (.int b5), .val (.int b6), .val (.int v7), .val (.int v8), .val (.int v9), .val (.int v10), .val (.int v11), .val (.int v12), .val (.ref sa), .val (.ref sb), .val (.int b15), .val (.ref en), .val (.ref ve)] [(.int (1 : Int32)), (.int rv)])) tgt
        refine XS.icmpNo X58.here hx rfl (hb hby at_257) rfl (teq c1).2 ?_
        show Steps p.tables e below (T58.setTop (mkF m 260 #[.val (.int p0), .val (.int p1), .val (.int p2), .val (.int v3), .val (.int v4), .val (.int b5), .val (.int b6), .val (.int v7), .val (.int v8), .val (.int v9), .val (.int v10), .val (.int v11), .val (.int v12), .val (.ref sa), .val (.ref sb), .val (.int b15), .val (.ref en), .val (.ref ve)] [])) tgt
        refine XS.iconst X58.here hx rfl (hb hby at_260) ?_
        show Steps p.tables e below (T58.setTop (mkF m 261 #[.val (.int p0), .val (.int p1), .val (.int p2), .val (.int v3), .val (.int v4), .val (.int b5), .val (.int b6), .val (.int v7), .val (.int v8), .val (.int v9), .val (.int v10), .val (.int v11), .val (.int v12), .val (.ref sa), .val (.ref sb), .val (.int b15), .val (.ref en), .val (.ref ve)] [(.int (1 : Int32))])) tgt
        refine XS.goto X58.here hx rfl (pc0 := 261) (pc' := 265) rfl (hb hby at_261) (by decide) (by decide) ?_
        exact kont)
      obtain ⟨fs, hr, hrun, hended, hW⟩ := X58.leaveW hS19 (by rw [e58]; exact (Nat.le_trans (Nat.le_refl _) (Nat.le_trans (Nat.le_trans (Nat.le_trans (Nat.le_trans E23.1 E26.1) Ke.1) E41.1) Kv.1))) (v := some (.int (1 : Int32))) (fun h => by rw [Bd.returns] at h; cases h)
      refine ⟨_, _, go60 _ ?_, hrun, hended, _, _, rfl, ?_, hW.1, hW.2.1, hW.2.2.1, hW.2.2.2.mono (by decide) (by decide)⟩
      · show Steps p.tables e below (T58.setTop (mkF m 265 #[.val (.int p0), .val (.int p1), .val (.int p2), .val (.int v3), .val (.int v4), .val (.int b5), .val (.int b6), .val (.int v7), .val (.int v8), .val (.int v9), .val (.int v10), .val (.int v11), .val (.int v12), .val (.ref sa), .val (.ref sb), .val (.int b15), .val (.ref en), .val (.ref ve)] [(.int (1 : Int32))])) _
        exact retN X58 hx (t := .boolean) Bd.returns (by simp) (hb hby at_265) hr
      · show QL Z p0 p1 p2 G h0 n0 _ T58.heap _ T58.vm
        rw [e58]
        exact ⟨rfl, N58⟩
    · have c0 : rv = 0 := hrv.elim (fun u => absurd (hb15.elim (fun z => z.2) (fun z => absurd z.1 h15)) u.2) (fun u => u.1)
      have go61 : ∀ tgt, Steps p.tables e below (T58.setTop (mkF m 265 #[.val (.int p0), .val (.int p1), .val (.int p2), .val (.int v3), .val (.int v4), .val (.int b5), .val (.int b6), .val (.int v7), .val (.int v8), .val (.int v9), .val (.int v10), .val (.int v11), .val (.int v12), .val (.ref sa), .val (.ref sb), .val (.int b15), .val (.ref en), .val (.ref ve)] [(.int (1 : Int32))])) tgt → Steps p.tables e below E0 tgt := fun tgt kont => go59 tgt (by
        show Steps p.tables e below (T58.setTop (mkF m 249 #[.val (.int p0), .val (.int p1), .val (.int p2), .val (.int v3), .val (.int v4), .val (.int b5), .val (.int b6), .val (.int v7), .val (.int v8), .val (.int v9), .val (.int v10), .val (.int v11), .val (.int v12), .val (.ref sa), .val (.ref sb), .val (.int b15), .val (.ref en), .val (.ref ve)] [(.int b15), (.int rv)])) tgt
        refine XS.ifYes X58.here hx rfl (pc0 := 249) (pc' := 256) rfl (hb hby at_249) rfl ((if0 _ _).trans (feq h15).2) (by decide) (by decide) ?_
        show Steps p.tables e below (T58.setTop (mkF m 256 #[.val (.int p0), .val (.int p1), .val (.int p2), .val (.int v3), .val (.int v4), .val (.int b5), .val (.int b6), .val (.int v7), .val (.int v8), .val (.int v9), .val (.int v10), .val (.int v11), .val (.int v12), .val (.ref sa), .val (.ref sb), .val (.int b15), .val (.ref en), .val (.ref ve)] [(.int rv)])) tgt
        refine XS.iconst X58.here hx rfl (hb hby at_256) ?_
        show Steps p.tables e below (T58.setTop (mkF m 257 #[.val (.int p0), .val (.int p1), .val (.int p2), .val (.int v3), .val (.int v4), .val (.int b5), .val (.int b6), .val (.int v7), .val (.int v8), .val (.int v9), .val (.int v10), .val (.int v11), .val (.int v12), .val (.ref sa), .val (.ref sb), .val (.int b15), .val (.ref en), .val (.ref ve)] [(.int (0 : Int32)), (.int rv)])) tgt
        refine XS.icmpNo X58.here hx rfl (hb hby at_257) rfl (teq c0).2 ?_
        show Steps p.tables e below (T58.setTop (mkF m 260 #[.val (.int p0), .val (.int p1), .val (.int p2), .val (.int v3), .val (.int v4), .val (.int b5), .val (.int b6), .val (.int v7), .val (.int v8), .val (.int v9), .val (.int v10), .val (.int v11), .val (.int v12), .val (.ref sa), .val (.ref sb), .val (.int b15), .val (.ref en), .val (.ref ve)] [])) tgt
        refine XS.iconst X58.here hx rfl (hb hby at_260) ?_
        show Steps p.tables e below (T58.setTop (mkF m 261 #[.val (.int p0), .val (.int p1), .val (.int p2), .val (.int v3), .val (.int v4), .val (.int b5), .val (.int b6), .val (.int v7), .val (.int v8), .val (.int v9), .val (.int v10), .val (.int v11), .val (.int v12), .val (.ref sa), .val (.ref sb), .val (.int b15), .val (.ref en), .val (.ref ve)] [(.int (1 : Int32))])) tgt
        refine XS.goto X58.here hx rfl (pc0 := 261) (pc' := 265) rfl (hb hby at_261) (by decide) (by decide) ?_
        exact kont)
      obtain ⟨fs, hr, hrun, hended, hW⟩ := X58.leaveW hS19 (by rw [e58]; exact (Nat.le_trans (Nat.le_refl _) (Nat.le_trans (Nat.le_trans (Nat.le_trans (Nat.le_trans E23.1 E26.1) Ke.1) E41.1) Kv.1))) (v := some (.int (1 : Int32))) (fun h => by rw [Bd.returns] at h; cases h)
      refine ⟨_, _, go61 _ ?_, hrun, hended, _, _, rfl, ?_, hW.1, hW.2.1, hW.2.2.1, hW.2.2.2.mono (by decide) (by decide)⟩
      · show Steps p.tables e below (T58.setTop (mkF m 265 #[.val (.int p0), .val (.int p1), .val (.int p2), .val (.int v3), .val (.int v4), .val (.int b5), .val (.int b6), .val (.int v7), .val (.int v8), .val (.int v9), .val (.int v10), .val (.int v11), .val (.int v12), .val (.ref sa), .val (.ref sb), .val (.int b15), .val (.ref en), .val (.ref ve)] [(.int (1 : Int32))])) _
        exact retN X58 hx (t := .boolean) Bd.returns (by simp) (hb hby at_265) hr
      · show QL Z p0 p1 p2 G h0 n0 _ T58.heap _ T58.vm
        rw [e58]
        exact ⟨rfl, N58⟩
  · have go62 : ∀ tgt, Steps p.tables e below (s₁.setTop (mkF m 111 #[.val (.int p0), .val (.int p1), .val (.int p2), .val (.int v3), .val (.int v3), .val (.int b5), .val (.int b6), .val (.int v7), .val (.int v8), .val (.int v9), .val (.int v10), .val (.int v11), .val (.int v12), .unset, .unset, .unset, .unset, .unset] [(.int b6)])) tgt → Steps p.tables e below E0 tgt := fun tgt kont => go13 tgt (by
      show Steps p.tables e below (s₁.setTop (mkF m 103 #[.val (.int p0), .val (.int p1), .val (.int p2), .val (.int v3), .val (.int v4), .val (.int b5), .val (.int b6), .val (.int v7), .val (.int v8), .val (.int v9), .val (.int v10), .val (.int v11), .val (.int v12), .unset, .unset, .unset, .unset, .unset] [(.int b5)])) tgt
      refine XS.ifNo X0.here hx rfl (hb hby at_103) rfl ((if0 _ _).trans (feq hcp).1) ?_
      show Steps p.tables e below (s₁.setTop (mkF m 106 #[.val (.int p0), .val (.int p1), .val (.int p2), .val (.int v3), .val (.int v4), .val (.int b5), .val (.int b6), .val (.int v7), .val (.int v8), .val (.int v9), .val (.int v10), .val (.int v11), .val (.int v12), .unset, .unset, .unset, .unset, .unset] [])) tgt
      refine XS.iloadN X0.here hx rfl (hb hby at_106) rfl ?_
      show Steps p.tables e below (s₁.setTop (mkF m 107 #[.val (.int p0), .val (.int p1), .val (.int p2), .val (.int v3), .val (.int v4), .val (.int b5), .val (.int b6), .val (.int v7), .val (.int v8), .val (.int v9), .val (.int v10), .val (.int v11), .val (.int v12), .unset, .unset, .unset, .unset, .unset] [(.int v3)])) tgt
      refine XS.istore X0.here hx rfl (hb hby at_107) rfl (l' := #[.val (.int p0), .val (.int p1), .val (.int p2), .val (.int v3), .val (.int v3), .val (.int b5), .val (.int b6), .val (.int v7), .val (.int v8), .val (.int v9), .val (.int v10), .val (.int v11), .val (.int v12), .unset, .unset, .unset, .unset, .unset]) rfl ?_
      show Steps p.tables e below (s₁.setTop (mkF m 109 #[.val (.int p0), .val (.int p1), .val (.int p2), .val (.int v3), .val (.int v3), .val (.int b5), .val (.int b6), .val (.int v7), .val (.int v8), .val (.int v9), .val (.int v10), .val (.int v11), .val (.int v12), .unset, .unset, .unset, .unset, .unset] [])) tgt
      refine XS.iload X0.here hx rfl (hb hby at_109) rfl ?_
      exact kont)
    obtain ⟨vb, hvb, go63⟩ : ∃ vb : Int32, (own_chr vb) ∧ ∀ tgt, Steps p.tables e below (s₁.setTop (mkF m 127 #[.val (.int p0), .val (.int p1), .val (.int p2), .val (.int v3), .val (.int v3), .val (.int b5), .val (.int b6), .val (.int v7), .val (.int v8), .val (.int v9), .val (.int vb), .val (.int v11), .val (.int v12), .unset, .unset, .unset, .unset, .unset] [])) tgt → Steps p.tables e below E0 tgt := by
      by_cases hf : b6 = (0 : Int32)
      · exact ⟨v7, q7, fun tgt kont => go62 tgt (by
          show Steps p.tables e below (s₁.setTop (mkF m 111 #[.val (.int p0), .val (.int p1), .val (.int p2), .val (.int v3), .val (.int v3), .val (.int b5), .val (.int b6), .val (.int v7), .val (.int v8), .val (.int v9), .val (.int v10), .val (.int v11), .val (.int v12), .unset, .unset, .unset, .unset, .unset] [(.int b6)])) tgt
          refine XS.ifYes X0.here hx rfl (pc0 := 111) (pc' := 123) rfl (hb hby at_111) rfl ((if0 _ _).trans (teq hf).1) (by decide) (by decide) ?_
          show Steps p.tables e below (s₁.setTop (mkF m 123 #[.val (.int p0), .val (.int p1), .val (.int p2), .val (.int v3), .val (.int v3), .val (.int b5), .val (.int b6), .val (.int v7), .val (.int v8), .val (.int v9), .val (.int v10), .val (.int v11), .val (.int v12), .unset, .unset, .unset, .unset, .unset] [])) tgt
          refine XS.iload X0.here hx rfl (hb hby at_123) rfl ?_
          show Steps p.tables e below (s₁.setTop (mkF m 125 #[.val (.int p0), .val (.int p1), .val (.int p2), .val (.int v3), .val (.int v3), .val (.int b5), .val (.int b6), .val (.int v7), .val (.int v8), .val (.int v9), .val (.int v10), .val (.int v11), .val (.int v12), .unset, .unset, .unset, .unset, .unset] [(.int v7)])) tgt
          refine XS.istore X0.here hx rfl (hb hby at_125) rfl (l' := #[.val (.int p0), .val (.int p1), .val (.int p2), .val (.int v3), .val (.int v3), .val (.int b5), .val (.int b6), .val (.int v7), .val (.int v8), .val (.int v9), .val (.int v7), .val (.int v11), .val (.int v12), .unset, .unset, .unset, .unset, .unset]) rfl ?_
          exact kont)⟩
      · exact ⟨((v7 ^^^ (32 : Int32)).toUInt32.toUInt16.toUInt32.toInt32), own_flip q7, fun tgt kont => go62 tgt (by
          show Steps p.tables e below (s₁.setTop (mkF m 111 #[.val (.int p0), .val (.int p1), .val (.int p2), .val (.int v3), .val (.int v3), .val (.int b5), .val (.int b6), .val (.int v7), .val (.int v8), .val (.int v9), .val (.int v10), .val (.int v11), .val (.int v12), .unset, .unset, .unset, .unset, .unset] [(.int b6)])) tgt
          refine XS.ifNo X0.here hx rfl (hb hby at_111) rfl ((if0 _ _).trans (feq hf).1) ?_
          show Steps p.tables e below (s₁.setTop (mkF m 114 #[.val (.int p0), .val (.int p1), .val (.int p2), .val (.int v3), .val (.int v3), .val (.int b5), .val (.int b6), .val (.int v7), .val (.int v8), .val (.int v9), .val (.int v10), .val (.int v11), .val (.int v12), .unset, .unset, .unset, .unset, .unset] [])) tgt
          refine XS.iload X0.here hx rfl (hb hby at_114) rfl ?_
          show Steps p.tables e below (s₁.setTop (mkF m 116 #[.val (.int p0), .val (.int p1), .val (.int p2), .val (.int v3), .val (.int v3), .val (.int b5), .val (.int b6), .val (.int v7), .val (.int v8), .val (.int v9), .val (.int v10), .val (.int v11), .val (.int v12), .unset, .unset, .unset, .unset, .unset] [(.int v7)])) tgt
          refine XS.bipush X0.here hx rfl (hb hby at_116) ?_
          show Steps p.tables e below (s₁.setTop (mkF m 118 #[.val (.int p0), .val (.int p1), .val (.int p2), .val (.int v3), .val (.int v3), .val (.int b5), .val (.int b6), .val (.int v7), .val (.int v8), .val (.int v9), .val (.int v10), .val (.int v11), .val (.int v12), .unset, .unset, .unset, .unset, .unset] [(.int (32 : Int32)), (.int v7)])) tgt
          refine XS.ixor X0.here hx rfl (hb hby at_118) rfl ?_
          show Steps p.tables e below (s₁.setTop (mkF m 119 #[.val (.int p0), .val (.int p1), .val (.int p2), .val (.int v3), .val (.int v3), .val (.int b5), .val (.int b6), .val (.int v7), .val (.int v8), .val (.int v9), .val (.int v10), .val (.int v11), .val (.int v12), .unset, .unset, .unset, .unset, .unset] [(.int (v7 ^^^ (32 : Int32)))])) tgt
          refine XS.i2c X0.here hx rfl (hb hby at_119) rfl ?_
          show Steps p.tables e below (s₁.setTop (mkF m 120 #[.val (.int p0), .val (.int p1), .val (.int p2), .val (.int v3), .val (.int v3), .val (.int b5), .val (.int b6), .val (.int v7), .val (.int v8), .val (.int v9), .val (.int v10), .val (.int v11), .val (.int v12), .unset, .unset, .unset, .unset, .unset] [(.int ((v7 ^^^ (32 : Int32)).toUInt32.toUInt16.toUInt32.toInt32))])) tgt
          refine XS.goto X0.here hx rfl (pc0 := 120) (pc' := 125) rfl (hb hby at_120) (by decide) (by decide) ?_
          show Steps p.tables e below (s₁.setTop (mkF m 125 #[.val (.int p0), .val (.int p1), .val (.int p2), .val (.int v3), .val (.int v3), .val (.int b5), .val (.int b6), .val (.int v7), .val (.int v8), .val (.int v9), .val (.int v10), .val (.int v11), .val (.int v12), .unset, .unset, .unset, .unset, .unset] [(.int ((v7 ^^^ (32 : Int32)).toUInt32.toUInt16.toUInt32.toInt32))])) tgt
          refine XS.istore X0.here hx rfl (hb hby at_125) rfl (l' := #[.val (.int p0), .val (.int p1), .val (.int p2), .val (.int v3), .val (.int v3), .val (.int b5), .val (.int b6), .val (.int v7), .val (.int v8), .val (.int v9), .val (.int ((v7 ^^^ (32 : Int32)).toUInt32.toUInt16.toUInt32.toInt32)), .val (.int v11), .val (.int v12), .unset, .unset, .unset, .unset, .unset]) rfl ?_
          exact kont)⟩
    have go64 : ∀ tgt, Steps p.tables e below (s₁.setTop (mkF m 142 #[.val (.int p0), .val (.int p1), .val (.int p2), .val (.int v3), .val (.int v3), .val (.int b5), .val (.int b6), .val (.int v7), .val (.int v8), .val (.int v9), .val (.int vb), .val (.int v8), .val (.int v9), .unset, .unset, .unset, .unset, .unset] [(.int v9), (.int v8), (.int v7), (.int v3)])) tgt → Steps p.tables e below E0 tgt := fun tgt kont => go63 tgt (by
      show Steps p.tables e below (s₁.setTop (mkF m 127 #[.val (.int p0), .val (.int p1), .val (.int p2), .val (.int v3), .val (.int v3), .val (.int b5), .val (.int b6), .val (.int v7), .val (.int v8), .val (.int v9), .val (.int vb), .val (.int v11), .val (.int v12), .unset, .unset, .unset, .unset, .unset] [])) tgt
      refine XS.iload X0.here hx rfl (hb hby at_127) rfl ?_
      show Steps p.tables e below (s₁.setTop (mkF m 129 #[.val (.int p0), .val (.int p1), .val (.int p2), .val (.int v3), .val (.int v3), .val (.int b5), .val (.int b6), .val (.int v7), .val (.int v8), .val (.int v9), .val (.int vb), .val (.int v11), .val (.int v12), .unset, .unset, .unset, .unset, .unset] [(.int v8)])) tgt
      refine XS.istore X0.here hx rfl (hb hby at_129) rfl (l' := #[.val (.int p0), .val (.int p1), .val (.int p2), .val (.int v3), .val (.int v3), .val (.int b5), .val (.int b6), .val (.int v7), .val (.int v8), .val (.int v9), .val (.int vb), .val (.int v8), .val (.int v12), .unset, .unset, .unset, .unset, .unset]) rfl ?_
      show Steps p.tables e below (s₁.setTop (mkF m 131 #[.val (.int p0), .val (.int p1), .val (.int p2), .val (.int v3), .val (.int v3), .val (.int b5), .val (.int b6), .val (.int v7), .val (.int v8), .val (.int v9), .val (.int vb), .val (.int v8), .val (.int v12), .unset, .unset, .unset, .unset, .unset] [])) tgt
      refine XS.iload X0.here hx rfl (hb hby at_131) rfl ?_
      show Steps p.tables e below (s₁.setTop (mkF m 133 #[.val (.int p0), .val (.int p1), .val (.int p2), .val (.int v3), .val (.int v3), .val (.int b5), .val (.int b6), .val (.int v7), .val (.int v8), .val (.int v9), .val (.int vb), .val (.int v8), .val (.int v12), .unset, .unset, .unset, .unset, .unset] [(.int v9)])) tgt
      refine XS.istore X0.here hx rfl (hb hby at_133) rfl (l' := #[.val (.int p0), .val (.int p1), .val (.int p2), .val (.int v3), .val (.int v3), .val (.int b5), .val (.int b6), .val (.int v7), .val (.int v8), .val (.int v9), .val (.int vb), .val (.int v8), .val (.int v9), .unset, .unset, .unset, .unset, .unset]) rfl ?_
      show Steps p.tables e below (s₁.setTop (mkF m 135 #[.val (.int p0), .val (.int p1), .val (.int p2), .val (.int v3), .val (.int v3), .val (.int b5), .val (.int b6), .val (.int v7), .val (.int v8), .val (.int v9), .val (.int vb), .val (.int v8), .val (.int v9), .unset, .unset, .unset, .unset, .unset] [])) tgt
      refine XS.iloadN X0.here hx rfl (hb hby at_135) rfl ?_
      show Steps p.tables e below (s₁.setTop (mkF m 136 #[.val (.int p0), .val (.int p1), .val (.int p2), .val (.int v3), .val (.int v3), .val (.int b5), .val (.int b6), .val (.int v7), .val (.int v8), .val (.int v9), .val (.int vb), .val (.int v8), .val (.int v9), .unset, .unset, .unset, .unset, .unset] [(.int v3)])) tgt
      refine XS.iload X0.here hx rfl (hb hby at_136) rfl ?_
      show Steps p.tables e below (s₁.setTop (mkF m 138 #[.val (.int p0), .val (.int p1), .val (.int p2), .val (.int v3), .val (.int v3), .val (.int b5), .val (.int b6), .val (.int v7), .val (.int v8), .val (.int v9), .val (.int vb), .val (.int v8), .val (.int v9), .unset, .unset, .unset, .unset, .unset] [(.int v7), (.int v3)])) tgt
      refine XS.iload X0.here hx rfl (hb hby at_138) rfl ?_
      show Steps p.tables e below (s₁.setTop (mkF m 140 #[.val (.int p0), .val (.int p1), .val (.int p2), .val (.int v3), .val (.int v3), .val (.int b5), .val (.int b6), .val (.int v7), .val (.int v8), .val (.int v9), .val (.int vb), .val (.int v8), .val (.int v9), .unset, .unset, .unset, .unset, .unset] [(.int v8), (.int v7), (.int v3)])) tgt
      refine XS.iload X0.here hx rfl (hb hby at_140) rfl ?_
      exact kont)
    obtain ⟨_, _, ⟨T65, L65, k65, n65⟩, -, Xp65, hSp65, hgp65, ⟨Lc65, hQ65, l65, y65, z65⟩, st65⟩ := callSS X0 hx (y := (⟨"com/example/caskwright/caskwright/io/ViewEntryVersionedPinLaw", "make", "(ICCC)Ljava/lang/String;"⟩ : MethodName)) hown (mvT hZ (hw _ (List.mem_of_getElem? (i := 0) rfl))) (mvT hZ (hw _ (List.mem_of_getElem? (i := 1) rfl))) (mvT hZ (hw _ (List.mem_of_getElem? (i := 2) rfl))) (mvT hZ (hw _ (List.mem_of_getElem? (i := 3) rfl))) (by decide) (own_backJ (W := 0) (rmMK l Z a0 hw [] v3 v7 v8 v9 G h0 n0 Z0 q7 q8 q9 SC hG O0 hH hCW) hZ (hw _ (List.mem_of_getElem? (i := 3) rfl)) (hw _ (List.mem_of_getElem? (i := 2) rfl)) (by decide) (by decide)) (g := (mkF m 142 #[.val (.int p0), .val (.int p1), .val (.int p2), .val (.int v3), .val (.int v3), .val (.int b5), .val (.int b6), .val (.int v7), .val (.int v8), .val (.int v9), .val (.int vb), .val (.int v8), .val (.int v9), .unset, .unset, .unset, .unset, .unset] [(.int v9), (.int v8), (.int v7), (.int v3)])) rfl (by rw [hml]; rfl) (argsL := [(.int v3), (.int v7), (.int v8), (.int v9)]) (rest := []) (lenOf pd_10 rfl) rfl (by show 2 * 0 + _ ≤ _; exact Nat.le_of_eq rfl) (hb hby at_142) (fun _ hwm => ⟨rfl, e0, (own_Jwarm (s := s.setVm s.vm) hJ0 hwm), (by decide : 0 + 4 ≤ _), (by decide : 0 + 10 ≤ _)⟩)
    dsimp only [Pt.U, Pt.locs, Pt.cells, Pt.slots] at Xp65 hSp65 hgp65 l65 y65 z65 st65 hQ65
    subst l65 y65 z65
    obtain ⟨X65, hS65, hZ65, hown65⟩ := rebS hS0 (by rw [e0]; exact hk0) Xp65 hSp65 hgp65 hZ hown
    obtain ⟨rfl, N65q, Ksa, Esa, Csa, tsa, ksa, ltsa, Vsa, Asa, Jsa⟩ := hQ65
    have N65 := Fr.app N0 N65q
    obtain ⟨sa, g65⟩ : ∃ z, z = h0.size := ⟨_, rfl⟩
    rw [← g65] at st65 Esa Csa Vsa
    have ge_sa : n0 ≤ sa := Nat.le_trans Z0 (Nat.le_of_eq g65.symm)
    have z66 : n0 ≤ T65.heap.size := Nat.le_trans Z0 Ksa.1
    have go65 : ∀ tgt, Steps p.tables e below (T65.setTop (mkF m 145 #[.val (.int p0), .val (.int p1), .val (.int p2), .val (.int v3), .val (.int v3), .val (.int b5), .val (.int b6), .val (.int v7), .val (.int v8), .val (.int v9), .val (.int vb), .val (.int v8), .val (.int v9), .unset, .unset, .unset, .unset, .unset] [(.ref sa)])) tgt → Steps p.tables e below E0 tgt := fun tgt kont => go64 tgt (st65.trans kont)
    have f67 : Old Z n0 T65.heap := (O0.keep Ksa all0)
    have go68 : ∀ tgt, Steps p.tables e below (T65.setTop (mkF m 155 #[.val (.int p0), .val (.int p1), .val (.int p2), .val (.int v3), .val (.int v3), .val (.int b5), .val (.int b6), .val (.int v7), .val (.int v8), .val (.int v9), .val (.int vb), .val (.int v8), .val (.int v9), .val (.ref sa), .unset, .unset, .unset, .unset] [(.int v9), (.int v8), (.int vb), (.int v3)])) tgt → Steps p.tables e below E0 tgt := fun tgt kont => go65 tgt (by
      show Steps p.tables e below (T65.setTop (mkF m 145 #[.val (.int p0), .val (.int p1), .val (.int p2), .val (.int v3), .val (.int v3), .val (.int b5), .val (.int b6), .val (.int v7), .val (.int v8), .val (.int v9), .val (.int vb), .val (.int v8), .val (.int v9), .unset, .unset, .unset, .unset, .unset] [(.ref sa)])) tgt
      refine XS.astore X65.here hx rfl (hb hby at_145) rfl rfl (l' := #[.val (.int p0), .val (.int p1), .val (.int p2), .val (.int v3), .val (.int v3), .val (.int b5), .val (.int b6), .val (.int v7), .val (.int v8), .val (.int v9), .val (.int vb), .val (.int v8), .val (.int v9), .val (.ref sa), .unset, .unset, .unset, .unset]) rfl ?_
      show Steps p.tables e below (T65.setTop (mkF m 147 #[.val (.int p0), .val (.int p1), .val (.int p2), .val (.int v3), .val (.int v3), .val (.int b5), .val (.int b6), .val (.int v7), .val (.int v8), .val (.int v9), .val (.int vb), .val (.int v8), .val (.int v9), .val (.ref sa), .unset, .unset, .unset, .unset] [])) tgt
      refine XS.iload X65.here hx rfl (hb hby at_147) rfl ?_
      show Steps p.tables e below (T65.setTop (mkF m 149 #[.val (.int p0), .val (.int p1), .val (.int p2), .val (.int v3), .val (.int v3), .val (.int b5), .val (.int b6), .val (.int v7), .val (.int v8), .val (.int v9), .val (.int vb), .val (.int v8), .val (.int v9), .val (.ref sa), .unset, .unset, .unset, .unset] [(.int v3)])) tgt
      refine XS.iload X65.here hx rfl (hb hby at_149) rfl ?_
      show Steps p.tables e below (T65.setTop (mkF m 151 #[.val (.int p0), .val (.int p1), .val (.int p2), .val (.int v3), .val (.int v3), .val (.int b5), .val (.int b6), .val (.int v7), .val (.int v8), .val (.int v9), .val (.int vb), .val (.int v8), .val (.int v9), .val (.ref sa), .unset, .unset, .unset, .unset] [(.int vb), (.int v3)])) tgt
      refine XS.iload X65.here hx rfl (hb hby at_151) rfl ?_
      show Steps p.tables e below (T65.setTop (mkF m 153 #[.val (.int p0), .val (.int p1), .val (.int p2), .val (.int v3), .val (.int v3), .val (.int b5), .val (.int b6), .val (.int v7), .val (.int v8), .val (.int v9), .val (.int vb), .val (.int v8), .val (.int v9), .val (.ref sa), .unset, .unset, .unset, .unset] [(.int v8), (.int vb), (.int v3)])) tgt
      refine XS.iload X65.here hx rfl (hb hby at_153) rfl ?_
      exact kont)
    obtain ⟨_, _, ⟨T69, L69, k69, n69⟩, -, Xp69, hSp69, hgp69, ⟨Lc69, hQ69, l69, y69, z69⟩, st69⟩ := callSS X65 hx (y := (⟨"com/example/caskwright/caskwright/io/ViewEntryVersionedPinLaw", "make", "(ICCC)Ljava/lang/String;"⟩ : MethodName)) hown65 (mvT hZ65 (hw _ (List.mem_of_getElem? (i := 0) rfl))) (mvT hZ65 (hw _ (List.mem_of_getElem? (i := 1) rfl))) (mvT hZ65 (hw _ (List.mem_of_getElem? (i := 2) rfl))) (mvT hZ65 (hw _ (List.mem_of_getElem? (i := 3) rfl))) (by decide) (own_backJ (W := 0) (rmMK l Z a0 hw [] v3 vb v8 v9 G T65.heap n0 z66 hvb q8 q9 SC hG f67 hH hCW) hZ65 (hw _ (List.mem_of_getElem? (i := 3) rfl)) (hw _ (List.mem_of_getElem? (i := 2) rfl)) (by decide) (by decide)) (g := (mkF m 155 #[.val (.int p0), .val (.int p1), .val (.int p2), .val (.int v3), .val (.int v3), .val (.int b5), .val (.int b6), .val (.int v7), .val (.int v8), .val (.int v9), .val (.int vb), .val (.int v8), .val (.int v9), .val (.ref sa), .unset, .unset, .unset, .unset] [(.int v9), (.int v8), (.int vb), (.int v3)])) rfl (by rw [hml]; rfl) (argsL := [(.int v3), (.int vb), (.int v8), (.int v9)]) (rest := []) (lenOf pd_10 rfl) rfl (by show 2 * 0 + _ ≤ _; exact Nat.le_of_eq rfl) (hb hby at_155) (fun _ hwm => ⟨rfl, rfl, (own_Jwarm (s := s.setVm T65.vm) Jsa hwm), (by decide : 4 + 4 ≤ _), (by decide : 10 + 10 ≤ _)⟩)
    dsimp only [Pt.U, Pt.locs, Pt.cells, Pt.slots] at Xp69 hSp69 hgp69 l69 y69 z69 st69 hQ69
    subst l69 y69 z69
    obtain ⟨X69, hS69, hZ69, hown69⟩ := rebS hS65 (Nat.le_refl _) Xp69 hSp69 hgp69 hZ65 hown65
    obtain ⟨rfl, N69q, Ksb, Esb, Csb, tsb, ksb, ltsb, Vsb, Asb, Jsb⟩ := hQ69
    have N69 := Fr.app N65 N69q
    obtain ⟨sb, g69⟩ : ∃ z, z = T65.heap.size := ⟨_, rfl⟩
    rw [← g69] at st69 Esb Csb Vsb
    have ne_sa_sb : sa ≠ sb := Nat.ne_of_lt (Nat.lt_of_lt_of_le Esa.lt (Nat.le_of_eq g69.symm))
    have ne_tsa_sb : tsa ≠ sb := Nat.ne_of_lt (Nat.lt_of_lt_of_le Asa.lt (Nat.le_of_eq g69.symm))
    have ge_sb : n0 ≤ sb := Nat.le_trans z66 (Nat.le_of_eq g69.symm)
    have z70 : n0 ≤ T69.heap.size := Nat.le_trans z66 Ksb.1
    have go69 : ∀ tgt, Steps p.tables e below (T69.setTop (mkF m 158 #[.val (.int p0), .val (.int p1), .val (.int p2), .val (.int v3), .val (.int v3), .val (.int b5), .val (.int b6), .val (.int v7), .val (.int v8), .val (.int v9), .val (.int vb), .val (.int v8), .val (.int v9), .val (.ref sa), .unset, .unset, .unset, .unset] [(.ref sb)])) tgt → Steps p.tables e below E0 tgt := fun tgt kont => go68 tgt (st69.trans kont)
    have go71 : ∀ tgt, Steps p.tables e below (T69.setTop (mkF m 163 #[.val (.int p0), .val (.int p1), .val (.int p2), .val (.int v3), .val (.int v3), .val (.int b5), .val (.int b6), .val (.int v7), .val (.int v8), .val (.int v9), .val (.int vb), .val (.int v8), .val (.int v9), .val (.ref sa), .val (.ref sb), .unset, .unset, .unset] [(.int v3), (.int v3)])) tgt → Steps p.tables e below E0 tgt := fun tgt kont => go69 tgt (by
      show Steps p.tables e below (T69.setTop (mkF m 158 #[.val (.int p0), .val (.int p1), .val (.int p2), .val (.int v3), .val (.int v3), .val (.int b5), .val (.int b6), .val (.int v7), .val (.int v8), .val (.int v9), .val (.int vb), .val (.int v8), .val (.int v9), .val (.ref sa), .unset, .unset, .unset, .unset] [(.ref sb)])) tgt
      refine XS.astore X69.here hx rfl (hb hby at_158) rfl rfl (l' := #[.val (.int p0), .val (.int p1), .val (.int p2), .val (.int v3), .val (.int v3), .val (.int b5), .val (.int b6), .val (.int v7), .val (.int v8), .val (.int v9), .val (.int vb), .val (.int v8), .val (.int v9), .val (.ref sa), .val (.ref sb), .unset, .unset, .unset]) rfl ?_
      show Steps p.tables e below (T69.setTop (mkF m 160 #[.val (.int p0), .val (.int p1), .val (.int p2), .val (.int v3), .val (.int v3), .val (.int b5), .val (.int b6), .val (.int v7), .val (.int v8), .val (.int v9), .val (.int vb), .val (.int v8), .val (.int v9), .val (.ref sa), .val (.ref sb), .unset, .unset, .unset] [])) tgt
      refine XS.iloadN X69.here hx rfl (hb hby at_160) rfl ?_
      show Steps p.tables e below (T69.setTop (mkF m 161 #[.val (.int p0), .val (.int p1), .val (.int p2), .val (.int v3), .val (.int v3), .val (.int b5), .val (.int b6), .val (.int v7), .val (.int v8), .val (.int v9), .val (.int vb), .val (.int v8), .val (.int v9), .val (.ref sa), .val (.ref sb), .unset, .unset, .unset] [(.int v3)])) tgt
      refine XS.iload X69.here hx rfl (hb hby at_161) rfl ?_
      exact kont)
    obtain ⟨b15, hb15, go72⟩ : ∃ b15 : Int32, ((b15 = 1 ∧ ((own_cs v3 v7 v8 v9) = (own_cs v3 vb v8 v9))) ∨ (b15 = 0 ∧ ¬ ((own_cs v3 v7 v8 v9) = (own_cs v3 vb v8 v9)))) ∧ ∀ tgt, Steps p.tables e below (T69.setTop (mkF m 209 #[.val (.int p0), .val (.int p1), .val (.int p2), .val (.int v3), .val (.int v3), .val (.int b5), .val (.int b6), .val (.int v7), .val (.int v8), .val (.int v9), .val (.int vb), .val (.int v8), .val (.int v9), .val (.ref sa), .val (.ref sb), .val (.int b15), .unset, .unset] [])) tgt → Steps p.tables e below E0 tgt := by
      by_cases u0 : v3 = v3
      · rcases r3 with z | z | z | z
        · have ea : (own_cs v3 v7 v8 v9) = [] := by rw [own_cs, z]; rfl
          have eb : (own_cs v3 vb v8 v9) = [] := by rw [own_cs, z]; rfl
          exact ⟨1, Or.inl ⟨rfl, by rw [ea, eb]⟩, fun tgt kont => go71 tgt (by
              show Steps p.tables e below (T69.setTop (mkF m 163 #[.val (.int p0), .val (.int p1), .val (.int p2), .val (.int v3), .val (.int v3), .val (.int b5), .val (.int b6), .val (.int v7), .val (.int v8), .val (.int v9), .val (.int vb), .val (.int v8), .val (.int v9), .val (.ref sa), .val (.ref sb), .unset, .unset, .unset] [(.int v3), (.int v3)])) tgt
              refine XS.icmpNo X69.here hx rfl (hb hby at_163) rfl (teq u0).2 ?_
              show Steps p.tables e below (T69.setTop (mkF m 166 #[.val (.int p0), .val (.int p1), .val (.int p2), .val (.int v3), .val (.int v3), .val (.int b5), .val (.int b6), .val (.int v7), .val (.int v8), .val (.int v9), .val (.int vb), .val (.int v8), .val (.int v9), .val (.ref sa), .val (.ref sb), .unset, .unset, .unset] [])) tgt
              refine XS.iloadN X69.here hx rfl (hb hby at_166) rfl ?_
              show Steps p.tables e below (T69.setTop (mkF m 167 #[.val (.int p0), .val (.int p1), .val (.int p2), .val (.int v3), .val (.int v3), .val (.int b5), .val (.int b6), .val (.int v7), .val (.int v8), .val (.int v9), .val (.int vb), .val (.int v8), .val (.int v9), .val (.ref sa), .val (.ref sb), .unset, .unset, .unset] [(.int v3)])) tgt
              refine XS.iconst X69.here hx rfl (hb hby at_167) ?_
              show Steps p.tables e below (T69.setTop (mkF m 168 #[.val (.int p0), .val (.int p1), .val (.int p2), .val (.int v3), .val (.int v3), .val (.int b5), .val (.int b6), .val (.int v7), .val (.int v8), .val (.int v9), .val (.int vb), .val (.int v8), .val (.int v9), .val (.ref sa), .val (.ref sb), .unset, .unset, .unset] [(.int (1 : Int32)), (.int v3)])) tgt
              refine XS.icmpYes X69.here hx rfl (pc0 := 168) (pc' := 178) rfl (hb hby at_168) rfl (tlt (by rw [z]; decide)).1 (by decide) (by decide) ?_
              show Steps p.tables e below (T69.setTop (mkF m 178 #[.val (.int p0), .val (.int p1), .val (.int p2), .val (.int v3), .val (.int v3), .val (.int b5), .val (.int b6), .val (.int v7), .val (.int v8), .val (.int v9), .val (.int vb), .val (.int v8), .val (.int v9), .val (.ref sa), .val (.ref sb), .unset, .unset, .unset] [])) tgt
              refine XS.iloadN X69.here hx rfl (hb hby at_178) rfl ?_
              show Steps p.tables e below (T69.setTop (mkF m 179 #[.val (.int p0), .val (.int p1), .val (.int p2), .val (.int v3), .val (.int v3), .val (.int b5), .val (.int b6), .val (.int v7), .val (.int v8), .val (.int v9), .val (.int vb), .val (.int v8), .val (.int v9), .val (.ref sa), .val (.ref sb), .unset, .unset, .unset] [(.int v3)])) tgt
              refine XS.iconst X69.here hx rfl (hb hby at_179) ?_
              show Steps p.tables e below (T69.setTop (mkF m 180 #[.val (.int p0), .val (.int p1), .val (.int p2), .val (.int v3), .val (.int v3), .val (.int b5), .val (.int b6), .val (.int v7), .val (.int v8), .val (.int v9), .val (.int vb), .val (.int v8), .val (.int v9), .val (.ref sa), .val (.ref sb), .unset, .unset, .unset] [(.int (2 : Int32)), (.int v3)])) tgt
              refine XS.icmpYes X69.here hx rfl (pc0 := 180) (pc' := 190) rfl (hb hby at_180) rfl (tlt (by rw [z]; decide)).1 (by decide) (by decide) ?_
              show Steps p.tables e below (T69.setTop (mkF m 190 #[.val (.int p0), .val (.int p1), .val (.int p2), .val (.int v3), .val (.int v3), .val (.int b5), .val (.int b6), .val (.int v7), .val (.int v8), .val (.int v9), .val (.int vb), .val (.int v8), .val (.int v9), .val (.ref sa), .val (.ref sb), .unset, .unset, .unset] [])) tgt
              refine XS.iloadN X69.here hx rfl (hb hby at_190) rfl ?_
              show Steps p.tables e below (T69.setTop (mkF m 191 #[.val (.int p0), .val (.int p1), .val (.int p2), .val (.int v3), .val (.int v3), .val (.int b5), .val (.int b6), .val (.int v7), .val (.int v8), .val (.int v9), .val (.int vb), .val (.int v8), .val (.int v9), .val (.ref sa), .val (.ref sb), .unset, .unset, .unset] [(.int v3)])) tgt
              refine XS.iconst X69.here hx rfl (hb hby at_191) ?_
              show Steps p.tables e below (T69.setTop (mkF m 192 #[.val (.int p0), .val (.int p1), .val (.int p2), .val (.int v3), .val (.int v3), .val (.int b5), .val (.int b6), .val (.int v7), .val (.int v8), .val (.int v9), .val (.int vb), .val (.int v8), .val (.int v9), .val (.ref sa), .val (.ref sb), .unset, .unset, .unset] [(.int (3 : Int32)), (.int v3)])) tgt
              refine XS.icmpYes X69.here hx rfl (pc0 := 192) (pc' := 202) rfl (hb hby at_192) rfl (tlt (by rw [z]; decide)).1 (by decide) (by decide) ?_
              show Steps p.tables e below (T69.setTop (mkF m 202 #[.val (.int p0), .val (.int p1), .val (.int p2), .val (.int v3), .val (.int v3), .val (.int b5), .val (.int b6), .val (.int v7), .val (.int v8), .val (.int v9), .val (.int vb), .val (.int v8), .val (.int v9), .val (.ref sa), .val (.ref sb), .unset, .unset, .unset] [])) tgt
              refine XS.iconst X69.here hx rfl (hb hby at_202) ?_
              show Steps p.tables e below (T69.setTop (mkF m 203 #[.val (.int p0), .val (.int p1), .val (.int p2), .val (.int v3), .val (.int v3), .val (.int b5), .val (.int b6), .val (.int v7), .val (.int v8), .val (.int v9), .val (.int vb), .val (.int v8), .val (.int v9), .val (.ref sa), .val (.ref sb), .unset, .unset, .unset] [(.int (1 : Int32))])) tgt
              refine XS.goto X69.here hx rfl (pc0 := 203) (pc' := 207) rfl (hb hby at_203) (by decide) (by decide) ?_
              show Steps p.tables e below (T69.setTop (mkF m 207 #[.val (.int p0), .val (.int p1), .val (.int p2), .val (.int v3), .val (.int v3), .val (.int b5), .val (.int b6), .val (.int v7), .val (.int v8), .val (.int v9), .val (.int vb), .val (.int v8), .val (.int v9), .val (.ref sa), .val (.ref sb), .unset, .unset, .unset] [(.int (1 : Int32))])) tgt
              refine XS.istore X69.here hx rfl (hb hby at_207) rfl (l' := #[.val (.int p0), .val (.int p1), .val (.int p2), .val (.int v3), .val (.int v3), .val (.int b5), .val (.int b6), .val (.int v7), .val (.int v8), .val (.int v9), .val (.int vb), .val (.int v8), .val (.int v9), .val (.ref sa), .val (.ref sb), .val (.int (1 : Int32)), .unset, .unset]) rfl ?_
              exact kont)⟩
        · have ea : (own_cs v3 v7 v8 v9) = [v7] := by rw [own_cs, z]; rfl
          have eb : (own_cs v3 vb v8 v9) = [vb] := by rw [own_cs, z]; rfl
          by_cases w0 : v7 = vb
          · exact ⟨1, Or.inl ⟨rfl, by rw [ea, eb, w0]⟩, fun tgt kont => go71 tgt (by
                show Steps p.tables e below (T69.setTop (mkF m 163 #[.val (.int p0), .val (.int p1), .val (.int p2), .val (.int v3), .val (.int v3), .val (.int b5), .val (.int b6), .val (.int v7), .val (.int v8), .val (.int v9), .val (.int vb), .val (.int v8), .val (.int v9), .val (.ref sa), .val (.ref sb), .unset, .unset, .unset] [(.int v3), (.int v3)])) tgt
                refine XS.icmpNo X69.here hx rfl (hb hby at_163) rfl (teq u0).2 ?_
                show Steps p.tables e below (T69.setTop (mkF m 166 #[.val (.int p0), .val (.int p1), .val (.int p2), .val (.int v3), .val (.int v3), .val (.int b5), .val (.int b6), .val (.int v7), .val (.int v8), .val (.int v9), .val (.int vb), .val (.int v8), .val (.int v9), .val (.ref sa), .val (.ref sb), .unset, .unset, .unset] [])) tgt
                refine XS.iloadN X69.here hx rfl (hb hby at_166) rfl ?_
                show Steps p.tables e below (T69.setTop (mkF m 167 #[.val (.int p0), .val (.int p1), .val (.int p2), .val (.int v3), .val (.int v3), .val (.int b5), .val (.int b6), .val (.int v7), .val (.int v8), .val (.int v9), .val (.int vb), .val (.int v8), .val (.int v9), .val (.ref sa), .val (.ref sb), .unset, .unset, .unset] [(.int v3)])) tgt
                refine XS.iconst X69.here hx rfl (hb hby at_167) ?_
                show Steps p.tables e below (T69.setTop (mkF m 168 #[.val (.int p0), .val (.int p1), .val (.int p2), .val (.int v3), .val (.int v3), .val (.int b5), .val (.int b6), .val (.int v7), .val (.int v8), .val (.int v9), .val (.int vb), .val (.int v8), .val (.int v9), .val (.ref sa), .val (.ref sb), .unset, .unset, .unset] [(.int (1 : Int32)), (.int v3)])) tgt
                refine XS.icmpNo X69.here hx rfl (hb hby at_168) rfl (flt (by rw [z]; decide)).1 ?_
                show Steps p.tables e below (T69.setTop (mkF m 171 #[.val (.int p0), .val (.int p1), .val (.int p2), .val (.int v3), .val (.int v3), .val (.int b5), .val (.int b6), .val (.int v7), .val (.int v8), .val (.int v9), .val (.int vb), .val (.int v8), .val (.int v9), .val (.ref sa), .val (.ref sb), .unset, .unset, .unset] [])) tgt
                refine XS.iload X69.here hx rfl (hb hby at_171) rfl ?_
                show Steps p.tables e below (T69.setTop (mkF m 173 #[.val (.int p0), .val (.int p1), .val (.int p2), .val (.int v3), .val (.int v3), .val (.int b5), .val (.int b6), .val (.int v7), .val (.int v8), .val (.int v9), .val (.int vb), .val (.int v8), .val (.int v9), .val (.ref sa), .val (.ref sb), .unset, .unset, .unset] [(.int v7)])) tgt
                refine XS.iload X69.here hx rfl (hb hby at_173) rfl ?_
                show Steps p.tables e below (T69.setTop (mkF m 175 #[.val (.int p0), .val (.int p1), .val (.int p2), .val (.int v3), .val (.int v3), .val (.int b5), .val (.int b6), .val (.int v7), .val (.int v8), .val (.int v9), .val (.int vb), .val (.int v8), .val (.int v9), .val (.ref sa), .val (.ref sb), .unset, .unset, .unset] [(.int vb), (.int v7)])) tgt
                refine XS.icmpNo X69.here hx rfl (hb hby at_175) rfl (teq w0).2 ?_
                show Steps p.tables e below (T69.setTop (mkF m 178 #[.val (.int p0), .val (.int p1), .val (.int p2), .val (.int v3), .val (.int v3), .val (.int b5), .val (.int b6), .val (.int v7), .val (.int v8), .val (.int v9), .val (.int vb), .val (.int v8), .val (.int v9), .val (.ref sa), .val (.ref sb), .unset, .unset, .unset] [])) tgt
                refine XS.iloadN X69.here hx rfl (hb hby at_178) rfl ?_
                show Steps p.tables e below (T69.setTop (mkF m 179 #[.val (.int p0), .val (.int p1), .val (.int p2), .val (.int v3), .val (.int v3), .val (.int b5), .val (.int b6), .val (.int v7), .val (.int v8), .val (.int v9), .val (.int vb), .val (.int v8), .val (.int v9), .val (.ref sa), .val (.ref sb), .unset, .unset, .unset] [(.int v3)])) tgt
                refine XS.iconst X69.here hx rfl (hb hby at_179) ?_
                show Steps p.tables e below (T69.setTop (mkF m 180 #[.val (.int p0), .val (.int p1), .val (.int p2), .val (.int v3), .val (.int v3), .val (.int b5), .val (.int b6), .val (.int v7), .val (.int v8), .val (.int v9), .val (.int vb), .val (.int v8), .val (.int v9), .val (.ref sa), .val (.ref sb), .unset, .unset, .unset] [(.int (2 : Int32)), (.int v3)])) tgt
                refine XS.icmpYes X69.here hx rfl (pc0 := 180) (pc' := 190) rfl (hb hby at_180) rfl (tlt (by rw [z]; decide)).1 (by decide) (by decide) ?_
                show Steps p.tables e below (T69.setTop (mkF m 190 #[.val (.int p0), .val (.int p1), .val (.int p2), .val (.int v3), .val (.int v3), .val (.int b5), .val (.int b6), .val (.int v7), .val (.int v8), .val (.int v9), .val (.int vb), .val (.int v8), .val (.int v9), .val (.ref sa), .val (.ref sb), .unset, .unset, .unset] [])) tgt
                refine XS.iloadN X69.here hx rfl (hb hby at_190) rfl ?_
                show Steps p.tables e below (T69.setTop (mkF m 191 #[.val (.int p0), .val (.int p1), .val (.int p2), .val (.int v3), .val (.int v3), .val (.int b5), .val (.int b6), .val (.int v7), .val (.int v8), .val (.int v9), .val (.int vb), .val (.int v8), .val (.int v9), .val (.ref sa), .val (.ref sb), .unset, .unset, .unset] [(.int v3)])) tgt
                refine XS.iconst X69.here hx rfl (hb hby at_191) ?_
                show Steps p.tables e below (T69.setTop (mkF m 192 #[.val (.int p0), .val (.int p1), .val (.int p2), .val (.int v3), .val (.int v3), .val (.int b5), .val (.int b6), .val (.int v7), .val (.int v8), .val (.int v9), .val (.int vb), .val (.int v8), .val (.int v9), .val (.ref sa), .val (.ref sb), .unset, .unset, .unset] [(.int (3 : Int32)), (.int v3)])) tgt
                refine XS.icmpYes X69.here hx rfl (pc0 := 192) (pc' := 202) rfl (hb hby at_192) rfl (tlt (by rw [z]; decide)).1 (by decide) (by decide) ?_
                show Steps p.tables e below (T69.setTop (mkF m 202 #[.val (.int p0), .val (.int p1), .val (.int p2), .val (.int v3), .val (.int v3), .val (.int b5), .val (.int b6), .val (.int v7), .val (.int v8), .val (.int v9), .val (.int vb), .val (.int v8), .val (.int v9), .val (.ref sa), .val (.ref sb), .unset, .unset, .unset] [])) tgt
                refine XS.iconst X69.here hx rfl (hb hby at_202) ?_
                show Steps p.tables e below (T69.setTop (mkF m 203 #[.val (.int p0), .val (.int p1), .val (.int p2), .val (.int v3), .val (.int v3), .val (.int b5), .val (.int b6), .val (.int v7), .val (.int v8), .val (.int v9), .val (.int vb), .val (.int v8), .val (.int v9), .val (.ref sa), .val (.ref sb), .unset, .unset, .unset] [(.int (1 : Int32))])) tgt
                refine XS.goto X69.here hx rfl (pc0 := 203) (pc' := 207) rfl (hb hby at_203) (by decide) (by decide) ?_
                show Steps p.tables e below (T69.setTop (mkF m 207 #[.val (.int p0), .val (.int p1), .val (.int p2), .val (.int v3), .val (.int v3), .val (.int b5), .val (.int b6), .val (.int v7), .val (.int v8), .val (.int v9), .val (.int vb), .val (.int v8), .val (.int v9), .val (.ref sa), .val (.ref sb), .unset, .unset, .unset] [(.int (1 : Int32))])) tgt
                refine XS.istore X69.here hx rfl (hb hby at_207) rfl (l' := #[.val (.int p0), .val (.int p1), .val (.int p2), .val (.int v3), .val (.int v3), .val (.int b5), .val (.int b6), .val (.int v7), .val (.int v8), .val (.int v9), .val (.int vb), .val (.int v8), .val (.int v9), .val (.ref sa), .val (.ref sb), .val (.int (1 : Int32)), .unset, .unset]) rfl ?_
                exact kont)⟩
          · exact ⟨0, Or.inr ⟨rfl, fun q => w0 (by first | rfl | (rw [ea, eb] at q; simp only [List.cons.injEq, and_true] at q; first | exact q | exact q.1 | exact q.2 | exact q.2.1 | exact q.2.2))⟩, fun tgt kont => go71 tgt (by
              show Steps p.tables e below (T69.setTop (mkF m 163 #[.val (.int p0), .val (.int p1), .val (.int p2), .val (.int v3), .val (.int v3), .val (.int b5), .val (.int b6), .val (.int v7), .val (.int v8), .val (.int v9), .val (.int vb), .val (.int v8), .val (.int v9), .val (.ref sa), .val (.ref sb), .unset, .unset, .unset] [(.int v3), (.int v3)])) tgt
              refine XS.icmpNo X69.here hx rfl (hb hby at_163) rfl (teq u0).2 ?_
              show Steps p.tables e below (T69.setTop (mkF m 166 #[.val (.int p0), .val (.int p1), .val (.int p2), .val (.int v3), .val (.int v3), .val (.int b5), .val (.int b6), .val (.int v7), .val (.int v8), .val (.int v9), .val (.int vb), .val (.int v8), .val (.int v9), .val (.ref sa), .val (.ref sb), .unset, .unset, .unset] [])) tgt
              refine XS.iloadN X69.here hx rfl (hb hby at_166) rfl ?_
              show Steps p.tables e below (T69.setTop (mkF m 167 #[.val (.int p0), .val (.int p1), .val (.int p2), .val (.int v3), .val (.int v3), .val (.int b5), .val (.int b6), .val (.int v7), .val (.int v8), .val (.int v9), .val (.int vb), .val (.int v8), .val (.int v9), .val (.ref sa), .val (.ref sb), .unset, .unset, .unset] [(.int v3)])) tgt
              refine XS.iconst X69.here hx rfl (hb hby at_167) ?_
              show Steps p.tables e below (T69.setTop (mkF m 168 #[.val (.int p0), .val (.int p1), .val (.int p2), .val (.int v3), .val (.int v3), .val (.int b5), .val (.int b6), .val (.int v7), .val (.int v8), .val (.int v9), .val (.int vb), .val (.int v8), .val (.int v9), .val (.ref sa), .val (.ref sb), .unset, .unset, .unset] [(.int (1 : Int32)), (.int v3)])) tgt
              refine XS.icmpNo X69.here hx rfl (hb hby at_168) rfl (flt (by rw [z]; decide)).1 ?_
              show Steps p.tables e below (T69.setTop (mkF m 171 #[.val (.int p0), .val (.int p1), .val (.int p2), .val (.int v3), .val (.int v3), .val (.int b5), .val (.int b6), .val (.int v7), .val (.int v8), .val (.int v9), .val (.int vb), .val (.int v8), .val (.int v9), .val (.ref sa), .val (.ref sb), .unset, .unset, .unset] [])) tgt
              refine XS.iload X69.here hx rfl (hb hby at_171) rfl ?_
              show Steps p.tables e below (T69.setTop (mkF m 173 #[.val (.int p0), .val (.int p1), .val (.int p2), .val (.int v3), .val (.int v3), .val (.int b5), .val (.int b6), .val (.int v7), .val (.int v8), .val (.int v9), .val (.int vb), .val (.int v8), .val (.int v9), .val (.ref sa), .val (.ref sb), .unset, .unset, .unset] [(.int v7)])) tgt
              refine XS.iload X69.here hx rfl (hb hby at_173) rfl ?_
              show Steps p.tables e below (T69.setTop (mkF m 175 #[.val (.int p0), .val (.int p1), .val (.int p2), .val (.int v3), .val (.int v3), .val (.int b5), .val (.int b6), .val (.int v7), .val (.int v8), .val (.int v9), .val (.int vb), .val (.int v8), .val (.int v9), .val (.ref sa), .val (.ref sb), .unset, .unset, .unset] [(.int vb), (.int v7)])) tgt
              refine XS.icmpYes X69.here hx rfl (pc0 := 175) (pc' := 206) rfl (hb hby at_175) rfl (feq w0).2 (by decide) (by decide) ?_
              show Steps p.tables e below (T69.setTop (mkF m 206 #[.val (.int p0), .val (.int p1), .val (.int p2), .val (.int v3), .val (.int v3), .val (.int b5), .val (.int b6), .val (.int v7), .val (.int v8), .val (.int v9), .val (.int vb), .val (.int v8), .val (.int v9), .val (.ref sa), .val (.ref sb), .unset, .unset, .unset] [])) tgt
              refine XS.iconst X69.here hx rfl (hb hby at_206) ?_
              show Steps p.tables e below (T69.setTop (mkF m 207 #[.val (.int p0), .val (.int p1), .val (.int p2), .val (.int v3), .val (.int v3), .val (.int b5), .val (.int b6), .val (.int v7), .val (.int v8), .val (.int v9), .val (.int vb), .val (.int v8), .val (.int v9), .val (.ref sa), .val (.ref sb), .unset, .unset, .unset] [(.int (0 : Int32))])) tgt
              refine XS.istore X69.here hx rfl (hb hby at_207) rfl (l' := #[.val (.int p0), .val (.int p1), .val (.int p2), .val (.int v3), .val (.int v3), .val (.int b5), .val (.int b6), .val (.int v7), .val (.int v8), .val (.int v9), .val (.int vb), .val (.int v8), .val (.int v9), .val (.ref sa), .val (.ref sb), .val (.int (0 : Int32)), .unset, .unset]) rfl ?_
              exact kont)⟩
        · have ea : (own_cs v3 v7 v8 v9) = [v7, v8] := by rw [own_cs, z]; rfl
          have eb : (own_cs v3 vb v8 v9) = [vb, v8] := by rw [own_cs, z]; rfl
          by_cases w0 : v7 = vb
          · by_cases w1 : v8 = v8
            · exact ⟨1, Or.inl ⟨rfl, by rw [ea, eb, w0, w1]⟩, fun tgt kont => go71 tgt (by
                  show Steps p.tables e below (T69.setTop (mkF m 163 #[.val (.int p0), .val (.int p1), .val (.int p2), .val (.int v3), .val (.int v3), .val (.int b5), .val (.int b6), .val (.int v7), .val (.int v8), .val (.int v9), .val (.int vb), .val (.int v8), .val (.int v9), .val (.ref sa), .val (.ref sb), .unset, .unset, .unset] [(.int v3), (.int v3)])) tgt
                  refine XS.icmpNo X69.here hx rfl (hb hby at_163) rfl (teq u0).2 ?_
                  show Steps p.tables e below (T69.setTop (mkF m 166 #[.val (.int p0), .val (.int p1), .val (.int p2), .val (.int v3), .val (.int v3), .val (.int b5), .val (.int b6), .val (.int v7), .val (.int v8), .val (.int v9), .val (.int vb), .val (.int v8), .val (.int v9), .val (.ref sa), .val (.ref sb), .unset, .unset, .unset] [])) tgt
                  refine XS.iloadN X69.here hx rfl (hb hby at_166) rfl ?_
                  show Steps p.tables e below (T69.setTop (mkF m 167 #[.val (.int p0), .val (.int p1), .val (.int p2), .val (.int v3), .val (.int v3), .val (.int b5), .val (.int b6), .val (.int v7), .val (.int v8), .val (.int v9), .val (.int vb), .val (.int v8), .val (.int v9), .val (.ref sa), .val (.ref sb), .unset, .unset, .unset] [(.int v3)])) tgt
                  refine XS.iconst X69.here hx rfl (hb hby at_167) ?_
                  show Steps p.tables e below (T69.setTop (mkF m 168 #[.val (.int p0), .val (.int p1), .val (.int p2), .val (.int v3), .val (.int v3), .val (.int b5), .val (.int b6), .val (.int v7), .val (.int v8), .val (.int v9), .val (.int vb), .val (.int v8), .val (.int v9), .val (.ref sa), .val (.ref sb), .unset, .unset, .unset] [(.int (1 : Int32)), (.int v3)])) tgt
                  refine XS.icmpNo X69.here hx rfl (hb hby at_168) rfl (flt (by rw [z]; decide)).1 ?_
                  show Steps p.tables e below (T69.setTop (mkF m 171 #[.val (.int p0), .val (.int p1), .val (.int p2), .val (.int v3), .val (.int v3), .val (.int b5), .val (.int b6), .val (.int v7), .val (.int v8), .val (.int v9), .val (.int vb), .val (.int v8), .val (.int v9), .val (.ref sa), .val (.ref sb), .unset, .unset, .unset] [])) tgt
                  refine XS.iload X69.here hx rfl (hb hby at_171) rfl ?_
                  show Steps p.tables e below (T69.setTop (mkF m 173 #[.val (.int p0), .val (.int p1), .val (.int p2), .val (.int v3), .val (.int v3), .val (.int b5), .val (.int b6), .val (.int v7), .val (.int v8), .val (.int v9), .val (.int vb), .val (.int v8), .val (.int v9), .val (.ref sa), .val (.ref sb), .unset, .unset, .unset] [(.int v7)])) tgt
                  refine XS.iload X69.here hx rfl (hb hby at_173) rfl ?_
                  show Steps p.tables e below (T69.setTop (mkF m 175 #[.val (.int p0), .val (.int p1), .val (.int p2), .val (.int v3), .val (.int v3), .val (.int b5), .val (.int b6), .val (.int v7), .val (.int v8), .val (.int v9), .val (.int vb), .val (.int v8), .val (.int v9), .val (.ref sa), .val (.ref sb), .unset, .unset, .unset] [(.int vb), (.int v7)])) tgt
                  refine XS.icmpNo X69.here hx rfl (hb hby at_175) rfl (teq w0).2 ?_
                  show Steps p.tables e below (T69.setTop (mkF m 178 #[.val (.int p0), .val (.int p1), .val (.int p2), .val (.int v3), .val (.int v3), .val (.int b5), .val (.int b6), .val (.int v7), .val (.int v8), .val (.int v9), .val (.int vb), .val (.int v8), .val (.int v9), .val (.ref sa), .val (.ref sb), .unset, .unset, .unset] [])) tgt
                  refine XS.iloadN X69.here hx rfl (hb hby at_178) rfl ?_
                  show Steps p.tables e below (T69.setTop (mkF m 179 #[.val (.int p0), .val (.int p1), .val (.int p2), .val (.int v3), .val (.int v3), .val (.int b5), .val (.int b6), .val (.int v7), .val (.int v8), .val (.int v9), .val (.int vb), .val (.int v8), .val (.int v9), .val (.ref sa), .val (.ref sb), .unset, .unset, .unset] [(.int v3)])) tgt
                  refine XS.iconst X69.here hx rfl (hb hby at_179) ?_
                  show Steps p.tables e below (T69.setTop (mkF m 180 #[.val (.int p0), .val (.int p1), .val (.int p2), .val (.int v3), .val (.int v3), .val (.int b5), .val (.int b6), .val (.int v7), .val (.int v8), .val (.int v9), .val (.int vb), .val (.int v8), .val (.int v9), .val (.ref sa), .val (.ref sb), .unset, .unset, .unset] [(.int (2 : Int32)), (.int v3)])) tgt
                  refine XS.icmpNo X69.here hx rfl (hb hby at_180) rfl (flt (by rw [z]; decide)).1 ?_
                  show Steps p.tables e below (T69.setTop (mkF m 183 #[.val (.int p0), .val (.int p1), .val (.int p2), .val (.int v3), .val (.int v3), .val (.int b5), .val (.int b6), .val (.int v7), .val (.int v8), .val (.int v9), .val (.int vb), .val (.int v8), .val (.int v9), .val (.ref sa), .val (.ref sb), .unset, .unset, .unset] [])) tgt
                  refine XS.iload X69.here hx rfl (hb hby at_183) rfl ?_
                  show Steps p.tables e below (T69.setTop (mkF m 185 #[.val (.int p0), .val (.int p1), .val (.int p2), .val (.int v3), .val (.int v3), .val (.int b5), .val (.int b6), .val (.int v7), .val (.int v8), .val (.int v9), .val (.int vb), .val (.int v8), .val (.int v9), .val (.ref sa), .val (.ref sb), .unset, .unset, .unset] [(.int v8)])) tgt
                  refine XS.iload X69.here hx rfl (hb hby at_185) rfl ?_
                  show Steps p.tables e below (T69.setTop (mkF m 187 #[.val (.int p0), .val (.int p1), .val (.int p2), .val (.int v3), .val (.int v3), .val (.int b5), .val (.int b6), .val (.int v7), .val (.int v8), .val (.int v9), .val (.int vb), .val (.int v8), .val (.int v9), .val (.ref sa), .val (.ref sb), .unset, .unset, .unset] [(.int v8), (.int v8)])) tgt
                  refine XS.icmpNo X69.here hx rfl (hb hby at_187) rfl (teq w1).2 ?_
                  show Steps p.tables e below (T69.setTop (mkF m 190 #[.val (.int p0), .val (.int p1), .val (.int p2), .val (.int v3), .val (.int v3), .val (.int b5), .val (.int b6), .val (.int v7), .val (.int v8), .val (.int v9), .val (.int vb), .val (.int v8), .val (.int v9), .val (.ref sa), .val (.ref sb), .unset, .unset, .unset] [])) tgt
                  refine XS.iloadN X69.here hx rfl (hb hby at_190) rfl ?_
                  show Steps p.tables e below (T69.setTop (mkF m 191 #[.val (.int p0), .val (.int p1), .val (.int p2), .val (.int v3), .val (.int v3), .val (.int b5), .val (.int b6), .val (.int v7), .val (.int v8), .val (.int v9), .val (.int vb), .val (.int v8), .val (.int v9), .val (.ref sa), .val (.ref sb), .unset, .unset, .unset] [(.int v3)])) tgt
                  refine XS.iconst X69.here hx rfl (hb hby at_191) ?_
                  show Steps p.tables e below (T69.setTop (mkF m 192 #[.val (.int p0), .val (.int p1), .val (.int p2), .val (.int v3), .val (.int v3), .val (.int b5), .val (.int b6), .val (.int v7), .val (.int v8), .val (.int v9), .val (.int vb), .val (.int v8), .val (.int v9), .val (.ref sa), .val (.ref sb), .unset, .unset, .unset] [(.int (3 : Int32)), (.int v3)])) tgt
                  refine XS.icmpYes X69.here hx rfl (pc0 := 192) (pc' := 202) rfl (hb hby at_192) rfl (tlt (by rw [z]; decide)).1 (by decide) (by decide) ?_
                  show Steps p.tables e below (T69.setTop (mkF m 202 #[.val (.int p0), .val (.int p1), .val (.int p2), .val (.int v3), .val (.int v3), .val (.int b5), .val (.int b6), .val (.int v7), .val (.int v8), .val (.int v9), .val (.int vb), .val (.int v8), .val (.int v9), .val (.ref sa), .val (.ref sb), .unset, .unset, .unset] [])) tgt
                  refine XS.iconst X69.here hx rfl (hb hby at_202) ?_
                  show Steps p.tables e below (T69.setTop (mkF m 203 #[.val (.int p0), .val (.int p1), .val (.int p2), .val (.int v3), .val (.int v3), .val (.int b5), .val (.int b6), .val (.int v7), .val (.int v8), .val (.int v9), .val (.int vb), .val (.int v8), .val (.int v9), .val (.ref sa), .val (.ref sb), .unset, .unset, .unset] [(.int (1 : Int32))])) tgt
                  refine XS.goto X69.here hx rfl (pc0 := 203) (pc' := 207) rfl (hb hby at_203) (by decide) (by decide) ?_
                  show Steps p.tables e below (T69.setTop (mkF m 207 #[.val (.int p0), .val (.int p1), .val (.int p2), .val (.int v3), .val (.int v3), .val (.int b5), .val (.int b6), .val (.int v7), .val (.int v8), .val (.int v9), .val (.int vb), .val (.int v8), .val (.int v9), .val (.ref sa), .val (.ref sb), .unset, .unset, .unset] [(.int (1 : Int32))])) tgt
                  refine XS.istore X69.here hx rfl (hb hby at_207) rfl (l' := #[.val (.int p0), .val (.int p1), .val (.int p2), .val (.int v3), .val (.int v3), .val (.int b5), .val (.int b6), .val (.int v7), .val (.int v8), .val (.int v9), .val (.int vb), .val (.int v8), .val (.int v9), .val (.ref sa), .val (.ref sb), .val (.int (1 : Int32)), .unset, .unset]) rfl ?_
                  exact kont)⟩
            · exact ⟨0, Or.inr ⟨rfl, fun q => w1 (by first | rfl | (rw [ea, eb] at q; simp only [List.cons.injEq, and_true] at q; first | exact q | exact q.1 | exact q.2 | exact q.2.1 | exact q.2.2))⟩, fun tgt kont => go71 tgt (by
                show Steps p.tables e below (T69.setTop (mkF m 163 #[.val (.int p0), .val (.int p1), .val (.int p2), .val (.int v3), .val (.int v3), .val (.int b5), .val (.int b6), .val (.int v7), .val (.int v8), .val (.int v9), .val (.int vb), .val (.int v8), .val (.int v9), .val (.ref sa), .val (.ref sb), .unset, .unset, .unset] [(.int v3), (.int v3)])) tgt
                refine XS.icmpNo X69.here hx rfl (hb hby at_163) rfl (teq u0).2 ?_
                show Steps p.tables e below (T69.setTop (mkF m 166 #[.val (.int p0), .val (.int p1), .val (.int p2), .val (.int v3), .val (.int v3), .val (.int b5), .val (.int b6), .val (.int v7), .val (.int v8), .val (.int v9), .val (.int vb), .val (.int v8), .val (.int v9), .val (.ref sa), .val (.ref sb), .unset, .unset, .unset] [])) tgt
                refine XS.iloadN X69.here hx rfl (hb hby at_166) rfl ?_
                show Steps p.tables e below (T69.setTop (mkF m 167 #[.val (.int p0), .val (.int p1), .val (.int p2), .val (.int v3), .val (.int v3), .val (.int b5), .val (.int b6), .val (.int v7), .val (.int v8), .val (.int v9), .val (.int vb), .val (.int v8), .val (.int v9), .val (.ref sa), .val (.ref sb), .unset, .unset, .unset] [(.int v3)])) tgt
                refine XS.iconst X69.here hx rfl (hb hby at_167) ?_
                show Steps p.tables e below (T69.setTop (mkF m 168 #[.val (.int p0), .val (.int p1), .val (.int p2), .val (.int v3), .val (.int v3), .val (.int b5), .val (.int b6), .val (.int v7), .val (.int v8), .val (.int v9), .val (.int vb), .val (.int v8), .val (.int v9), .val (.ref sa), .val (.ref sb), .unset, .unset, .unset] [(.int (1 : Int32)), (.int v3)])) tgt
                refine XS.icmpNo X69.here hx rfl (hb hby at_168) rfl (flt (by rw [z]; decide)).1 ?_
                show Steps p.tables e below (T69.setTop (mkF m 171 #[.val (.int p0), .val (.int p1), .val (.int p2), .val (.int v3), .val (.int v3), .val (.int b5), .val (.int b6), .val (.int v7), .val (.int v8), .val (.int v9), .val (.int vb), .val (.int v8), .val (.int v9), .val (.ref sa), .val (.ref sb), .unset, .unset, .unset] [])) tgt
                refine XS.iload X69.here hx rfl (hb hby at_171) rfl ?_
                show Steps p.tables e below (T69.setTop (mkF m 173 #[.val (.int p0), .val (.int p1), .val (.int p2), .val (.int v3), .val (.int v3), .val (.int b5), .val (.int b6), .val (.int v7), .val (.int v8), .val (.int v9), .val (.int vb), .val (.int v8), .val (.int v9), .val (.ref sa), .val (.ref sb), .unset, .unset, .unset] [(.int v7)])) tgt
                refine XS.iload X69.here hx rfl (hb hby at_173) rfl ?_
                show Steps p.tables e below (T69.setTop (mkF m 175 #[.val (.int p0), .val (.int p1), .val (.int p2), .val (.int v3), .val (.int v3), .val (.int b5), .val (.int b6), .val (.int v7), .val (.int v8), .val (.int v9), .val (.int vb), .val (.int v8), .val (.int v9), .val (.ref sa), .val (.ref sb), .unset, .unset, .unset] [(.int vb), (.int v7)])) tgt
                refine XS.icmpNo X69.here hx rfl (hb hby at_175) rfl (teq w0).2 ?_
                show Steps p.tables e below (T69.setTop (mkF m 178 #[.val (.int p0), .val (.int p1), .val (.int p2), .val (.int v3), .val (.int v3), .val (.int b5), .val (.int b6), .val (.int v7), .val (.int v8), .val (.int v9), .val (.int vb), .val (.int v8), .val (.int v9), .val (.ref sa), .val (.ref sb), .unset, .unset, .unset] [])) tgt
                refine XS.iloadN X69.here hx rfl (hb hby at_178) rfl ?_
                show Steps p.tables e below (T69.setTop (mkF m 179 #[.val (.int p0), .val (.int p1), .val (.int p2), .val (.int v3), .val (.int v3), .val (.int b5), .val (.int b6), .val (.int v7), .val (.int v8), .val (.int v9), .val (.int vb), .val (.int v8), .val (.int v9), .val (.ref sa), .val (.ref sb), .unset, .unset, .unset] [(.int v3)])) tgt
                refine XS.iconst X69.here hx rfl (hb hby at_179) ?_
                show Steps p.tables e below (T69.setTop (mkF m 180 #[.val (.int p0), .val (.int p1), .val (.int p2), .val (.int v3), .val (.int v3), .val (.int b5), .val (.int b6), .val (.int v7), .val (.int v8), .val (.int v9), .val (.int vb), .val (.int v8), .val (.int v9), .val (.ref sa), .val (.ref sb), .unset, .unset, .unset] [(.int (2 : Int32)), (.int v3)])) tgt
                refine XS.icmpNo X69.here hx rfl (hb hby at_180) rfl (flt (by rw [z]; decide)).1 ?_
                show Steps p.tables e below (T69.setTop (mkF m 183 #[.val (.int p0), .val (.int p1), .val (.int p2), .val (.int v3), .val (.int v3), .val (.int b5), .val (.int b6), .val (.int v7), .val (.int v8), .val (.int v9), .val (.int vb), .val (.int v8), .val (.int v9), .val (.ref sa), .val (.ref sb), .unset, .unset, .unset] [])) tgt
                refine XS.iload X69.here hx rfl (hb hby at_183) rfl ?_
                show Steps p.tables e below (T69.setTop (mkF m 185 #[.val (.int p0), .val (.int p1), .val (.int p2), .val (.int v3), .val (.int v3), .val (.int b5), .val (.int b6), .val (.int v7), .val (.int v8), .val (.int v9), .val (.int vb), .val (.int v8), .val (.int v9), .val (.ref sa), .val (.ref sb), .unset, .unset, .unset] [(.int v8)])) tgt
                refine XS.iload X69.here hx rfl (hb hby at_185) rfl ?_
                show Steps p.tables e below (T69.setTop (mkF m 187 #[.val (.int p0), .val (.int p1), .val (.int p2), .val (.int v3), .val (.int v3), .val (.int b5), .val (.int b6), .val (.int v7), .val (.int v8), .val (.int v9), .val (.int vb), .val (.int v8), .val (.int v9), .val (.ref sa), .val (.ref sb), .unset, .unset, .unset] [(.int v8), (.int v8)])) tgt
                refine XS.icmpYes X69.here hx rfl (pc0 := 187) (pc' := 206) rfl (hb hby at_187) rfl (feq w1).2 (by decide) (by decide) ?_
                show Steps p.tables e below (T69.setTop (mkF m 206 #[.val (.int p0), .val (.int p1), .val (.int p2), .val (.int v3), .val (.int v3), .val (.int b5), .val (.int b6), .val (.int v7), .val (.int v8), .val (.int v9), .val (.int vb), .val (.int v8), .val (.int v9), .val (.ref sa), .val (.ref sb), .unset, .unset, .unset] [])) tgt
                refine XS.iconst X69.here hx rfl (hb hby at_206) ?_
                show Steps p.tables e below (T69.setTop (mkF m 207 #[.val (.int p0), .val (.int p1), .val (.int p2), .val (.int v3), .val (.int v3), .val (.int b5), .val (.int b6), .val (.int v7), .val (.int v8), .val (.int v9), .val (.int vb), .val (.int v8), .val (.int v9), .val (.ref sa), .val (.ref sb), .unset, .unset, .unset] [(.int (0 : Int32))])) tgt
                refine XS.istore X69.here hx rfl (hb hby at_207) rfl (l' := #[.val (.int p0), .val (.int p1), .val (.int p2), .val (.int v3), .val (.int v3), .val (.int b5), .val (.int b6), .val (.int v7), .val (.int v8), .val (.int v9), .val (.int vb), .val (.int v8), .val (.int v9), .val (.ref sa), .val (.ref sb), .val (.int (0 : Int32)), .unset, .unset]) rfl ?_
                exact kont)⟩
          · exact ⟨0, Or.inr ⟨rfl, fun q => w0 (by first | rfl | (rw [ea, eb] at q; simp only [List.cons.injEq, and_true] at q; first | exact q | exact q.1 | exact q.2 | exact q.2.1 | exact q.2.2))⟩, fun tgt kont => go71 tgt (by
              show Steps p.tables e below (T69.setTop (mkF m 163 #[.val (.int p0), .val (.int p1), .val (.int p2), .val (.int v3), .val (.int v3), .val (.int b5), .val (.int b6), .val (.int v7), .val (.int v8), .val (.int v9), .val (.int vb), .val (.int v8), .val (.int v9), .val (.ref sa), .val (.ref sb), .unset, .unset, .unset] [(.int v3), (.int v3)])) tgt
              refine XS.icmpNo X69.here hx rfl (hb hby at_163) rfl (teq u0).2 ?_
              show Steps p.tables e below (T69.setTop (mkF m 166 #[.val (.int p0), .val (.int p1), .val (.int p2), .val (.int v3), .val (.int v3), .val (.int b5), .val (.int b6), .val (.int v7), .val (.int v8), .val (.int v9), .val (.int vb), .val (.int v8), .val (.int v9), .val (.ref sa), .val (.ref sb), .unset, .unset, .unset] [])) tgt
              refine XS.iloadN X69.here hx rfl (hb hby at_166) rfl ?_
              show Steps p.tables e below (T69.setTop (mkF m 167 #[.val (.int p0), .val (.int p1), .val (.int p2), .val (.int v3), .val (.int v3), .val (.int b5), .val (.int b6), .val (.int v7), .val (.int v8), .val (.int v9), .val (.int vb), .val (.int v8), .val (.int v9), .val (.ref sa), .val (.ref sb), .unset, .unset, .unset] [(.int v3)])) tgt
              refine XS.iconst X69.here hx rfl (hb hby at_167) ?_
              show Steps p.tables e below (T69.setTop (mkF m 168 #[.val (.int p0), .val (.int p1), .val (.int p2), .val (.int v3), .val (.int v3), .val (.int b5), .val (.int b6), .val (.int v7), .val (.int v8), .val (.int v9), .val (.int vb), .val (.int v8), .val (.int v9), .val (.ref sa), .val (.ref sb), .unset, .unset, .unset] [(.int (1 : Int32)), (.int v3)])) tgt
              refine XS.icmpNo X69.here hx rfl (hb hby at_168) rfl (flt (by rw [z]; decide)).1 ?_
              show Steps p.tables e below (T69.setTop (mkF m 171 #[.val (.int p0), .val (.int p1), .val (.int p2), .val (.int v3), .val (.int v3), .val (.int b5), .val (.int b6), .val (.int v7), .val (.int v8), .val (.int v9), .val (.int vb), .val (.int v8), .val (.int v9), .val (.ref sa), .val (.ref sb), .unset, .unset, .unset] [])) tgt
              refine XS.iload X69.here hx rfl (hb hby at_171) rfl ?_
              show Steps p.tables e below (T69.setTop (mkF m 173 #[.val (.int p0), .val (.int p1), .val (.int p2), .val (.int v3), .val (.int v3), .val (.int b5), .val (.int b6), .val (.int v7), .val (.int v8), .val (.int v9), .val (.int vb), .val (.int v8), .val (.int v9), .val (.ref sa), .val (.ref sb), .unset, .unset, .unset] [(.int v7)])) tgt
              refine XS.iload X69.here hx rfl (hb hby at_173) rfl ?_
              show Steps p.tables e below (T69.setTop (mkF m 175 #[.val (.int p0), .val (.int p1), .val (.int p2), .val (.int v3), .val (.int v3), .val (.int b5), .val (.int b6), .val (.int v7), .val (.int v8), .val (.int v9), .val (.int vb), .val (.int v8), .val (.int v9), .val (.ref sa), .val (.ref sb), .unset, .unset, .unset] [(.int vb), (.int v7)])) tgt
              refine XS.icmpYes X69.here hx rfl (pc0 := 175) (pc' := 206) rfl (hb hby at_175) rfl (feq w0).2 (by decide) (by decide) ?_
              show Steps p.tables e below (T69.setTop (mkF m 206 #[.val (.int p0), .val (.int p1), .val (.int p2), .val (.int v3), .val (.int v3), .val (.int b5), .val (.int b6), .val (.int v7), .val (.int v8), .val (.int v9), .val (.int vb), .val (.int v8), .val (.int v9), .val (.ref sa), .val (.ref sb), .unset, .unset, .unset] [])) tgt
              refine XS.iconst X69.here hx rfl (hb hby at_206) ?_
              show Steps p.tables e below (T69.setTop (mkF m 207 #[.val (.int p0), .val (.int p1), .val (.int p2), .val (.int v3), .val (.int v3), .val (.int b5), .val (.int b6), .val (.int v7), .val (.int v8), .val (.int v9), .val (.int vb), .val (.int v8), .val (.int v9), .val (.ref sa), .val (.ref sb), .unset, .unset, .unset] [(.int (0 : Int32))])) tgt
              refine XS.istore X69.here hx rfl (hb hby at_207) rfl (l' := #[.val (.int p0), .val (.int p1), .val (.int p2), .val (.int v3), .val (.int v3), .val (.int b5), .val (.int b6), .val (.int v7), .val (.int v8), .val (.int v9), .val (.int vb), .val (.int v8), .val (.int v9), .val (.ref sa), .val (.ref sb), .val (.int (0 : Int32)), .unset, .unset]) rfl ?_
              exact kont)⟩
        · have ea : (own_cs v3 v7 v8 v9) = [v7, v8, v9] := by rw [own_cs, z]; rfl
          have eb : (own_cs v3 vb v8 v9) = [vb, v8, v9] := by rw [own_cs, z]; rfl
          by_cases w0 : v7 = vb
          · by_cases w1 : v8 = v8
            · by_cases w2 : v9 = v9
              · exact ⟨1, Or.inl ⟨rfl, by rw [ea, eb, w0, w1, w2]⟩, fun tgt kont => go71 tgt (by
                    show Steps p.tables e below (T69.setTop (mkF m 163 #[.val (.int p0), .val (.int p1), .val (.int p2), .val (.int v3), .val (.int v3), .val (.int b5), .val (.int b6), .val (.int v7), .val (.int v8), .val (.int v9), .val (.int vb), .val (.int v8), .val (.int v9), .val (.ref sa), .val (.ref sb), .unset, .unset, .unset] [(.int v3), (.int v3)])) tgt
                    refine XS.icmpNo X69.here hx rfl (hb hby at_163) rfl (teq u0).2 ?_
                    show Steps p.tables e below (T69.setTop (mkF m 166 #[.val (.int p0), .val (.int p1), .val (.int p2), .val (.int v3), .val (.int v3), .val (.int b5), .val (.int b6), .val (.int v7), .val (.int v8), .val (.int v9), .val (.int vb), .val (.int v8), .val (.int v9), .val (.ref sa), .val (.ref sb), .unset, .unset, .unset] [])) tgt
                    refine XS.iloadN X69.here hx rfl (hb hby at_166) rfl ?_
                    show Steps p.tables e below (T69.setTop (mkF m 167 #[.val (.int p0), .val (.int p1), .val (.int p2), .val (.int v3), .val (.int v3), .val (.int b5), .val (.int b6), .val (.int v7), .val (.int v8), .val (.int v9), .val (.int vb), .val (.int v8), .val (.int v9), .val (.ref sa), .val (.ref sb), .unset, .unset, .unset] [(.int v3)])) tgt
                    refine XS.iconst X69.here hx rfl (hb hby at_167) ?_
                    show Steps p.tables e below (T69.setTop (mkF m 168 #[.val (.int p0), .val (.int p1), .val (.int p2), .val (.int v3), .val (.int v3), .val (.int b5), .val (.int b6), .val (.int v7), .val (.int v8), .val (.int v9), .val (.int vb), .val (.int v8), .val (.int v9), .val (.ref sa), .val (.ref sb), .unset, .unset, .unset] [(.int (1 : Int32)), (.int v3)])) tgt
                    refine XS.icmpNo X69.here hx rfl (hb hby at_168) rfl (flt (by rw [z]; decide)).1 ?_
                    show Steps p.tables e below (T69.setTop (mkF m 171 #[.val (.int p0), .val (.int p1), .val (.int p2), .val (.int v3), .val (.int v3), .val (.int b5), .val (.int b6), .val (.int v7), .val (.int v8), .val (.int v9), .val (.int vb), .val (.int v8), .val (.int v9), .val (.ref sa), .val (.ref sb), .unset, .unset, .unset] [])) tgt
                    refine XS.iload X69.here hx rfl (hb hby at_171) rfl ?_
                    show Steps p.tables e below (T69.setTop (mkF m 173 #[.val (.int p0), .val (.int p1), .val (.int p2), .val (.int v3), .val (.int v3), .val (.int b5), .val (.int b6), .val (.int v7), .val (.int v8), .val (.int v9), .val (.int vb), .val (.int v8), .val (.int v9), .val (.ref sa), .val (.ref sb), .unset, .unset, .unset] [(.int v7)])) tgt
                    refine XS.iload X69.here hx rfl (hb hby at_173) rfl ?_
                    show Steps p.tables e below (T69.setTop (mkF m 175 #[.val (.int p0), .val (.int p1), .val (.int p2), .val (.int v3), .val (.int v3), .val (.int b5), .val (.int b6), .val (.int v7), .val (.int v8), .val (.int v9), .val (.int vb), .val (.int v8), .val (.int v9), .val (.ref sa), .val (.ref sb), .unset, .unset, .unset] [(.int vb), (.int v7)])) tgt
                    refine XS.icmpNo X69.here hx rfl (hb hby at_175) rfl (teq w0).2 ?_
                    show Steps p.tables e below (T69.setTop (mkF m 178 #[.val (.int p0), .val (.int p1), .val (.int p2), .val (.int v3), .val (.int v3), .val (.int b5), .val (.int b6), .val (.int v7), .val (.int v8), .val (.int v9), .val (.int vb), .val (.int v8), .val (.int v9), .val (.ref sa), .val (.ref sb), .unset, .unset, .unset] [])) tgt
                    refine XS.iloadN X69.here hx rfl (hb hby at_178) rfl ?_
                    show Steps p.tables e below (T69.setTop (mkF m 179 #[.val (.int p0), .val (.int p1), .val (.int p2), .val (.int v3), .val (.int v3), .val (.int b5), .val (.int b6), .val (.int v7), .val (.int v8), .val (.int v9), .val (.int vb), .val (.int v8), .val (.int v9), .val (.ref sa), .val (.ref sb), .unset, .unset, .unset] [(.int v3)])) tgt
                    refine XS.iconst X69.here hx rfl (hb hby at_179) ?_
                    show Steps p.tables e below (T69.setTop (mkF m 180 #[.val (.int p0), .val (.int p1), .val (.int p2), .val (.int v3), .val (.int v3), .val (.int b5), .val (.int b6), .val (.int v7), .val (.int v8), .val (.int v9), .val (.int vb), .val (.int v8), .val (.int v9), .val (.ref sa), .val (.ref sb), .unset, .unset, .unset] [(.int (2 : Int32)), (.int v3)])) tgt
                    refine XS.icmpNo X69.here hx rfl (hb hby at_180) rfl (flt (by rw [z]; decide)).1 ?_
                    show Steps p.tables e below (T69.setTop (mkF m 183 #[.val (.int p0), .val (.int p1), .val (.int p2), .val (.int v3), .val (.int v3), .val (.int b5), .val (.int b6), .val (.int v7), .val (.int v8), .val (.int v9), .val (.int vb), .val (.int v8), .val (.int v9), .val (.ref sa), .val (.ref sb), .unset, .unset, .unset] [])) tgt
                    refine XS.iload X69.here hx rfl (hb hby at_183) rfl ?_
                    show Steps p.tables e below (T69.setTop (mkF m 185 #[.val (.int p0), .val (.int p1), .val (.int p2), .val (.int v3), .val (.int v3), .val (.int b5), .val (.int b6), .val (.int v7), .val (.int v8), .val (.int v9), .val (.int vb), .val (.int v8), .val (.int v9), .val (.ref sa), .val (.ref sb), .unset, .unset, .unset] [(.int v8)])) tgt
                    refine XS.iload X69.here hx rfl (hb hby at_185) rfl ?_
                    show Steps p.tables e below (T69.setTop (mkF m 187 #[.val (.int p0), .val (.int p1), .val (.int p2), .val (.int v3), .val (.int v3), .val (.int b5), .val (.int b6), .val (.int v7), .val (.int v8), .val (.int v9), .val (.int vb), .val (.int v8), .val (.int v9), .val (.ref sa), .val (.ref sb), .unset, .unset, .unset] [(.int v8), (.int v8)])) tgt
                    refine XS.icmpNo X69.here hx rfl (hb hby at_187) rfl (teq w1).2 ?_
                    show Steps p.tables e below (T69.setTop (mkF m 190 #[.val (.int p0), .val (.int p1), .val (.int p2), .val (.int v3), .val (.int v3), .val (.int b5), .val (.int b6), .val (.int v7), .val (.int v8), .val (.int v9), .val (.int vb), .val (.int v8), .val (.int v9), .val (.ref sa), .val (.ref sb), .unset, .unset, .unset] [])) tgt
                    refine XS.iloadN X69.here hx rfl (hb hby at_190) rfl ?_
                    show Steps p.tables e below (T69.setTop (mkF m 191 #[.val (.int p0), .val (.int p1), .val (.int p2), .val (.int v3), .val (.int v3), .val (.int b5), .val (.int b6), .val (.int v7), .val (.int v8), .val (.int v9), .val (.int vb), .val (.int v8), .val (.int v9), .val (.ref sa), .val (.ref sb), .unset, .unset, .unset] [(.int v3)])) tgt
                    refine XS.iconst X69.here hx rfl (hb hby at_191) ?_
                    show Steps p.tables e below (T69.setTop (mkF m 192 #[.val (.int p0), .val (.int p1), .val (.int p2), .val (.int v3), .val (.int v3), .val (.int b5), .val (.int b6), .val (.int v7), .val (.int v8), .val (.int v9), .val (.int vb), .val (.int v8), .val (.int v9), .val (.ref sa), .val (.ref sb), .unset, .unset, .unset] [(.int (3 : Int32)), (.int v3)])) tgt
                    refine XS.icmpNo X69.here hx rfl (hb hby at_192) rfl (flt (by rw [z]; decide)).1 ?_
                    show Steps p.tables e below (T69.setTop (mkF m 195 #[.val (.int p0), .val (.int p1), .val (.int p2), .val (.int v3), .val (.int v3), .val (.int b5), .val (.int b6), .val (.int v7), .val (.int v8), .val (.int v9), .val (.int vb), .val (.int v8), .val (.int v9), .val (.ref sa), .val (.ref sb), .unset, .unset, .unset] [])) tgt
                    refine XS.iload X69.here hx rfl (hb hby at_195) rfl ?_
                    show Steps p.tables e below (T69.setTop (mkF m 197 #[.val (.int p0), .val (.int p1), .val (.int p2), .val (.int v3), .val (.int v3), .val (.int b5), .val (.int b6), .val (.int v7), .val (.int v8), .val (.int v9), .val (.int vb), .val (.int v8), .val (.int v9), .val (.ref sa), .val (.ref sb), .unset, .unset, .unset] [(.int v9)])) tgt
                    refine XS.iload X69.here hx rfl (hb hby at_197) rfl ?_
                    show Steps p.tables e below (T69.setTop (mkF m 199 #[.val (.int p0), .val (.int p1), .val (.int p2), .val (.int v3), .val (.int v3), .val (.int b5), .val (.int b6), .val (.int v7), .val (.int v8), .val (.int v9), .val (.int vb), .val (.int v8), .val (.int v9), .val (.ref sa), .val (.ref sb), .unset, .unset, .unset] [(.int v9), (.int v9)])) tgt
                    refine XS.icmpNo X69.here hx rfl (hb hby at_199) rfl (teq w2).2 ?_
                    show Steps p.tables e below (T69.setTop (mkF m 202 #[.val (.int p0), .val (.int p1), .val (.int p2), .val (.int v3), .val (.int v3), .val (.int b5), .val (.int b6), .val (.int v7), .val (.int v8), .val (.int v9), .val (.int vb), .val (.int v8), .val (.int v9), .val (.ref sa), .val (.ref sb), .unset, .unset, .unset] [])) tgt
                    refine XS.iconst X69.here hx rfl (hb hby at_202) ?_
                    show Steps p.tables e below (T69.setTop (mkF m 203 #[.val (.int p0), .val (.int p1), .val (.int p2), .val (.int v3), .val (.int v3), .val (.int b5), .val (.int b6), .val (.int v7), .val (.int v8), .val (.int v9), .val (.int vb), .val (.int v8), .val (.int v9), .val (.ref sa), .val (.ref sb), .unset, .unset, .unset] [(.int (1 : Int32))])) tgt
                    refine XS.goto X69.here hx rfl (pc0 := 203) (pc' := 207) rfl (hb hby at_203) (by decide) (by decide) ?_
                    show Steps p.tables e below (T69.setTop (mkF m 207 #[.val (.int p0), .val (.int p1), .val (.int p2), .val (.int v3), .val (.int v3), .val (.int b5), .val (.int b6), .val (.int v7), .val (.int v8), .val (.int v9), .val (.int vb), .val (.int v8), .val (.int v9), .val (.ref sa), .val (.ref sb), .unset, .unset, .unset] [(.int (1 : Int32))])) tgt
                    refine XS.istore X69.here hx rfl (hb hby at_207) rfl (l' := #[.val (.int p0), .val (.int p1), .val (.int p2), .val (.int v3), .val (.int v3), .val (.int b5), .val (.int b6), .val (.int v7), .val (.int v8), .val (.int v9), .val (.int vb), .val (.int v8), .val (.int v9), .val (.ref sa), .val (.ref sb), .val (.int (1 : Int32)), .unset, .unset]) rfl ?_
                    exact kont)⟩
              · exact ⟨0, Or.inr ⟨rfl, fun q => w2 (by first | rfl | (rw [ea, eb] at q; simp only [List.cons.injEq, and_true] at q; first | exact q | exact q.1 | exact q.2 | exact q.2.1 | exact q.2.2))⟩, fun tgt kont => go71 tgt (by
                  show Steps p.tables e below (T69.setTop (mkF m 163 #[.val (.int p0), .val (.int p1), .val (.int p2), .val (.int v3), .val (.int v3), .val (.int b5), .val (.int b6), .val (.int v7), .val (.int v8), .val (.int v9), .val (.int vb), .val (.int v8), .val (.int v9), .val (.ref sa), .val (.ref sb), .unset, .unset, .unset] [(.int v3), (.int v3)])) tgt
                  refine XS.icmpNo X69.here hx rfl (hb hby at_163) rfl (teq u0).2 ?_
                  show Steps p.tables e below (T69.setTop (mkF m 166 #[.val (.int p0), .val (.int p1), .val (.int p2), .val (.int v3), .val (.int v3), .val (.int b5), .val (.int b6), .val (.int v7), .val (.int v8), .val (.int v9), .val (.int vb), .val (.int v8), .val (.int v9), .val (.ref sa), .val (.ref sb), .unset, .unset, .unset] [])) tgt
                  refine XS.iloadN X69.here hx rfl (hb hby at_166) rfl ?_
                  show Steps p.tables e below (T69.setTop (mkF m 167 #[.val (.int p0), .val (.int p1), .val (.int p2), .val (.int v3), .val (.int v3), .val (.int b5), .val (.int b6), .val (.int v7), .val (.int v8), .val (.int v9), .val (.int vb), .val (.int v8), .val (.int v9), .val (.ref sa), .val (.ref sb), .unset, .unset, .unset] [(.int v3)])) tgt
                  refine XS.iconst X69.here hx rfl (hb hby at_167) ?_
                  show Steps p.tables e below (T69.setTop (mkF m 168 #[.val (.int p0), .val (.int p1), .val (.int p2), .val (.int v3), .val (.int v3), .val (.int b5), .val (.int b6), .val (.int v7), .val (.int v8), .val (.int v9), .val (.int vb), .val (.int v8), .val (.int v9), .val (.ref sa), .val (.ref sb), .unset, .unset, .unset] [(.int (1 : Int32)), (.int v3)])) tgt
                  refine XS.icmpNo X69.here hx rfl (hb hby at_168) rfl (flt (by rw [z]; decide)).1 ?_
                  show Steps p.tables e below (T69.setTop (mkF m 171 #[.val (.int p0), .val (.int p1), .val (.int p2), .val (.int v3), .val (.int v3), .val (.int b5), .val (.int b6), .val (.int v7), .val (.int v8), .val (.int v9), .val (.int vb), .val (.int v8), .val (.int v9), .val (.ref sa), .val (.ref sb), .unset, .unset, .unset] [])) tgt
                  refine XS.iload X69.here hx rfl (hb hby at_171) rfl ?_
                  show Steps p.tables e below (T69.setTop (mkF m 173 #[.val (.int p0), .val (.int p1), .val (.int p2), .val (.int v3), .val (.int v3), .val (.int b5), .val (.int b6), .val (.int v7), .val (.int v8), .val (.int v9), .val (.int vb), .val (.int v8), .val (.int v9), .val (.ref sa), .val (.ref sb), .unset, .unset, .unset] [(.int v7)])) tgt
                  refine XS.iload X69.here hx rfl (hb hby at_173) rfl ?_
                  show Steps p.tables e below (T69.setTop (mkF m 175 #[.val (.int p0), .val (.int p1), .val (.int p2), .val (.int v3), .val (.int v3), .val (.int b5), .val (.int b6), .val (.int v7), .val (.int v8), .val (.int v9), .val (.int vb), .val (.int v8), .val (.int v9), .val (.ref sa), .val (.ref sb), .unset, .unset, .unset] [(.int vb), (.int v7)])) tgt
                  refine XS.icmpNo X69.here hx rfl (hb hby at_175) rfl (teq w0).2 ?_
                  show Steps p.tables e below (T69.setTop (mkF m 178 #[.val (.int p0), .val (.int p1), .val (.int p2), .val (.int v3), .val (.int v3), .val (.int b5), .val (.int b6), .val (.int v7), .val (.int v8), .val (.int v9), .val (.int vb), .val (.int v8), .val (.int v9), .val (.ref sa), .val (.ref sb), .unset, .unset, .unset] [])) tgt
                  refine XS.iloadN X69.here hx rfl (hb hby at_178) rfl ?_
                  show Steps p.tables e below (T69.setTop (mkF m 179 #[.val (.int p0), .val (.int p1), .val (.int p2), .val (.int v3), .val (.int v3), .val (.int b5), .val (.int b6), .val (.int v7), .val (.int v8), .val (.int v9), .val (.int vb), .val (.int v8), .val (.int v9), .val (.ref sa), .val (.ref sb), .unset, .unset, .unset] [(.int v3)])) tgt
                  refine XS.iconst X69.here hx rfl (hb hby at_179) ?_
                  show Steps p.tables e below (T69.setTop (mkF m 180 #[.val (.int p0), .val (.int p1), .val (.int p2), .val (.int v3), .val (.int v3), .val (.int b5), .val (.int b6), .val (.int v7), .val (.int v8), .val (.int v9), .val (.int vb), .val (.int v8), .val (.int v9), .val (.ref sa), .val (.ref sb), .unset, .unset, .unset] [(.int (2 : Int32)), (.int v3)])) tgt
                  refine XS.icmpNo X69.here hx rfl (hb hby at_180) rfl (flt (by rw [z]; decide)).1 ?_
                  show Steps p.tables e below (T69.setTop (mkF m 183 #[.val (.int p0), .val (.int p1), .val (.int p2), .val (.int v3), .val (.int v3), .val (.int b5), .val (.int b6), .val (.int v7), .val (.int v8), .val (.int v9), .val (.int vb), .val (.int v8), .val (.int v9), .val (.ref sa), .val (.ref sb), .unset, .unset, .unset] [])) tgt
                  refine XS.iload X69.here hx rfl (hb hby at_183) rfl ?_
                  show Steps p.tables e below (T69.setTop (mkF m 185 #[.val (.int p0), .val (.int p1), .val (.int p2), .val (.int v3), .val (.int v3), .val (.int b5), .val (.int b6), .val (.int v7), .val (.int v8), .val (.int v9), .val (.int vb), .val (.int v8), .val (.int v9), .val (.ref sa), .val (.ref sb), .unset, .unset, .unset] [(.int v8)])) tgt
                  refine XS.iload X69.here hx rfl (hb hby at_185) rfl ?_
                  show Steps p.tables e below (T69.setTop (mkF m 187 #[.val (.int p0), .val (.int p1), .val (.int p2), .val (.int v3), .val (.int v3), .val (.int b5), .val (.int b6), .val (.int v7), .val (.int v8), .val (.int v9), .val (.int vb), .val (.int v8), .val (.int v9), .val (.ref sa), .val (.ref sb), .unset, .unset, .unset] [(.int v8), (.int v8)])) tgt
                  refine XS.icmpNo X69.here hx rfl (hb hby at_187) rfl (teq w1).2 ?_
                  show Steps p.tables e below (T69.setTop (mkF m 190 #[.val (.int p0), .val (.int p1), .val (.int p2), .val (.int v3), .val (.int v3), .val (.int b5), .val (.int b6), .val (.int v7), .val (.int v8), .val (.int v9), .val (.int vb), .val (.int v8), .val (.int v9), .val (.ref sa), .val (.ref sb), .unset, .unset, .unset] [])) tgt
                  refine XS.iloadN X69.here hx rfl (hb hby at_190) rfl ?_
                  show Steps p.tables e below (T69.setTop (mkF m 191 #[.val (.int p0), .val (.int p1), .val (.int p2), .val (.int v3), .val (.int v3), .val (.int b5), .val (.int b6), .val (.int v7), .val (.int v8), .val (.int v9), .val (.int vb), .val (.int v8), .val (.int v9), .val (.ref sa), .val (.ref sb), .unset, .unset, .unset] [(.int v3)])) tgt
                  refine XS.iconst X69.here hx rfl (hb hby at_191) ?_
                  show Steps p.tables e below (T69.setTop (mkF m 192 #[.val (.int p0), .val (.int p1), .val (.int p2), .val (.int v3), .val (.int v3), .val (.int b5), .val (.int b6), .val (.int v7), .val (.int v8), .val (.int v9), .val (.int vb), .val (.int v8), .val (.int v9), .val (.ref sa), .val (.ref sb), .unset, .unset, .unset] [(.int (3 : Int32)), (.int v3)])) tgt
                  refine XS.icmpNo X69.here hx rfl (hb hby at_192) rfl (flt (by rw [z]; decide)).1 ?_
                  show Steps p.tables e below (T69.setTop (mkF m 195 #[.val (.int p0), .val (.int p1), .val (.int p2), .val (.int v3), .val (.int v3), .val (.int b5), .val (.int b6), .val (.int v7), .val (.int v8), .val (.int v9), .val (.int vb), .val (.int v8), .val (.int v9), .val (.ref sa), .val (.ref sb), .unset, .unset, .unset] [])) tgt
                  refine XS.iload X69.here hx rfl (hb hby at_195) rfl ?_
                  show Steps p.tables e below (T69.setTop (mkF m 197 #[.val (.int p0), .val (.int p1), .val (.int p2), .val (.int v3), .val (.int v3), .val (.int b5), .val (.int b6), .val (.int v7), .val (.int v8), .val (.int v9), .val (.int vb), .val (.int v8), .val (.int v9), .val (.ref sa), .val (.ref sb), .unset, .unset, .unset] [(.int v9)])) tgt
                  refine XS.iload X69.here hx rfl (hb hby at_197) rfl ?_
                  show Steps p.tables e below (T69.setTop (mkF m 199 #[.val (.int p0), .val (.int p1), .val (.int p2), .val (.int v3), .val (.int v3), .val (.int b5), .val (.int b6), .val (.int v7), .val (.int v8), .val (.int v9), .val (.int vb), .val (.int v8), .val (.int v9), .val (.ref sa), .val (.ref sb), .unset, .unset, .unset] [(.int v9), (.int v9)])) tgt
                  refine XS.icmpYes X69.here hx rfl (pc0 := 199) (pc' := 206) rfl (hb hby at_199) rfl (feq w2).2 (by decide) (by decide) ?_
                  show Steps p.tables e below (T69.setTop (mkF m 206 #[.val (.int p0), .val (.int p1), .val (.int p2), .val (.int v3), .val (.int v3), .val (.int b5), .val (.int b6), .val (.int v7), .val (.int v8), .val (.int v9), .val (.int vb), .val (.int v8), .val (.int v9), .val (.ref sa), .val (.ref sb), .unset, .unset, .unset] [])) tgt
                  refine XS.iconst X69.here hx rfl (hb hby at_206) ?_
                  show Steps p.tables e below (T69.setTop (mkF m 207 #[.val (.int p0), .val (.int p1), .val (.int p2), .val (.int v3), .val (.int v3), .val (.int b5), .val (.int b6), .val (.int v7), .val (.int v8), .val (.int v9), .val (.int vb), .val (.int v8), .val (.int v9), .val (.ref sa), .val (.ref sb), .unset, .unset, .unset] [(.int (0 : Int32))])) tgt
                  refine XS.istore X69.here hx rfl (hb hby at_207) rfl (l' := #[.val (.int p0), .val (.int p1), .val (.int p2), .val (.int v3), .val (.int v3), .val (.int b5), .val (.int b6), .val (.int v7), .val (.int v8), .val (.int v9), .val (.int vb), .val (.int v8), .val (.int v9), .val (.ref sa), .val (.ref sb), .val (.int (0 : Int32)), .unset, .unset]) rfl ?_
                  exact kont)⟩
            · exact ⟨0, Or.inr ⟨rfl, fun q => w1 (by first | rfl | (rw [ea, eb] at q; simp only [List.cons.injEq, and_true] at q; first | exact q | exact q.1 | exact q.2 | exact q.2.1 | exact q.2.2))⟩, fun tgt kont => go71 tgt (by
                show Steps p.tables e below (T69.setTop (mkF m 163 #[.val (.int p0), .val (.int p1), .val (.int p2), .val (.int v3), .val (.int v3), .val (.int b5), .val (.int b6), .val (.int v7), .val (.int v8), .val (.int v9), .val (.int vb), .val (.int v8), .val (.int v9), .val (.ref sa), .val (.ref sb), .unset, .unset, .unset] [(.int v3), (.int v3)])) tgt
                refine XS.icmpNo X69.here hx rfl (hb hby at_163) rfl (teq u0).2 ?_
                show Steps p.tables e below (T69.setTop (mkF m 166 #[.val (.int p0), .val (.int p1), .val (.int p2), .val (.int v3), .val (.int v3), .val (.int b5), .val (.int b6), .val (.int v7), .val (.int v8), .val (.int v9), .val (.int vb), .val (.int v8), .val (.int v9), .val (.ref sa), .val (.ref sb), .unset, .unset, .unset] [])) tgt
                refine XS.iloadN X69.here hx rfl (hb hby at_166) rfl ?_
                show Steps p.tables e below (T69.setTop (mkF m 167 #[.val (.int p0), .val (.int p1), .val (.int p2), .val (.int v3), .val (.int v3), .val (.int b5), .val (.int b6), .val (.int v7), .val (.int v8), .val (.int v9), .val (.int vb), .val (.int v8), .val (.int v9), .val (.ref sa), .val (.ref sb), .unset, .unset, .unset] [(.int v3)])) tgt
                refine XS.iconst X69.here hx rfl (hb hby at_167) ?_
                show Steps p.tables e below (T69.setTop (mkF m 168 #[.val (.int p0), .val (.int p1), .val (.int p2), .val (.int v3), .val (.int v3), .val (.int b5), .val (.int b6), .val (.int v7), .val (.int v8), .val (.int v9), .val (.int vb), .val (.int v8), .val (.int v9), .val (.ref sa), .val (.ref sb), .unset, .unset, .unset] [(.int (1 : Int32)), (.int v3)])) tgt
                refine XS.icmpNo X69.here hx rfl (hb hby at_168) rfl (flt (by rw [z]; decide)).1 ?_
                show Steps p.tables e below (T69.setTop (mkF m 171 #[.val (.int p0), .val (.int p1), .val (.int p2), .val (.int v3), .val (.int v3), .val (.int b5), .val (.int b6), .val (.int v7), .val (.int v8), .val (.int v9), .val (.int vb), .val (.int v8), .val (.int v9), .val (.ref sa), .val (.ref sb), .unset, .unset, .unset] [])) tgt
                refine XS.iload X69.here hx rfl (hb hby at_171) rfl ?_
                show Steps p.tables e below (T69.setTop (mkF m 173 #[.val (.int p0), .val (.int p1), .val (.int p2), .val (.int v3), .val (.int v3), .val (.int b5), .val (.int b6), .val (.int v7), .val (.int v8), .val (.int v9), .val (.int vb), .val (.int v8), .val (.int v9), .val (.ref sa), .val (.ref sb), .unset, .unset, .unset] [(.int v7)])) tgt
                refine XS.iload X69.here hx rfl (hb hby at_173) rfl ?_
                show Steps p.tables e below (T69.setTop (mkF m 175 #[.val (.int p0), .val (.int p1), .val (.int p2), .val (.int v3), .val (.int v3), .val (.int b5), .val (.int b6), .val (.int v7), .val (.int v8), .val (.int v9), .val (.int vb), .val (.int v8), .val (.int v9), .val (.ref sa), .val (.ref sb), .unset, .unset, .unset] [(.int vb), (.int v7)])) tgt
                refine XS.icmpNo X69.here hx rfl (hb hby at_175) rfl (teq w0).2 ?_
                show Steps p.tables e below (T69.setTop (mkF m 178 #[.val (.int p0), .val (.int p1), .val (.int p2), .val (.int v3), .val (.int v3), .val (.int b5), .val (.int b6), .val (.int v7), .val (.int v8), .val (.int v9), .val (.int vb), .val (.int v8), .val (.int v9), .val (.ref sa), .val (.ref sb), .unset, .unset, .unset] [])) tgt
                refine XS.iloadN X69.here hx rfl (hb hby at_178) rfl ?_
                show Steps p.tables e below (T69.setTop (mkF m 179 #[.val (.int p0), .val (.int p1), .val (.int p2), .val (.int v3), .val (.int v3), .val (.int b5), .val (.int b6), .val (.int v7), .val (.int v8), .val (.int v9), .val (.int vb), .val (.int v8), .val (.int v9), .val (.ref sa), .val (.ref sb), .unset, .unset, .unset] [(.int v3)])) tgt
                refine XS.iconst X69.here hx rfl (hb hby at_179) ?_
                show Steps p.tables e below (T69.setTop (mkF m 180 #[.val (.int p0), .val (.int p1), .val (.int p2), .val (.int v3), .val (.int v3), .val (.int b5), .val (.int b6), .val (.int v7), .val (.int v8), .val (.int v9), .val (.int vb), .val (.int v8), .val (.int v9), .val (.ref sa), .val (.ref sb), .unset, .unset, .unset] [(.int (2 : Int32)), (.int v3)])) tgt
                refine XS.icmpNo X69.here hx rfl (hb hby at_180) rfl (flt (by rw [z]; decide)).1 ?_
                show Steps p.tables e below (T69.setTop (mkF m 183 #[.val (.int p0), .val (.int p1), .val (.int p2), .val (.int v3), .val (.int v3), .val (.int b5), .val (.int b6), .val (.int v7), .val (.int v8), .val (.int v9), .val (.int vb), .val (.int v8), .val (.int v9), .val (.ref sa), .val (.ref sb), .unset, .unset, .unset] [])) tgt
                refine XS.iload X69.here hx rfl (hb hby at_183) rfl ?_
                show Steps p.tables e below (T69.setTop (mkF m 185 #[.val (.int p0), .val (.int p1), .val (.int p2), .val (.int v3), .val (.int v3), .val (.int b5), .val (.int b6), .val (.int v7), .val (.int v8), .val (.int v9), .val (.int vb), .val (.int v8), .val (.int v9), .val (.ref sa), .val (.ref sb), .unset, .unset, .unset] [(.int v8)])) tgt
                refine XS.iload X69.here hx rfl (hb hby at_185) rfl ?_
                show Steps p.tables e below (T69.setTop (mkF m 187 #[.val (.int p0), .val (.int p1), .val (.int p2), .val (.int v3), .val (.int v3), .val (.int b5), .val (.int b6), .val (.int v7), .val (.int v8), .val (.int v9), .val (.int vb), .val (.int v8), .val (.int v9), .val (.ref sa), .val (.ref sb), .unset, .unset, .unset] [(.int v8), (.int v8)])) tgt
                refine XS.icmpYes X69.here hx rfl (pc0 := 187) (pc' := 206) rfl (hb hby at_187) rfl (feq w1).2 (by decide) (by decide) ?_
                show Steps p.tables e below (T69.setTop (mkF m 206 #[.val (.int p0), .val (.int p1), .val (.int p2), .val (.int v3), .val (.int v3), .val (.int b5), .val (.int b6), .val (.int v7), .val (.int v8), .val (.int v9), .val (.int vb), .val (.int v8), .val (.int v9), .val (.ref sa), .val (.ref sb), .unset, .unset, .unset] [])) tgt
                refine XS.iconst X69.here hx rfl (hb hby at_206) ?_
                show Steps p.tables e below (T69.setTop (mkF m 207 #[.val (.int p0), .val (.int p1), .val (.int p2), .val (.int v3), .val (.int v3), .val (.int b5), .val (.int b6), .val (.int v7), .val (.int v8), .val (.int v9), .val (.int vb), .val (.int v8), .val (.int v9), .val (.ref sa), .val (.ref sb), .unset, .unset, .unset] [(.int (0 : Int32))])) tgt
                refine XS.istore X69.here hx rfl (hb hby at_207) rfl (l' := #[.val (.int p0), .val (.int p1), .val (.int p2), .val (.int v3), .val (.int v3), .val (.int b5), .val (.int b6), .val (.int v7), .val (.int v8), .val (.int v9), .val (.int vb), .val (.int v8), .val (.int v9), .val (.ref sa), .val (.ref sb), .val (.int (0 : Int32)), .unset, .unset]) rfl ?_
                exact kont)⟩
          · exact ⟨0, Or.inr ⟨rfl, fun q => w0 (by first | rfl | (rw [ea, eb] at q; simp only [List.cons.injEq, and_true] at q; first | exact q | exact q.1 | exact q.2 | exact q.2.1 | exact q.2.2))⟩, fun tgt kont => go71 tgt (by
              show Steps p.tables e below (T69.setTop (mkF m 163 #[.val (.int p0), .val (.int p1), .val (.int p2), .val (.int v3), .val (.int v3), .val (.int b5), .val (.int b6), .val (.int v7), .val (.int v8), .val (.int v9), .val (.int vb), .val (.int v8), .val (.int v9), .val (.ref sa), .val (.ref sb), .unset, .unset, .unset] [(.int v3), (.int v3)])) tgt
              refine XS.icmpNo X69.here hx rfl (hb hby at_163) rfl (teq u0).2 ?_
              show Steps p.tables e below (T69.setTop (mkF m 166 #[.val (.int p0), .val (.int p1), .val (.int p2), .val (.int v3), .val (.int v3), .val (.int b5), .val (.int b6), .val (.int v7), .val (.int v8), .val (.int v9), .val (.int vb), .val (.int v8), .val (.int v9), .val (.ref sa), .val (.ref sb), .unset, .unset, .unset] [])) tgt
              refine XS.iloadN X69.here hx rfl (hb hby at_166) rfl ?_
              show Steps p.tables e below (T69.setTop (mkF m 167 #[.val (.int p0), .val (.int p1), .val (.int p2), .val (.int v3), .val (.int v3), .val (.int b5), .val (.int b6), .val (.int v7), .val (.int v8), .val (.int v9), .val (.int vb), .val (.int v8), .val (.int v9), .val (.ref sa), .val (.ref sb), .unset, .unset, .unset] [(.int v3)])) tgt
              refine XS.iconst X69.here hx rfl (hb hby at_167) ?_
              show Steps p.tables e below (T69.setTop (mkF m 168 #[.val (.int p0), .val (.int p1), .val (.int p2), .val (.int v3), .val (.int v3), .val (.int b5), .val (.int b6), .val (.int v7), .val (.int v8), .val (.int v9), .val (.int vb), .val (.int v8), .val (.int v9), .val (.ref sa), .val (.ref sb), .unset, .unset, .unset] [(.int (1 : Int32)), (.int v3)])) tgt
              refine XS.icmpNo X69.here hx rfl (hb hby at_168) rfl (flt (by rw [z]; decide)).1 ?_
              show Steps p.tables e below (T69.setTop (mkF m 171 #[.val (.int p0), .val (.int p1), .val (.int p2), .val (.int v3), .val (.int v3), .val (.int b5), .val (.int b6), .val (.int v7), .val (.int v8), .val (.int v9), .val (.int vb), .val (.int v8), .val (.int v9), .val (.ref sa), .val (.ref sb), .unset, .unset, .unset] [])) tgt
              refine XS.iload X69.here hx rfl (hb hby at_171) rfl ?_
              show Steps p.tables e below (T69.setTop (mkF m 173 #[.val (.int p0), .val (.int p1), .val (.int p2), .val (.int v3), .val (.int v3), .val (.int b5), .val (.int b6), .val (.int v7), .val (.int v8), .val (.int v9), .val (.int vb), .val (.int v8), .val (.int v9), .val (.ref sa), .val (.ref sb), .unset, .unset, .unset] [(.int v7)])) tgt
              refine XS.iload X69.here hx rfl (hb hby at_173) rfl ?_
              show Steps p.tables e below (T69.setTop (mkF m 175 #[.val (.int p0), .val (.int p1), .val (.int p2), .val (.int v3), .val (.int v3), .val (.int b5), .val (.int b6), .val (.int v7), .val (.int v8), .val (.int v9), .val (.int vb), .val (.int v8), .val (.int v9), .val (.ref sa), .val (.ref sb), .unset, .unset, .unset] [(.int vb), (.int v7)])) tgt
              refine XS.icmpYes X69.here hx rfl (pc0 := 175) (pc' := 206) rfl (hb hby at_175) rfl (feq w0).2 (by decide) (by decide) ?_
              show Steps p.tables e below (T69.setTop (mkF m 206 #[.val (.int p0), .val (.int p1), .val (.int p2), .val (.int v3), .val (.int v3), .val (.int b5), .val (.int b6), .val (.int v7), .val (.int v8), .val (.int v9), .val (.int vb), .val (.int v8), .val (.int v9), .val (.ref sa), .val (.ref sb), .unset, .unset, .unset] [])) tgt
              refine XS.iconst X69.here hx rfl (hb hby at_206) ?_
              show Steps p.tables e below (T69.setTop (mkF m 207 #[.val (.int p0), .val (.int p1), .val (.int p2), .val (.int v3), .val (.int v3), .val (.int b5), .val (.int b6), .val (.int v7), .val (.int v8), .val (.int v9), .val (.int vb), .val (.int v8), .val (.int v9), .val (.ref sa), .val (.ref sb), .unset, .unset, .unset] [(.int (0 : Int32))])) tgt
              refine XS.istore X69.here hx rfl (hb hby at_207) rfl (l' := #[.val (.int p0), .val (.int p1), .val (.int p2), .val (.int v3), .val (.int v3), .val (.int b5), .val (.int b6), .val (.int v7), .val (.int v8), .val (.int v9), .val (.int vb), .val (.int v8), .val (.int v9), .val (.ref sa), .val (.ref sb), .val (.int (0 : Int32)), .unset, .unset]) rfl ?_
              exact kont)⟩
      · exact absurd rfl u0
    obtain ⟨T73, h73, X73, e73, E73, A73, D73, -, st73⟩ := newO X69 hx hZ69 hown69 (hw _ (List.mem_of_getElem? (i := 37) rfl)) (hw _ (List.mem_of_getElem? (i := 38) rfl)) (hw _ (List.mem_of_getElem? (i := 39) rfl)) rfl (g := (mkF m 209 #[.val (.int p0), .val (.int p1), .val (.int p2), .val (.int v3), .val (.int v3), .val (.int b5), .val (.int b6), .val (.int v7), .val (.int v8), .val (.int v9), .val (.int vb), .val (.int v8), .val (.int v9), .val (.ref sa), .val (.ref sb), .val (.int b15), .unset, .unset] [])) rfl (hb hby at_209) (by decide) (by decide)
    obtain ⟨en, g73⟩ : ∃ z, z = T69.heap.size := ⟨_, rfl⟩
    rw [← g73] at A73 D73 st73
    have ne_sa_en : sa ≠ en := Nat.ne_of_lt (Nat.lt_of_lt_of_le (Nat.lt_of_lt_of_le Esa.lt Ksb.1) (Nat.le_of_eq g73.symm))
    have ne_tsa_en : tsa ≠ en := Nat.ne_of_lt (Nat.lt_of_lt_of_le (Nat.lt_of_lt_of_le Asa.lt Ksb.1) (Nat.le_of_eq g73.symm))
    have ne_sb_en : sb ≠ en := Nat.ne_of_lt (Nat.lt_of_lt_of_le Esb.lt (Nat.le_of_eq g73.symm))
    have ne_tsb_en : tsb ≠ en := Nat.ne_of_lt (Nat.lt_of_lt_of_le Asb.lt (Nat.le_of_eq g73.symm))
    have ge_en : n0 ≤ en := Nat.le_trans z70 (Nat.le_of_eq g73.symm)
    have z74 : n0 ≤ h73.size := Nat.le_trans z70 E73.1
    have Fname_en : Fld Z h73 en "com/example/caskwright/caskwright/model/Entry" "name" "Ljava/lang/String;" .null := D73 (Or.inr (hw _ (List.mem_of_getElem? (i := 59) rfl))) (ty := (.object "java/lang/String")) (by decide)
    have FstoredName_en : Fld Z h73 en "com/example/caskwright/caskwright/model/Entry" "storedName" "[B" .null := D73 (Or.inr (hw _ (List.mem_of_getElem? (i := 61) rfl))) (ty := (.array .byte)) (by decide)
    have Fmethod_en : Fld Z h73 en "com/example/caskwright/caskwright/model/Entry" "method" "I" (.int (0 : Int32)) := D73 (Or.inr (hw _ (List.mem_of_getElem? (i := 63) rfl))) (ty := .int) (by decide)
    have Fcrc_en : Fld Z h73 en "com/example/caskwright/caskwright/model/Entry" "crc" "J" (.long (0 : Int64)) := D73 (Or.inr (hw _ (List.mem_of_getElem? (i := 65) rfl))) (ty := .long) (by decide)
    have FcompressedSize_en : Fld Z h73 en "com/example/caskwright/caskwright/model/Entry" "compressedSize" "J" (.long (0 : Int64)) := D73 (Or.inr (hw _ (List.mem_of_getElem? (i := 67) rfl))) (ty := .long) (by decide)
    have Fsize_en : Fld Z h73 en "com/example/caskwright/caskwright/model/Entry" "size" "J" (.long (0 : Int64)) := D73 (Or.inr (hw _ (List.mem_of_getElem? (i := 69) rfl))) (ty := .long) (by decide)
    have FlocalHeaderPosition_en : Fld Z h73 en "com/example/caskwright/caskwright/model/Entry" "localHeaderPosition" "J" (.long (0 : Int64)) := D73 (Or.inr (hw _ (List.mem_of_getElem? (i := 71) rfl))) (ty := .long) (by decide)
    have FexternalAttributes_en : Fld Z h73 en "com/example/caskwright/caskwright/model/Entry" "externalAttributes" "J" (.long (0 : Int64)) := D73 (Or.inr (hw _ (List.mem_of_getElem? (i := 73) rfl))) (ty := .long) (by decide)
    have go73 : ∀ tgt, Steps p.tables e below (T73.setTop (mkF m 212 #[.val (.int p0), .val (.int p1), .val (.int p2), .val (.int v3), .val (.int v3), .val (.int b5), .val (.int b6), .val (.int v7), .val (.int v8), .val (.int v9), .val (.int vb), .val (.int v8), .val (.int v9), .val (.ref sa), .val (.ref sb), .val (.int b15), .unset, .unset] [(.ref en)])) tgt → Steps p.tables e below E0 tgt := fun tgt kont => go72 tgt (st73 tgt kont)
    have go75 : ∀ tgt, Steps p.tables e below (T73.setTop (mkF m 216 #[.val (.int p0), .val (.int p1), .val (.int p2), .val (.int v3), .val (.int v3), .val (.int b5), .val (.int b6), .val (.int v7), .val (.int v8), .val (.int v9), .val (.int vb), .val (.int v8), .val (.int v9), .val (.ref sa), .val (.ref sb), .val (.int b15), .unset, .unset] [(.int (0 : Int32)), (.ref sb), (.ref en), (.ref en)])) tgt → Steps p.tables e below E0 tgt := fun tgt kont => go73 tgt (by
      show Steps p.tables e below (T73.setTop (mkF m 212 #[.val (.int p0), .val (.int p1), .val (.int p2), .val (.int v3), .val (.int v3), .val (.int b5), .val (.int b6), .val (.int v7), .val (.int v8), .val (.int v9), .val (.int vb), .val (.int v8), .val (.int v9), .val (.ref sa), .val (.ref sb), .val (.int b15), .unset, .unset] [(.ref en)])) tgt
      refine XS.dup X73.here hx rfl (hb hby at_212) rfl rfl ?_
      show Steps p.tables e below (T73.setTop (mkF m 213 #[.val (.int p0), .val (.int p1), .val (.int p2), .val (.int v3), .val (.int v3), .val (.int b5), .val (.int b6), .val (.int v7), .val (.int v8), .val (.int v9), .val (.int vb), .val (.int v8), .val (.int v9), .val (.ref sa), .val (.ref sb), .val (.int b15), .unset, .unset] [(.ref en), (.ref en)])) tgt
      refine XS.aload X73.here hx rfl (hb hby at_213) rfl rfl ?_
      show Steps p.tables e below (T73.setTop (mkF m 215 #[.val (.int p0), .val (.int p1), .val (.int p2), .val (.int v3), .val (.int v3), .val (.int b5), .val (.int b6), .val (.int v7), .val (.int v8), .val (.int v9), .val (.int vb), .val (.int v8), .val (.int v9), .val (.ref sa), .val (.ref sb), .val (.int b15), .unset, .unset] [(.ref sb), (.ref en), (.ref en)])) tgt
      refine XS.iconst X73.here hx rfl (hb hby at_215) ?_
      exact kont)
    obtain ⟨T76, h76, k76, X76, e76, E76, A76, B76, st76⟩ := newPE X73 hx hZ69 (hw _ (List.mem_of_getElem? (i := 23) rfl)) e73 (g := (mkF m 216 #[.val (.int p0), .val (.int p1), .val (.int p2), .val (.int v3), .val (.int v3), .val (.int b5), .val (.int b6), .val (.int v7), .val (.int v8), .val (.int v9), .val (.int vb), .val (.int v8), .val (.int v9), .val (.ref sa), .val (.ref sb), .val (.int b15), .unset, .unset] [(.int (0 : Int32)), (.ref sb), (.ref en), (.ref en)])) rfl (hb hby at_216) rfl (by decide) (cap := 0) (by decide) (by decide) (by decide) (by decide) (ad := "[B") (by decide)
    obtain ⟨ba, g76⟩ : ∃ z, z = h73.size := ⟨_, rfl⟩
    rw [← g76] at A76 B76 st76
    have ne_sa_ba : sa ≠ ba := Nat.ne_of_lt (Nat.lt_of_lt_of_le (Nat.lt_of_lt_of_le Esa.lt (Nat.le_trans Ksb.1 E73.1)) (Nat.le_of_eq g76.symm))
    have ne_tsa_ba : tsa ≠ ba := Nat.ne_of_lt (Nat.lt_of_lt_of_le (Nat.lt_of_lt_of_le Asa.lt (Nat.le_trans Ksb.1 E73.1)) (Nat.le_of_eq g76.symm))
    have ne_sb_ba : sb ≠ ba := Nat.ne_of_lt (Nat.lt_of_lt_of_le (Nat.lt_of_lt_of_le Esb.lt E73.1) (Nat.le_of_eq g76.symm))
    have ne_tsb_ba : tsb ≠ ba := Nat.ne_of_lt (Nat.lt_of_lt_of_le (Nat.lt_of_lt_of_le Asb.lt E73.1) (Nat.le_of_eq g76.symm))
    have ne_en_ba : en ≠ ba := Nat.ne_of_lt (Nat.lt_of_lt_of_le A73.lt (Nat.le_of_eq g76.symm))
    have ge_ba : n0 ≤ ba := Nat.le_trans z74 (Nat.le_of_eq g76.symm)
    have z77 : n0 ≤ h76.size := Nat.le_trans z74 E76.1
    have V76 : Arv Z h76 ba k76 .byte (0 : Int32) [] (.int (0 : Int32)) := Arv.new A76 (by decide)
    have go76 : ∀ tgt, Steps p.tables e below (T76.setTop (mkF m 218 #[.val (.int p0), .val (.int p1), .val (.int p2), .val (.int v3), .val (.int v3), .val (.int b5), .val (.int b6), .val (.int v7), .val (.int v8), .val (.int v9), .val (.int vb), .val (.int v8), .val (.int v9), .val (.ref sa), .val (.ref sb), .val (.int b15), .unset, .unset] [(.ref ba), (.ref sb), (.ref en), (.ref en)])) tgt → Steps p.tables e below E0 tgt := fun tgt kont => go75 tgt (st76 tgt kont)
    have f78 : Exa Z h76 en "com/example/caskwright/caskwright/model/Entry" := (A73.ext E76)
    have f79 : Fld Z h76 en "com/example/caskwright/caskwright/model/Entry" "name" "Ljava/lang/String;" .null := (Fname_en.ext E76)
    have f80 : Fld Z h76 en "com/example/caskwright/caskwright/model/Entry" "storedName" "[B" .null := (FstoredName_en.ext E76)
    have f81 : Fld Z h76 en "com/example/caskwright/caskwright/model/Entry" "method" "I" (.int (0 : Int32)) := (Fmethod_en.ext E76)
    have f82 : Fld Z h76 en "com/example/caskwright/caskwright/model/Entry" "crc" "J" (.long (0 : Int64)) := (Fcrc_en.ext E76)
    have f83 : Fld Z h76 en "com/example/caskwright/caskwright/model/Entry" "compressedSize" "J" (.long (0 : Int64)) := (FcompressedSize_en.ext E76)
    have f84 : Fld Z h76 en "com/example/caskwright/caskwright/model/Entry" "size" "J" (.long (0 : Int64)) := (Fsize_en.ext E76)
    have f85 : Fld Z h76 en "com/example/caskwright/caskwright/model/Entry" "localHeaderPosition" "J" (.long (0 : Int64)) := (FlocalHeaderPosition_en.ext E76)
    have f86 : Fld Z h76 en "com/example/caskwright/caskwright/model/Entry" "externalAttributes" "J" (.long (0 : Int64)) := (FexternalAttributes_en.ext E76)
    have go87 : ∀ tgt, Steps p.tables e below (T76.setTop (mkF m 224 #[.val (.int p0), .val (.int p1), .val (.int p2), .val (.int v3), .val (.int v3), .val (.int b5), .val (.int b6), .val (.int v7), .val (.int v8), .val (.int v9), .val (.int vb), .val (.int v8), .val (.int v9), .val (.ref sa), .val (.ref sb), .val (.int b15), .unset, .unset] [(.long (0 : Int64)), (.long (0 : Int64)), (.long (0 : Int64)), (.long (0 : Int64)), (.long (0 : Int64)), (.int (0 : Int32)), (.ref ba), (.ref sb), (.ref en), (.ref en)])) tgt → Steps p.tables e below E0 tgt := fun tgt kont => go76 tgt (by
      show Steps p.tables e below (T76.setTop (mkF m 218 #[.val (.int p0), .val (.int p1), .val (.int p2), .val (.int v3), .val (.int v3), .val (.int b5), .val (.int b6), .val (.int v7), .val (.int v8), .val (.int v9), .val (.int vb), .val (.int v8), .val (.int v9), .val (.ref sa), .val (.ref sb), .val (.int b15), .unset, .unset] [(.ref ba), (.ref sb), (.ref en), (.ref en)])) tgt
      refine XS.iconst X76.here hx rfl (hb hby at_218) ?_
      show Steps p.tables e below (T76.setTop (mkF m 219 #[.val (.int p0), .val (.int p1), .val (.int p2), .val (.int v3), .val (.int v3), .val (.int b5), .val (.int b6), .val (.int v7), .val (.int v8), .val (.int v9), .val (.int vb), .val (.int v8), .val (.int v9), .val (.ref sa), .val (.ref sb), .val (.int b15), .unset, .unset] [(.int (0 : Int32)), (.ref ba), (.ref sb), (.ref en), (.ref en)])) tgt
      refine XS.lconst X76.here hx rfl (hb hby at_219) ?_
      show Steps p.tables e below (T76.setTop (mkF m 220 #[.val (.int p0), .val (.int p1), .val (.int p2), .val (.int v3), .val (.int v3), .val (.int b5), .val (.int b6), .val (.int v7), .val (.int v8), .val (.int v9), .val (.int vb), .val (.int v8), .val (.int v9), .val (.ref sa), .val (.ref sb), .val (.int b15), .unset, .unset] [(.long (0 : Int64)), (.int (0 : Int32)), (.ref ba), (.ref sb), (.ref en), (.ref en)])) tgt
      refine XS.lconst X76.here hx rfl (hb hby at_220) ?_
      show Steps p.tables e below (T76.setTop (mkF m 221 #[.val (.int p0), .val (.int p1), .val (.int p2), .val (.int v3), .val (.int v3), .val (.int b5), .val (.int b6), .val (.int v7), .val (.int v8), .val (.int v9), .val (.int vb), .val (.int v8), .val (.int v9), .val (.ref sa), .val (.ref sb), .val (.int b15), .unset, .unset] [(.long (0 : Int64)), (.long (0 : Int64)), (.int (0 : Int32)), (.ref ba), (.ref sb), (.ref en), (.ref en)])) tgt
      refine XS.lconst X76.here hx rfl (hb hby at_221) ?_
      show Steps p.tables e below (T76.setTop (mkF m 222 #[.val (.int p0), .val (.int p1), .val (.int p2), .val (.int v3), .val (.int v3), .val (.int b5), .val (.int b6), .val (.int v7), .val (.int v8), .val (.int v9), .val (.int vb), .val (.int v8), .val (.int v9), .val (.ref sa), .val (.ref sb), .val (.int b15), .unset, .unset] [(.long (0 : Int64)), (.long (0 : Int64)), (.long (0 : Int64)), (.int (0 : Int32)), (.ref ba), (.ref sb), (.ref en), (.ref en)])) tgt
      refine XS.lconst X76.here hx rfl (hb hby at_222) ?_
      show Steps p.tables e below (T76.setTop (mkF m 223 #[.val (.int p0), .val (.int p1), .val (.int p2), .val (.int v3), .val (.int v3), .val (.int b5), .val (.int b6), .val (.int v7), .val (.int v8), .val (.int v9), .val (.int vb), .val (.int v8), .val (.int v9), .val (.ref sa), .val (.ref sb), .val (.int b15), .unset, .unset] [(.long (0 : Int64)), (.long (0 : Int64)), (.long (0 : Int64)), (.long (0 : Int64)), (.int (0 : Int32)), (.ref ba), (.ref sb), (.ref en), (.ref en)])) tgt
      refine XS.lconst X76.here hx rfl (hb hby at_223) ?_
      exact kont)
    obtain ⟨_, _, ⟨T88, L88, k88, n88⟩, -, X88, ⟨Lc88, hQ88, l88, y88, z88⟩, st88⟩ := X76.specialBack hx (y := (⟨"com/example/caskwright/caskwright/model/Entry", "<init>", "(Ljava/lang/String;[BIJJJJJ)V"⟩ : MethodName)) rfl hown69 (mvT hZ69 (hw _ (List.mem_of_getElem? (i := 40) rfl))) (mvT hZ69 (hw _ (List.mem_of_getElem? (i := 41) rfl))) (mvT hZ69 (hw _ (List.mem_of_getElem? (i := 42) rfl))) (by decide) (backOf (W := 1) (rmEI l Z a0 hw [] en sb ba k76 0 0 0 0 0 0 h76 n0 z77 f78 ge_en B76 V76 f79 f80 f81 f82 f83 f84 f85 f86) hZ69 (hw _ (List.mem_of_getElem? (i := 42) rfl)) (hw _ (List.mem_of_getElem? (i := 39) rfl)) (by decide) (by decide)) (g := (mkF m 224 #[.val (.int p0), .val (.int p1), .val (.int p2), .val (.int v3), .val (.int v3), .val (.int b5), .val (.int b6), .val (.int v7), .val (.int v8), .val (.int v9), .val (.int vb), .val (.int v8), .val (.int v9), .val (.ref sa), .val (.ref sb), .val (.int b15), .unset, .unset] [(.long (0 : Int64)), (.long (0 : Int64)), (.long (0 : Int64)), (.long (0 : Int64)), (.long (0 : Int64)), (.int (0 : Int32)), (.ref ba), (.ref sb), (.ref en), (.ref en)])) rfl (by rw [hml]; rfl) (Steps.refl _) (a := en) (argsL := [(.ref sb), (.ref ba), (.int (0 : Int32)), (.long (0 : Int64)), (.long (0 : Int64)), (.long (0 : Int64)), (.long (0 : Int64)), (.long (0 : Int64))]) (rest := [(.ref en)]) (lenOf pd_11 rfl) rfl (by show 2 * 0 + _ ≤ _; exact Nat.le_of_eq rfl) (hb hby at_224) (fun _ _ => ⟨rfl, e76, (by decide : 10 + 1 ≤ _), (by decide : 28 + 0 ≤ _)⟩)
    dsimp only [Pt.U, Pt.locs, Pt.cells, Pt.slots] at X88 l88 y88 z88 st88 hQ88
    subst l88 y88 z88
    obtain ⟨rfl, N88q, Ke, Ee, Fe⟩ := hQ88
    have N88 := Fr.app N69 N88q
    have z89 : n0 ≤ T88.heap.size := Nat.le_trans z77 Ke.1
    have go88 : ∀ tgt, Steps p.tables e below (T88.setTop (mkF m 227 #[.val (.int p0), .val (.int p1), .val (.int p2), .val (.int v3), .val (.int v3), .val (.int b5), .val (.int b6), .val (.int v7), .val (.int v8), .val (.int v9), .val (.int vb), .val (.int v8), .val (.int v9), .val (.ref sa), .val (.ref sb), .val (.int b15), .unset, .unset] [(.ref en)])) tgt → Steps p.tables e below E0 tgt := fun tgt kont => go87 tgt (st88.trans kont)
    have go90 : ∀ tgt, Steps p.tables e below (T88.setTop (mkF m 229 #[.val (.int p0), .val (.int p1), .val (.int p2), .val (.int v3), .val (.int v3), .val (.int b5), .val (.int b6), .val (.int v7), .val (.int v8), .val (.int v9), .val (.int vb), .val (.int v8), .val (.int v9), .val (.ref sa), .val (.ref sb), .val (.int b15), .val (.ref en), .unset] [])) tgt → Steps p.tables e below E0 tgt := fun tgt kont => go88 tgt (by
      show Steps p.tables e below (T88.setTop (mkF m 227 #[.val (.int p0), .val (.int p1), .val (.int p2), .val (.int v3), .val (.int v3), .val (.int b5), .val (.int b6), .val (.int v7), .val (.int v8), .val (.int v9), .val (.int vb), .val (.int v8), .val (.int v9), .val (.ref sa), .val (.ref sb), .val (.int b15), .unset, .unset] [(.ref en)])) tgt
      refine XS.astore X88.here hx rfl (hb hby at_227) rfl rfl (l' := #[.val (.int p0), .val (.int p1), .val (.int p2), .val (.int v3), .val (.int v3), .val (.int b5), .val (.int b6), .val (.int v7), .val (.int v8), .val (.int v9), .val (.int vb), .val (.int v8), .val (.int v9), .val (.ref sa), .val (.ref sb), .val (.int b15), .val (.ref en), .unset]) rfl ?_
      exact kont)
    obtain ⟨T91, h91, X91, e91, E91, A91, D91, -, st91⟩ := newO X88 hx hZ69 hown69 (hw _ (List.mem_of_getElem? (i := 74) rfl)) (hw _ (List.mem_of_getElem? (i := 75) rfl)) (hw _ (List.mem_of_getElem? (i := 76) rfl)) rfl (g := (mkF m 229 #[.val (.int p0), .val (.int p1), .val (.int p2), .val (.int v3), .val (.int v3), .val (.int b5), .val (.int b6), .val (.int v7), .val (.int v8), .val (.int v9), .val (.int vb), .val (.int v8), .val (.int v9), .val (.ref sa), .val (.ref sb), .val (.int b15), .val (.ref en), .unset] [])) rfl (hb hby at_229) (by decide) (by decide)
    obtain ⟨ve, g91⟩ : ∃ z, z = T88.heap.size := ⟨_, rfl⟩
    rw [← g91] at A91 D91 st91
    have ne_sa_ve : sa ≠ ve := Nat.ne_of_lt (Nat.lt_of_lt_of_le (Nat.lt_of_lt_of_le Esa.lt (Nat.le_trans (Nat.le_trans (Nat.le_trans Ksb.1 E73.1) E76.1) Ke.1)) (Nat.le_of_eq g91.symm))
    have ne_tsa_ve : tsa ≠ ve := Nat.ne_of_lt (Nat.lt_of_lt_of_le (Nat.lt_of_lt_of_le Asa.lt (Nat.le_trans (Nat.le_trans (Nat.le_trans Ksb.1 E73.1) E76.1) Ke.1)) (Nat.le_of_eq g91.symm))
    have ne_sb_ve : sb ≠ ve := Nat.ne_of_lt (Nat.lt_of_lt_of_le (Nat.lt_of_lt_of_le Esb.lt (Nat.le_trans (Nat.le_trans E73.1 E76.1) Ke.1)) (Nat.le_of_eq g91.symm))
    have ne_tsb_ve : tsb ≠ ve := Nat.ne_of_lt (Nat.lt_of_lt_of_le (Nat.lt_of_lt_of_le Asb.lt (Nat.le_trans (Nat.le_trans E73.1 E76.1) Ke.1)) (Nat.le_of_eq g91.symm))
    have ne_en_ve : en ≠ ve := Nat.ne_of_lt (Nat.lt_of_lt_of_le (Nat.lt_of_lt_of_le A73.lt (Nat.le_trans E76.1 Ke.1)) (Nat.le_of_eq g91.symm))
    have ne_ba_ve : ba ≠ ve := Nat.ne_of_lt (Nat.lt_of_lt_of_le (Nat.lt_of_lt_of_le V76.lt Ke.1) (Nat.le_of_eq g91.symm))
    have ge_ve : n0 ≤ ve := Nat.le_trans z89 (Nat.le_of_eq g91.symm)
    have z92 : n0 ≤ h91.size := Nat.le_trans z89 E91.1
    have Fname_ve : Fld Z h91 ve "com/example/caskwright/caskwright/io/MultiRelease$ViewEntry" "name" "Ljava/lang/String;" .null := D91 (Or.inr (hw _ (List.mem_of_getElem? (i := 82) rfl))) (ty := (.object "java/lang/String")) (by decide)
    have Fentry_ve : Fld Z h91 ve "com/example/caskwright/caskwright/io/MultiRelease$ViewEntry" "entry" "Lcom/example/caskwright/caskwright/model/Entry;" .null := D91 (Or.inr (hw _ (List.mem_of_getElem? (i := 84) rfl))) (ty := (.object "com/example/caskwright/caskwright/model/Entry")) (by decide)
    have go91 : ∀ tgt, Steps p.tables e below (T91.setTop (mkF m 232 #[.val (.int p0), .val (.int p1), .val (.int p2), .val (.int v3), .val (.int v3), .val (.int b5), .val (.int b6), .val (.int v7), .val (.int v8), .val (.int v9), .val (.int vb), .val (.int v8), .val (.int v9), .val (.ref sa), .val (.ref sb), .val (.int b15), .val (.ref en), .unset] [(.ref ve)])) tgt → Steps p.tables e below E0 tgt := fun tgt kont => go90 tgt (st91 tgt kont)
    have go93 : ∀ tgt, Steps p.tables e below (T91.setTop (mkF m 237 #[.val (.int p0), .val (.int p1), .val (.int p2), .val (.int v3), .val (.int v3), .val (.int b5), .val (.int b6), .val (.int v7), .val (.int v8), .val (.int v9), .val (.int vb), .val (.int v8), .val (.int v9), .val (.ref sa), .val (.ref sb), .val (.int b15), .val (.ref en), .unset] [(.ref en), (.ref sa), (.ref ve), (.ref ve)])) tgt → Steps p.tables e below E0 tgt := fun tgt kont => go91 tgt (by
      show Steps p.tables e below (T91.setTop (mkF m 232 #[.val (.int p0), .val (.int p1), .val (.int p2), .val (.int v3), .val (.int v3), .val (.int b5), .val (.int b6), .val (.int v7), .val (.int v8), .val (.int v9), .val (.int vb), .val (.int v8), .val (.int v9), .val (.ref sa), .val (.ref sb), .val (.int b15), .val (.ref en), .unset] [(.ref ve)])) tgt
      refine XS.dup X91.here hx rfl (hb hby at_232) rfl rfl ?_
      show Steps p.tables e below (T91.setTop (mkF m 233 #[.val (.int p0), .val (.int p1), .val (.int p2), .val (.int v3), .val (.int v3), .val (.int b5), .val (.int b6), .val (.int v7), .val (.int v8), .val (.int v9), .val (.int vb), .val (.int v8), .val (.int v9), .val (.ref sa), .val (.ref sb), .val (.int b15), .val (.ref en), .unset] [(.ref ve), (.ref ve)])) tgt
      refine XS.aload X91.here hx rfl (hb hby at_233) rfl rfl ?_
      show Steps p.tables e below (T91.setTop (mkF m 235 #[.val (.int p0), .val (.int p1), .val (.int p2), .val (.int v3), .val (.int v3), .val (.int b5), .val (.int b6), .val (.int v7), .val (.int v8), .val (.int v9), .val (.int vb), .val (.int v8), .val (.int v9), .val (.ref sa), .val (.ref sb), .val (.int b15), .val (.ref en), .unset] [(.ref sa), (.ref ve), (.ref ve)])) tgt
      refine XS.aload X91.here hx rfl (hb hby at_235) rfl rfl ?_
      exact kont)
    obtain ⟨_, _, ⟨T94, L94, k94, n94⟩, -, X94, ⟨Lc94, hQ94, l94, y94, z94⟩, st94⟩ := X91.specialBack hx (y := (⟨"com/example/caskwright/caskwright/io/MultiRelease$ViewEntry", "<init>", "(Ljava/lang/String;Lcom/example/caskwright/caskwright/model/Entry;)V"⟩ : MethodName)) rfl hown69 (mvT hZ69 (hw _ (List.mem_of_getElem? (i := 77) rfl))) (mvT hZ69 (hw _ (List.mem_of_getElem? (i := 78) rfl))) (mvT hZ69 (hw _ (List.mem_of_getElem? (i := 79) rfl))) (by decide) (backOf (W := 1) (rmVI l Z a0 hw [] ve sa en h91 n0 z92 A91 ge_ve Fname_ve Fentry_ve) hZ69 (hw _ (List.mem_of_getElem? (i := 79) rfl)) (hw _ (List.mem_of_getElem? (i := 76) rfl)) (by decide) (by decide)) (g := (mkF m 237 #[.val (.int p0), .val (.int p1), .val (.int p2), .val (.int v3), .val (.int v3), .val (.int b5), .val (.int b6), .val (.int v7), .val (.int v8), .val (.int v9), .val (.int vb), .val (.int v8), .val (.int v9), .val (.ref sa), .val (.ref sb), .val (.int b15), .val (.ref en), .unset] [(.ref en), (.ref sa), (.ref ve), (.ref ve)])) rfl (by rw [hml]; rfl) (Steps.refl _) (a := ve) (argsL := [(.ref sa), (.ref en)]) (rest := [(.ref ve)]) (lenOf pd_12 rfl) rfl (by show 2 * 0 + _ ≤ _; exact Nat.le_of_eq rfl) (hb hby at_237) (fun _ _ => ⟨rfl, e91, (by decide : 12 + 0 ≤ _), (by decide : 30 + 0 ≤ _)⟩)
    dsimp only [Pt.U, Pt.locs, Pt.cells, Pt.slots] at X94 l94 y94 z94 st94 hQ94
    subst l94 y94 z94
    obtain ⟨rfl, N94q, Kv, Ev, Fv1, Fv2⟩ := hQ94
    have N94 := Fr.app N88 N94q
    have z95 : n0 ≤ T94.heap.size := Nat.le_trans z92 Kv.1
    have go94 : ∀ tgt, Steps p.tables e below (T94.setTop (mkF m 240 #[.val (.int p0), .val (.int p1), .val (.int p2), .val (.int v3), .val (.int v3), .val (.int b5), .val (.int b6), .val (.int v7), .val (.int v8), .val (.int v9), .val (.int vb), .val (.int v8), .val (.int v9), .val (.ref sa), .val (.ref sb), .val (.int b15), .val (.ref en), .unset] [(.ref ve)])) tgt → Steps p.tables e below E0 tgt := fun tgt kont => go93 tgt (st94.trans kont)
    have f96 : Exa Z T94.heap en "com/example/caskwright/caskwright/model/Entry" := ((Ee.ext E91).keep Kv)
    have f97 : Fld Z T94.heap en "com/example/caskwright/caskwright/model/Entry" "name" "Ljava/lang/String;" (.ref sb) := ((Fe.ext E91).keep Kv (ninS ne_en_ve nin0))
    have f98 : Exa Z T94.heap sa "java/lang/String" := ((((((Esa.keep Ksb).ext E73).ext E76).keep Ke).ext E91).keep Kv)
    have f99 : Fld Z T94.heap sa "java/lang/String" "value" "[B" (.ref tsa) := ((((((Vsa.keep Ksb nin0).ext E73).ext E76).keep Ke (ninS ne_sa_en nin0)).ext E91).keep Kv (ninS ne_sa_ve nin0))
    have f100 : Fld Z T94.heap sa "java/lang/String" "coder" "B" (.int (0 : Int32)) := ((((((Csa.keep Ksb nin0).ext E73).ext E76).keep Ke (ninS ne_sa_en nin0)).ext E91).keep Kv (ninS ne_sa_ve nin0))
    have f101 : Arv Z T94.heap tsa ksa .byte (Int32.ofNat (own_cs v3 v7 v8 v9).length) (((own_cs v3 v7 v8 v9).map (fun c => c.toInt8.toInt32)).map Value.int) (.int (0 : Int32)) := ((((((Asa.keep Ksb nin0).ext E73).ext E76).keep Ke (ninS ne_tsa_en nin0)).ext E91).keep Kv (ninS ne_tsa_ve nin0))
    have f102 : Exa Z T94.heap sb "java/lang/String" := (((((Esb.ext E73).ext E76).keep Ke).ext E91).keep Kv)
    have f103 : Fld Z T94.heap sb "java/lang/String" "value" "[B" (.ref tsb) := (((((Vsb.ext E73).ext E76).keep Ke (ninS ne_sb_en nin0)).ext E91).keep Kv (ninS ne_sb_ve nin0))
    have f104 : Fld Z T94.heap sb "java/lang/String" "coder" "B" (.int (0 : Int32)) := (((((Csb.ext E73).ext E76).keep Ke (ninS ne_sb_en nin0)).ext E91).keep Kv (ninS ne_sb_ve nin0))
    have f105 : Arv Z T94.heap tsb ksb .byte (Int32.ofNat (own_cs v3 vb v8 v9).length) (((own_cs v3 vb v8 v9).map (fun c => c.toInt8.toInt32)).map Value.int) (.int (0 : Int32)) := (((((Asb.ext E73).ext E76).keep Ke (ninS ne_tsb_en nin0)).ext E91).keep Kv (ninS ne_tsb_ve nin0))
    have f106 : Old Z n0 T94.heap := ((((((f67.keep Ksb all0).ext E73).ext E76).keep Ke (allS ge_en all0)).ext E91).keep Kv (allS ge_ve all0))
    have go107 : ∀ tgt, Steps p.tables e below (T94.setTop (mkF m 244 #[.val (.int p0), .val (.int p1), .val (.int p2), .val (.int v3), .val (.int v3), .val (.int b5), .val (.int b6), .val (.int v7), .val (.int v8), .val (.int v9), .val (.int vb), .val (.int v8), .val (.int v9), .val (.ref sa), .val (.ref sb), .val (.int b15), .val (.ref en), .val (.ref ve)] [(.ref ve)])) tgt → Steps p.tables e below E0 tgt := fun tgt kont => go94 tgt (by
      show Steps p.tables e below (T94.setTop (mkF m 240 #[.val (.int p0), .val (.int p1), .val (.int p2), .val (.int v3), .val (.int v3), .val (.int b5), .val (.int b6), .val (.int v7), .val (.int v8), .val (.int v9), .val (.int vb), .val (.int v8), .val (.int v9), .val (.ref sa), .val (.ref sb), .val (.int b15), .val (.ref en), .unset] [(.ref ve)])) tgt
      refine XS.astore X94.here hx rfl (hb hby at_240) rfl rfl (l' := #[.val (.int p0), .val (.int p1), .val (.int p2), .val (.int v3), .val (.int v3), .val (.int b5), .val (.int b6), .val (.int v7), .val (.int v8), .val (.int v9), .val (.int vb), .val (.int v8), .val (.int v9), .val (.ref sa), .val (.ref sb), .val (.int b15), .val (.ref en), .val (.ref ve)]) rfl ?_
      show Steps p.tables e below (T94.setTop (mkF m 242 #[.val (.int p0), .val (.int p1), .val (.int p2), .val (.int v3), .val (.int v3), .val (.int b5), .val (.int b6), .val (.int v7), .val (.int v8), .val (.int v9), .val (.int vb), .val (.int v8), .val (.int v9), .val (.ref sa), .val (.ref sb), .val (.int b15), .val (.ref en), .val (.ref ve)] [])) tgt
      refine XS.aload X94.here hx rfl (hb hby at_242) rfl rfl ?_
      exact kont)
    obtain ⟨cq108, kq108, q108a, q108b, q108c⟩ := isOf hZ69 rfl Ev
    obtain ⟨vv108, _, ⟨T108, L108, k108, n108⟩, -, X108, ⟨Lc108, hQ108, l108, y108, z108⟩, st108⟩ := X94.virtualBack hx (y := (⟨"com/example/caskwright/caskwright/io/MultiRelease$ViewEntry", "versioned", "()Z"⟩ : MethodName)) (z := (⟨"com/example/caskwright/caskwright/io/MultiRelease$ViewEntry", "versioned", "()Z"⟩ : MethodName)) hown69 (mvT hZ69 (hw _ (List.mem_of_getElem? (i := 85) rfl))) (mvT hZ69 (hw _ (List.mem_of_getElem? (i := 86) rfl))) (notFace_of_selects (args := #[]) (mvT hZ69 (hw _ (List.mem_of_getElem? (i := 88) rfl)))) (mvT hZ69 (hw _ (List.mem_of_getElem? (i := 88) rfl))) (mvT hZ69 (hw _ (List.mem_of_getElem? (i := 87) rfl))) (by decide) (backOf (W := 0) (rmVV l Z a0 hw [] ve en sa tsa ksa (own_cs v3 v7 v8 v9) sb tsb ksb (own_cs v3 vb v8 v9) G T94.heap n0 z95 f96 Fv1 Fv2 f97 f98 f99 f100 f101 (own_cs_mem q7 q8 q9) (own_cs_len _ _ _ _) f102 f103 f104 f105 (own_cs_mem hvb q8 q9) (own_cs_len _ _ _ _) (SC.ext f106.2) hG) hZ69 (hw _ (List.mem_of_getElem? (i := 89) rfl)) (hw _ (List.mem_of_getElem? (i := 76) rfl)) (by decide) (by decide)) q108a q108c (g := (mkF m 244 #[.val (.int p0), .val (.int p1), .val (.int p2), .val (.int v3), .val (.int v3), .val (.int b5), .val (.int b6), .val (.int v7), .val (.int v8), .val (.int v9), .val (.int vb), .val (.int v8), .val (.int v9), .val (.ref sa), .val (.ref sb), .val (.int b15), .val (.ref en), .val (.ref ve)] [(.ref ve)])) rfl (by rw [hml]; rfl) (Steps.refl _) (argsL := []) (rest := []) (lenOf pd_13 rfl) rfl (by show 2 * 0 + _ ≤ _; exact Nat.le_of_eq rfl) (hb hby at_244) (fun _ _ => ⟨rfl, rfl, (by decide : 12 + 0 ≤ _), (by decide : 30 + 0 ≤ _)⟩)
    dsimp only [Pt.U, Pt.locs, Pt.cells, Pt.slots] at X108 l108 y108 z108 st108 hQ108
    subst l108 y108 z108
    obtain ⟨hv108, N108q, e108⟩ := hQ108
    obtain ⟨rv, rfl, hrv⟩ : ∃ r : Int32, vv108 = some (.int r) ∧ ((r = 1 ∧ ¬ ((own_cs v3 v7 v8 v9) = (own_cs v3 vb v8 v9))) ∨ (r = 0 ∧ ¬ (¬ ((own_cs v3 v7 v8 v9) = (own_cs v3 vb v8 v9))))) := by
      rcases hv108 with ⟨q, u⟩ | ⟨q, u⟩
      · exact ⟨1, q, Or.inl ⟨rfl, u⟩⟩
      · exact ⟨0, q, Or.inr ⟨rfl, u⟩⟩
    have N108 := Fr.app N94 N108q
    have go108 : ∀ tgt, Steps p.tables e below (T108.setTop (mkF m 247 #[.val (.int p0), .val (.int p1), .val (.int p2), .val (.int v3), .val (.int v3), .val (.int b5), .val (.int b6), .val (.int v7), .val (.int v8), .val (.int v9), .val (.int vb), .val (.int v8), .val (.int v9), .val (.ref sa), .val (.ref sb), .val (.int b15), .val (.ref en), .val (.ref ve)] [(.int rv)])) tgt → Steps p.tables e below E0 tgt := fun tgt kont => go107 tgt (st108.trans kont)
    have go109 : ∀ tgt, Steps p.tables e below (T108.setTop (mkF m 249 #[.val (.int p0), .val (.int p1), .val (.int p2), .val (.int v3), .val (.int v3), .val (.int b5), .val (.int b6), .val (.int v7), .val (.int v8), .val (.int v9), .val (.int vb), .val (.int v8), .val (.int v9), .val (.ref sa), .val (.ref sb), .val (.int b15), .val (.ref en), .val (.ref ve)] [(.int b15), (.int rv)])) tgt → Steps p.tables e below E0 tgt := fun tgt kont => go108 tgt (by
      show Steps p.tables e below (T108.setTop (mkF m 247 #[.val (.int p0), .val (.int p1), .val (.int p2), .val (.int v3), .val (.int v3), .val (.int b5), .val (.int b6), .val (.int v7), .val (.int v8), .val (.int v9), .val (.int vb), .val (.int v8), .val (.int v9), .val (.ref sa), .val (.ref sb), .val (.int b15), .val (.ref en), .val (.ref ve)] [(.int rv)])) tgt
      refine XS.iload X108.here hx rfl (hb hby at_247) rfl ?_
      exact kont)
    by_cases h15 : b15 = (0 : Int32)
    · have c1 : rv = 1 := hrv.elim (fun u => u.1) (fun u => absurd (fun q => hb15.elim (fun z => absurd (z.1.symm.trans h15) (by decide)) (fun z => z.2 q)) u.2)
      have go110 : ∀ tgt, Steps p.tables e below (T108.setTop (mkF m 265 #[.val (.int p0), .val (.int p1), .val (.int p2), .val (.int v3), .val (.int v3), .val (.int b5), .val (.int b6), .val (.int v7), .val (.int v8), .val (.int v9), .val (.int vb), .val (.int v8), .val (.int v9), .val (.ref sa), .val (.ref sb), .val (.int b15), .val (.ref en), .val (.ref ve)] [(.int (1 : Int32))])) tgt → Steps p.tables e below E0 tgt := fun tgt kont => go109 tgt (by
        show Steps p.tables e below (T108.setTop (mkF m 249 #[.val (.int p0), .val (.int p1), .val (.int p2), .val (.int v3), .val (.int v3), .val (.int b5), .val (.int b6), .val (.int v7), .val (.int v8), .val (.int v9), .val (.int vb), .val (.int v8), .val (.int v9), .val (.ref sa), .val (.ref sb), .val (.int b15), .val (.ref en), .val (.ref ve)] [(.int b15), (.int rv)])) tgt
        refine XS.ifNo X108.here hx rfl (hb hby at_249) rfl ((if0 _ _).trans (teq h15).2) ?_
        show Steps p.tables e below (T108.setTop (mkF m 252 #[.val (.int p0), .val (.int p1), .val (.int p2), .val (.int v3), .val (.int v3), .val (.int b5), .val (.int b6), .val (.int v7), .val (.int v8), .val (.int v9), .val (.int vb), .val (.int v8), .val (.int v9), .val (.ref sa), .val (.ref sb), .val (.int b15), .val (.ref en), .val (.ref ve)] [(.int rv)])) tgt
        refine XS.iconst X108.here hx rfl (hb hby at_252) ?_
        show Steps p.tables e below (T108.setTop (mkF m 253 #[.val (.int p0), .val (.int p1), .val (.int p2), .val (.int v3), .val (.int v3), .val (.int b5), .val (.int b6), .val (.int v7), .val (.int v8), .val (.int v9), .val (.int vb), .val (.int v8), .val (.int v9), .val (.ref sa), .val (.ref sb), .val (.int b15), .val (.ref en), .val (.ref ve)] [(.int (1 : Int32)), (.int rv)])) tgt
        refine XS.goto X108.here hx rfl (pc0 := 253) (pc' := 257) rfl (hb hby at_253) (by decide) (by decide) ?_
        show Steps p.tables e below (T108.setTop (mkF m 257 #[.val (.int p0), .val (.int p1), .val (.int p2), .val (.int v3), .val (.int v3), .val (.int b5), .val (.int b6), .val (.int v7), .val (.int v8), .val (.int v9), .val (.int vb), .val (.int v8), .val (.int v9), .val (.ref sa), .val (.ref sb), .val (.int b15), .val (.ref en), .val (.ref ve)] [(.int (1 : Int32)), (.int rv)])) tgt
        refine XS.icmpNo X108.here hx rfl (hb hby at_257) rfl (teq c1).2 ?_
        show Steps p.tables e below (T108.setTop (mkF m 260 #[.val (.int p0), .val (.int p1), .val (.int p2), .val (.int v3), .val (.int v3), .val (.int b5), .val (.int b6), .val (.int v7), .val (.int v8), .val (.int v9), .val (.int vb), .val (.int v8), .val (.int v9), .val (.ref sa), .val (.ref sb), .val (.int b15), .val (.ref en), .val (.ref ve)] [])) tgt
        refine XS.iconst X108.here hx rfl (hb hby at_260) ?_
        show Steps p.tables e below (T108.setTop (mkF m 261 #[.val (.int p0), .val (.int p1), .val (.int p2), .val (.int v3), .val (.int v3), .val (.int b5), .val (.int b6), .val (.int v7), .val (.int v8), .val (.int v9), .val (.int vb), .val (.int v8), .val (.int v9), .val (.ref sa), .val (.ref sb), .val (.int b15), .val (.ref en), .val (.ref ve)] [(.int (1 : Int32))])) tgt
        refine XS.goto X108.here hx rfl (pc0 := 261) (pc' := 265) rfl (hb hby at_261) (by decide) (by decide) ?_
        exact kont)
      obtain ⟨fs, hr, hrun, hended, hW⟩ := X108.leaveW hS69 (by rw [e108]; exact (Nat.le_trans (Nat.le_refl _) (Nat.le_trans (Nat.le_trans (Nat.le_trans (Nat.le_trans E73.1 E76.1) Ke.1) E91.1) Kv.1))) (v := some (.int (1 : Int32))) (fun h => by rw [Bd.returns] at h; cases h)
      refine ⟨_, _, go110 _ ?_, hrun, hended, _, _, rfl, ?_, hW.1, hW.2.1, hW.2.2.1, hW.2.2.2.mono (by decide) (by decide)⟩
      · show Steps p.tables e below (T108.setTop (mkF m 265 #[.val (.int p0), .val (.int p1), .val (.int p2), .val (.int v3), .val (.int v3), .val (.int b5), .val (.int b6), .val (.int v7), .val (.int v8), .val (.int v9), .val (.int vb), .val (.int v8), .val (.int v9), .val (.ref sa), .val (.ref sb), .val (.int b15), .val (.ref en), .val (.ref ve)] [(.int (1 : Int32))])) _
        exact retN X108 hx (t := .boolean) Bd.returns (by simp) (hb hby at_265) hr
      · show QL Z p0 p1 p2 G h0 n0 _ T108.heap _ T108.vm
        rw [e108]
        exact ⟨rfl, N108⟩
    · have c0 : rv = 0 := hrv.elim (fun u => absurd (hb15.elim (fun z => z.2) (fun z => absurd z.1 h15)) u.2) (fun u => u.1)
      have go111 : ∀ tgt, Steps p.tables e below (T108.setTop (mkF m 265 #[.val (.int p0), .val (.int p1), .val (.int p2), .val (.int v3), .val (.int v3), .val (.int b5), .val (.int b6), .val (.int v7), .val (.int v8), .val (.int v9), .val (.int vb), .val (.int v8), .val (.int v9), .val (.ref sa), .val (.ref sb), .val (.int b15), .val (.ref en), .val (.ref ve)] [(.int (1 : Int32))])) tgt → Steps p.tables e below E0 tgt := fun tgt kont => go109 tgt (by
        show Steps p.tables e below (T108.setTop (mkF m 249 #[.val (.int p0), .val (.int p1), .val (.int p2), .val (.int v3), .val (.int v3), .val (.int b5), .val (.int b6), .val (.int v7), .val (.int v8), .val (.int v9), .val (.int vb), .val (.int v8), .val (.int v9), .val (.ref sa), .val (.ref sb), .val (.int b15), .val (.ref en), .val (.ref ve)] [(.int b15), (.int rv)])) tgt
        refine XS.ifYes X108.here hx rfl (pc0 := 249) (pc' := 256) rfl (hb hby at_249) rfl ((if0 _ _).trans (feq h15).2) (by decide) (by decide) ?_
        show Steps p.tables e below (T108.setTop (mkF m 256 #[.val (.int p0), .val (.int p1), .val (.int p2), .val (.int v3), .val (.int v3), .val (.int b5), .val (.int b6), .val (.int v7), .val (.int v8), .val (.int v9), .val (.int vb), .val (.int v8), .val (.int v9), .val (.ref sa), .val (.ref sb), .val (.int b15), .val (.ref en), .val (.ref ve)] [(.int rv)])) tgt
        refine XS.iconst X108.here hx rfl (hb hby at_256) ?_
        show Steps p.tables e below (T108.setTop (mkF m 257 #[.val (.int p0), .val (.int p1), .val (.int p2), .val (.int v3), .val (.int v3), .val (.int b5), .val (.int b6), .val (.int v7), .val (.int v8), .val (.int v9), .val (.int vb), .val (.int v8), .val (.int v9), .val (.ref sa), .val (.ref sb), .val (.int b15), .val (.ref en), .val (.ref ve)] [(.int (0 : Int32)), (.int rv)])) tgt
        refine XS.icmpNo X108.here hx rfl (hb hby at_257) rfl (teq c0).2 ?_
        show Steps p.tables e below (T108.setTop (mkF m 260 #[.val (.int p0), .val (.int p1), .val (.int p2), .val (.int v3), .val (.int v3), .val (.int b5), .val (.int b6), .val (.int v7), .val (.int v8), .val (.int v9), .val (.int vb), .val (.int v8), .val (.int v9), .val (.ref sa), .val (.ref sb), .val (.int b15), .val (.ref en), .val (.ref ve)] [])) tgt
        refine XS.iconst X108.here hx rfl (hb hby at_260) ?_
        show Steps p.tables e below (T108.setTop (mkF m 261 #[.val (.int p0), .val (.int p1), .val (.int p2), .val (.int v3), .val (.int v3), .val (.int b5), .val (.int b6), .val (.int v7), .val (.int v8), .val (.int v9), .val (.int vb), .val (.int v8), .val (.int v9), .val (.ref sa), .val (.ref sb), .val (.int b15), .val (.ref en), .val (.ref ve)] [(.int (1 : Int32))])) tgt
        refine XS.goto X108.here hx rfl (pc0 := 261) (pc' := 265) rfl (hb hby at_261) (by decide) (by decide) ?_
        exact kont)
      obtain ⟨fs, hr, hrun, hended, hW⟩ := X108.leaveW hS69 (by rw [e108]; exact (Nat.le_trans (Nat.le_refl _) (Nat.le_trans (Nat.le_trans (Nat.le_trans (Nat.le_trans E73.1 E76.1) Ke.1) E91.1) Kv.1))) (v := some (.int (1 : Int32))) (fun h => by rw [Bd.returns] at h; cases h)
      refine ⟨_, _, go111 _ ?_, hrun, hended, _, _, rfl, ?_, hW.1, hW.2.1, hW.2.2.1, hW.2.2.2.mono (by decide) (by decide)⟩
      · show Steps p.tables e below (T108.setTop (mkF m 265 #[.val (.int p0), .val (.int p1), .val (.int p2), .val (.int v3), .val (.int v3), .val (.int b5), .val (.int b6), .val (.int v7), .val (.int v8), .val (.int v9), .val (.int vb), .val (.int v8), .val (.int v9), .val (.ref sa), .val (.ref sb), .val (.int b15), .val (.ref en), .val (.ref ve)] [(.int (1 : Int32))])) _
        exact retN X108 hx (t := .boolean) Bd.returns (by simp) (hb hby at_265) hr
      · show QL Z p0 p1 p2 G h0 n0 _ T108.heap _ T108.vm
        rw [e108]
        exact ⟨rfl, N108⟩
set_option maxRecDepth 65536 in
set_option maxHeartbeats 40000000 in
theorem comes_1 {Post : Tables → Env → Array Value → State → Outcome → State → Prop} (hpost : ∀ tb e args s v u, (limb_1_1.after args s (.returned v) u = true ∧ limb_1_2.after args s (.returned v) u = true ∧ True) → ReturnedEndW s (.returned v) u (Jvm.fieldLocs frame_1_writes args s ++ Jvm.arrayLocs frame_1_arrays args s ++ Jvm.staticLocs frame_1_statics s) 32 1152 → Post tb e args s (.returned v) u) :
    ArmFor flags0 classFile x code maxLocals ret World_1 tables_1 room_1 Calls_1 rest_1 Pre_1 Post := by
  intro l hfl _ _ p e ha hc hk s m args below hf hA hF happ hP
  obtain ⟨hcalls, hrest, hpre⟩ := hP
  obtain ⟨-, -, -, hnamed, -, -, -, hat⟩ := (Spec.applies_iff hf).mp happ
  obtain ⟨hg, hn⟩ := and_e (Cond.before_iff.mp (show (Jvm.Cond.and given_1 narrow_1).before args s = true from hpre))
  obtain ⟨h1, r0⟩ := and_e hg
  obtain ⟨t0, r1⟩ := and_e r0
  obtain ⟨t1, r2⟩ := and_e r1
  have t2 := r2
  obtain ⟨w0, w1, w2, rfl⟩ : ∃ w0 w1 w2 : Value, args = #[w0, w1, w2] := by
    have hs : args.size = 3 := by simpa [Cond.value, given_1] using h1
    obtain ⟨L⟩ := args
    match L, hs with
    | [w0, w1, w2], _ => exact ⟨w0, w1, w2, rfl⟩
  have hw := fun d (hd : d ∈ tables_1) => atoms_spec (ws := Jvm.Cond.code x code maxLocals ret :: tables_1) hat d (List.mem_cons_of_mem _ hd)
  have hfit : Fit s := fun {y c} hc i hi => by
    obtain ⟨ha, rfl⟩ := Array.getElem?_eq_some_iff.mp hc
    have q := List.all_eq_true.mp ((Array.all_eq_true_iff_forall_mem.mp hF) _ (Array.getElem_mem ha)) i (List.mem_range.mpr hi)
    simpa [Array.getElem?_eq_getElem hi] using q
  obtain ⟨i0, e0⟩ := is_v t0
  obtain rfl : w0 = (.int i0) := Option.some.inj e0
  obtain ⟨i1, e1⟩ := is_v t1
  obtain rfl : w1 = (.int i1) := Option.some.inj e1
  obtain ⟨i2, e2⟩ := is_v t2
  obtain rfl : w2 = (.int i2) := Option.some.inj e2
  obtain ⟨hsets, hown0⟩ := atoms_of _ (rest_1_c_eq ▸ (show rest_1_c.before _ s = true from hrest))
  have nC := not_v (Cond.before_iff.mp (hsets _ (List.mem_of_getElem? (i := 2) rfl)))
  obtain ⟨iC, eC⟩ := is_v (Cond.before_iff.mp (hsets _ (List.mem_of_getElem? (i := 1) rfl)))
  have SC : Sta s s.heap "java/lang/String" "COMPACT_STRINGS" "Z" (.int iC) := Sta.start eC (Or.inl (hsets _ (List.mem_of_getElem? (i := 0) rfl)))
  have cC : ¬ (iC = (0 : Int32)) := gotF (Cond.eq_ints eC (Term.int_eval (0))) nC
  have hH : Jvm.Lit.constHeld s "java/lang/String" 7 := hcalls.1 ("java/lang/String", 7) (by simp [consts_1])
  have hCW : Jvm.Lit.compactW.before #[] s = true := hsets _ (List.mem_of_getElem? (i := 2) rfl)
  obtain ⟨n, o, h1, h2, h3, _, L, rfl, ⟨rfl, N⟩, hq⟩ := rmL l s _ hw tables_1 i0 i1 i2 iC  s.heap s.heap.size (Nat.le_refl _)  SC cC (Old.start s) hH hCW p e ha hc hk s m _ below hf ((Spec.applies_iff_loose hf).mp happ).1 ⟨rfl, State.Warmed39.refl s, rfl, (Or.inl IB.start)⟩ trivial
  refine ⟨n, _, h1, h2, h3, hpost _ _ _ _ _ _ ⟨Cond.after_iff.mpr rfl, Cond.after_iff.mpr (eq_i res_at (Term.int_eval (1)) rfl), trivial⟩ ⟨hq.1, hq.2.1, hq.2.2.1, (hq.2.2.2.sift fun y hy => Or.inr (N y hy)).mono (by decide) (by decide)⟩⟩
theorem main_1_1 : Claimed_1_1 := comes_1 fun _ _ _ _ _ _ h hF => ⟨h.1, hF⟩
theorem main_1_2 : Claimed_1_2 := comes_1 fun _ _ _ _ _ _ h hF => ⟨h.2.1, hF⟩
end Jvm.Pilot.@@N@@
namespace Jvm.Pilot.@@N@@
open Jvm Jvm.ClassFile Sem Op Lib Jvm.Free Jvm.Stand Jvm.Pilot.@@N@@.Jvm.D
/-! MADE BY PROGRAM (witnessworld.py) out of the Statement's table words and the real class files: 22 classes; the members and pool entries that the words name. The judged class is class 1, her method 1. -/
namespace start1
open Jvm.ClassFile
def u (s : String) : CpInfo := .utf8 (stringToUtf16 s)
/-- a pool by its gaps: so many unusable entries, then the entry; so many at the end -/
def gap : Nat → List CpInfo → List CpInfo
  | 0, r => r
  | n + 1, r => .unusable :: gap n r
def poolList (es : List (Nat × CpInfo)) (last : Nat) : List CpInfo := es.foldr (fun e r => gap e.1 (e.2 :: r)) (gap last [])
def pool (es : List (Nat × CpInfo)) (last : Nat) : Array CpInfo := ⟨poolList es last⟩
def fileOf (pool : Array CpInfo) (this : Nat) (attrs : Array Attribute := #[]) (ms : Array MethodInfo := #[]) (fl : Nat := 33) (sup : Nat := 0) (ifs : Array Nat := #[]) (fds : Array FieldInfo := #[]) : ClassFile where
  minorVersion := 0
  majorVersion := 65
  constantPool := pool
  accessFlags := fl
  thisClass := this
  superClass := sup
  interfaces := ifs
  fields := fds
  methods := ms
  attributes := attrs
def plain (name : String) (sup : Option ClassId) : Class where
  name := name
  kind := .ordinary
  loader := none
  accessFlags := 33
  super := sup
  interfaces := #[]
  cf := none
  fields := #[]
  methods := #[]
  instanceTypes := #[]
  staticTypes := #[]
  resolved := #[]
  callSites := []
  init := .initialized
  statics := none
  mirror := none

def pool0 : Array CpInfo := pool [(5, u "<init>"), (0, u "()V"), (1, .class_ 10), (1, u "java/lang/Object"), (85, u "clone"), (0, u "()Ljava/lang/Object;")] 26

def k0c0 : Code := { maxStack := 0, maxLocals := 1, code := object_method_1_code, exceptionTable := #[], attributes := #[] }
def k0m0 : Method := { name := "<init>", desc := "()V", sig := { parameters := [], returnType := none }, accessFlags := 1, code := some k0c0 }
def k0m1 : Method := { name := "clone", desc := "()Ljava/lang/Object;", sig := { parameters := [], returnType := some (.object "java/lang/Object") }, accessFlags := 260, code := none }
/-- java/lang/Object -/
def k0 : Class := { plain "java/lang/Object" none with
  accessFlags := 33
  interfaces := #[]
  cf := some (fileOf pool0 8 #[] #[{ accessFlags := 1, nameIndex := 5, descriptorIndex := 6, attributes := #[] }, { accessFlags := 260, nameIndex := 96, descriptorIndex := 97, attributes := #[] }] 33 0 #[] #[])
  fields := #[]
  methods := #[k0m0, k0m1]
  instanceTypes := #[]
  staticTypes := #[]
  resolved := Array.replicate 124 none
  statics := none }

def pool1 : Array CpInfo := pool [(2, .class_ 4), (1, u "java/lang/Object"), (0, u "<init>"), (0, u "()V"), (0, .methodref 8 9), (0, .class_ 10), (0, .nameAndType 11 12), (0, u "com/example/caskwright/caskwright/io/ViewEntryVersionedPinLaw"), (0, u "make"), (0, u "(ICCC)Ljava/lang/String;"), (0, .class_ 14), (0, u "com/example/caskwright/caskwright/model/Entry"), (0, .methodref 13 16), (0, .nameAndType 5 17), (0, u "(Ljava/lang/String;[BIJJJJJ)V"), (0, .class_ 19), (0, u "com/example/caskwright/caskwright/io/MultiRelease$ViewEntry"), (0, .methodref 18 21), (0, .nameAndType 5 22), (0, u "(Ljava/lang/String;Lcom/example/caskwright/caskwright/model/Entry;)V"), (0, .methodref 18 24), (0, .nameAndType 25 26), (0, u "versioned"), (0, u "()Z"), (0, .class_ 28), (0, u "java/lang/String"), (0, .methodref 27 30), (0, .nameAndType 5 31), (0, u "([C)V"), (2, u "law"), (0, u "(III)Z")] 7

def k1m0 : Method := { name := "<init>", desc := "()V", sig := { parameters := [], returnType := none }, accessFlags := 2, code := none }
def k1c1 : Code := { maxStack := 15, maxLocals := 18, code := code, exceptionTable := #[], attributes := #[] }
def k1m1 : Method := { name := "law", desc := "(III)Z", sig := { parameters := [.int, .int, .int], returnType := some .boolean }, accessFlags := 9, code := some k1c1 }
def k1c2 : Code := { maxStack := 6, maxLocals := 4, code := method_3_code, exceptionTable := #[], attributes := #[] }
def k1m2 : Method := { name := "make", desc := "(ICCC)Ljava/lang/String;", sig := { parameters := [.int, .char, .char, .char], returnType := some (.object "java/lang/String") }, accessFlags := 10, code := some k1c2 }
/-- com/example/caskwright/caskwright/io/ViewEntryVersionedPinLaw -/
def k1 : Class := { plain "com/example/caskwright/caskwright/io/ViewEntryVersionedPinLaw" (some 0) with
  accessFlags := 49
  interfaces := #[]
  cf := some (fileOf pool1 8 #[] #[{ accessFlags := 2, nameIndex := 5, descriptorIndex := 6, attributes := #[] }, { accessFlags := 9, nameIndex := 34, descriptorIndex := 35, attributes := #[] }, { accessFlags := 10, nameIndex := 11, descriptorIndex := 12, attributes := #[] }] 49 2 #[] #[])
  fields := #[]
  methods := #[k1m0, k1m1, k1m2]
  instanceTypes := #[]
  staticTypes := #[]
  resolved := Array.replicate 43 none
  statics := none }

def pool2 : Array CpInfo := pool [(1, .class_ 2), (0, u "java/io/Serializable"), (0, .class_ 4), (0, u "java/lang/Object")] 2

/-- java/io/Serializable -/
def k2 : Class := { plain "java/io/Serializable" (some 0) with
  accessFlags := 1537
  interfaces := #[]
  cf := some (fileOf pool2 1 #[] #[] 1537 3 #[] #[])
  fields := #[]
  methods := #[]
  instanceTypes := #[]
  staticTypes := #[]
  resolved := Array.replicate 7 none
  statics := none }

def pool3 : Array CpInfo := pool [(1, .class_ 2), (0, u "java/lang/Comparable"), (0, .class_ 4), (0, u "java/lang/Object")] 7

/-- java/lang/Comparable -/
def k3 : Class := { plain "java/lang/Comparable" (some 0) with
  accessFlags := 1537
  interfaces := #[]
  cf := some (fileOf pool3 1 #[] #[] 1537 3 #[] #[])
  fields := #[]
  methods := #[]
  instanceTypes := #[]
  staticTypes := #[]
  resolved := Array.replicate 12 none
  statics := none }

def pool4 : Array CpInfo := pool [(2, .class_ 4), (1, u "java/lang/CharSequence"), (42, .class_ 48), (0, u "java/lang/CharSequence$1CodePointIterator"), (10, .class_ 60), (0, u "java/lang/CharSequence$1CharIterator"), (5, .class_ 67), (0, u "java/lang/Object")] 63

/-- java/lang/CharSequence -/
def k4 : Class := { plain "java/lang/CharSequence" (some 0) with
  accessFlags := 1537
  interfaces := #[]
  cf := some (fileOf pool4 2 #[.nestMembers #[47, 59]] #[] 1537 66 #[] #[])
  fields := #[]
  methods := #[]
  instanceTypes := #[]
  staticTypes := #[]
  resolved := Array.replicate 131 none
  statics := none }

def pool5 : Array CpInfo := pool [(1, .class_ 2), (0, u "java/lang/constant/Constable"), (0, .class_ 4), (0, u "java/lang/Object")] 6

/-- java/lang/constant/Constable -/
def k5 : Class := { plain "java/lang/constant/Constable" (some 0) with
  accessFlags := 1537
  interfaces := #[]
  cf := some (fileOf pool5 1 #[] #[] 1537 3 #[] #[])
  fields := #[]
  methods := #[]
  instanceTypes := #[]
  staticTypes := #[]
  resolved := Array.replicate 11 none
  statics := none }

def pool6 : Array CpInfo := pool [(1, .class_ 2), (0, u "java/lang/constant/ConstantDesc"), (0, .class_ 4), (0, u "java/lang/Object")] 32

/-- java/lang/constant/ConstantDesc -/
def k6 : Class := { plain "java/lang/constant/ConstantDesc" (some 0) with
  accessFlags := 1537
  interfaces := #[]
  cf := some (fileOf pool6 1 #[] #[] 1537 3 #[] #[])
  fields := #[]
  methods := #[]
  instanceTypes := #[]
  staticTypes := #[]
  resolved := Array.replicate 37 none
  statics := none }

def pool7 : Array CpInfo := pool [(1, .methodref 2 3), (0, .class_ 4), (0, .nameAndType 5 6), (0, u "java/lang/Object"), (0, u "<init>"), (0, u "()V"), (0, .string 8), (0, u ""), (0, .fieldref 10 11), (0, .class_ 12), (0, .nameAndType 13 14), (0, u "java/lang/String"), (0, u "value"), (0, u "[B"), (0, .fieldref 10 16), (0, .nameAndType 17 18), (0, u "coder"), (0, u "B"), (2, u "hash"), (0, u "I"), (2, u "hashIsZero"), (0, u "Z"), (0, .methodref 10 28), (0, .nameAndType 5 29), (0, u "([CIILjava/lang/Void;)V"), (8, .fieldref 10 39), (0, .nameAndType 40 26), (0, u "COMPACT_STRINGS"), (1, .class_ 44), (1, u "java/lang/StringUTF16"), (0, u "compress"), (1, .methodref 42 48), (0, .nameAndType 49 50), (0, u "coderFromArrayLen"), (0, u "([BI)B"), (56, .class_ 109), (1, u "java/lang/StringLatin1"), (67, .methodref 42 178), (0, .nameAndType 45 179), (0, u "([CII)[B"), (361, .methodref 107 542), (0, .nameAndType 543 544), (0, u "equals"), (0, u "([B[B)Z"), (28, u "(Ljava/lang/Object;)Z"), (1, .class_ 576), (0, u "java/lang/CharSequence"), (22, u "CASE_INSENSITIVE_ORDER"), (0, u "Ljava/util/Comparator;"), (409, u "([C)V"), (90, u "serialPersistentFields"), (0, u "[Ljava/io/ObjectStreamField;"), (0, .class_ 1104), (0, u "java/lang/String$CaseInsensitiveComparator"), (1, .class_ 1107), (0, u "java/io/Serializable"), (0, .class_ 1109), (0, u "java/lang/Comparable"), (0, .class_ 1111), (0, u "java/lang/constant/Constable"), (0, .class_ 1113), (0, u "java/lang/constant/ConstantDesc"), (2, u "serialVersionUID"), (0, u "J"), (3, u "REPL"), (0, u "C"), (2, u "LATIN1"), (1, u "UTF16")] 323

def k7m0 : Method := { name := "<init>", desc := "()V", sig := { parameters := [], returnType := none }, accessFlags := 1, code := none }
def k7c1 : Code := { maxStack := 5, maxLocals := 2, code := jdk_42_method_3_code, exceptionTable := #[], attributes := #[] }
def k7m1 : Method := { name := "<init>", desc := "([C)V", sig := { parameters := [(.array .char)], returnType := none }, accessFlags := 1, code := some k7c1 }
def k7c2 : Code := { maxStack := 2, maxLocals := 3, code := jdk_42_method_66_code, exceptionTable := #[], attributes := #[] }
def k7m2 : Method := { name := "equals", desc := "(Ljava/lang/Object;)Z", sig := { parameters := [(.object "java/lang/Object")], returnType := some .boolean }, accessFlags := 1, code := some k7c2 }
def k7c3 : Code := { maxStack := 4, maxLocals := 6, code := jdk_42_method_149_code, exceptionTable := #[], attributes := #[] }
def k7m3 : Method := { name := "<init>", desc := "([CIILjava/lang/Void;)V", sig := { parameters := [(.array .char), .int, .int, (.object "java/lang/Void")], returnType := none }, accessFlags := 2, code := some k7c3 }
/-- java/lang/String -/
def k7 : Class := { plain "java/lang/String" (some 0) with
  accessFlags := 49
  interfaces := #[2, 3, 4, 5, 6]
  cf := some (fileOf pool7 10 #[.nestMembers #[1103]] #[{ accessFlags := 1, nameIndex := 5, descriptorIndex := 6, attributes := #[] }, { accessFlags := 1, nameIndex := 5, descriptorIndex := 1010, attributes := #[] }, { accessFlags := 1, nameIndex := 543, descriptorIndex := 573, attributes := #[] }, { accessFlags := 2, nameIndex := 5, descriptorIndex := 29, attributes := #[] }] 49 2 #[1106, 1108, 575, 1110, 1112] #[{ accessFlags := 18, nameIndex := 13, descriptorIndex := 14, attributes := #[] }, { accessFlags := 18, nameIndex := 17, descriptorIndex := 18, attributes := #[] }, { accessFlags := 2, nameIndex := 21, descriptorIndex := 22, attributes := #[] }, { accessFlags := 2, nameIndex := 25, descriptorIndex := 26, attributes := #[] }, { accessFlags := 26, nameIndex := 1116, descriptorIndex := 1117, attributes := #[] }, { accessFlags := 24, nameIndex := 40, descriptorIndex := 26, attributes := #[] }, { accessFlags := 26, nameIndex := 1101, descriptorIndex := 1102, attributes := #[] }, { accessFlags := 26, nameIndex := 1121, descriptorIndex := 1122, attributes := #[] }, { accessFlags := 25, nameIndex := 599, descriptorIndex := 600, attributes := #[] }, { accessFlags := 24, nameIndex := 1125, descriptorIndex := 18, attributes := #[] }, { accessFlags := 24, nameIndex := 1127, descriptorIndex := 18, attributes := #[] }])
  fields := #[{ name := "value", type := (.array .byte), accessFlags := 18, slot := 0, constantValue := 0 }, { name := "coder", type := .byte, accessFlags := 18, slot := 1, constantValue := 0 }, { name := "hash", type := .int, accessFlags := 2, slot := 2, constantValue := 0 }, { name := "hashIsZero", type := .boolean, accessFlags := 2, slot := 3, constantValue := 0 }, { name := "serialVersionUID", type := .long, accessFlags := 26, slot := 0, constantValue := 0 }, { name := "COMPACT_STRINGS", type := .boolean, accessFlags := 24, slot := 1, constantValue := 0 }, { name := "serialPersistentFields", type := (.array (.object "java/io/ObjectStreamField")), accessFlags := 26, slot := 2, constantValue := 0 }, { name := "REPL", type := .char, accessFlags := 26, slot := 3, constantValue := 0 }, { name := "CASE_INSENSITIVE_ORDER", type := (.object "java/util/Comparator"), accessFlags := 25, slot := 4, constantValue := 0 }, { name := "LATIN1", type := .byte, accessFlags := 24, slot := 5, constantValue := 0 }, { name := "UTF16", type := .byte, accessFlags := 24, slot := 6, constantValue := 0 }]
  methods := #[k7m0, k7m1, k7m2, k7m3]
  instanceTypes := #[(.array .byte), .byte, .int, .boolean]
  staticTypes := #[.long, .boolean, (.array (.object "java/io/ObjectStreamField")), .char, (.object "java/util/Comparator"), .byte, .byte]
  resolved := Array.replicate 1451 none
  statics := some 0 }

def pool8 : Array CpInfo := pool [(6, .class_ 8), (1, u "java/lang/Object"), (0, u "<init>"), (0, u "()V"), (1, .class_ 14), (1, u "java/lang/StringUTF16"), (31, u "$assertionsDisabled"), (0, u "Z"), (13, u "HI_BYTE_SHIFT"), (0, u "I"), (2, u "LO_BYTE_SHIFT"), (49, .methodref 12 116), (0, .nameAndType 117 118), (0, u "compress"), (0, u "([CI[BII)I"), (3, u "([CII)[B"), (138, u "coderFromArrayLen"), (0, u "([BI)B"), (106, .class_ 371), (1, u "java/lang/StringUTF16$LinesSpliterator"), (58, u "MAX_LENGTH"), (196, .class_ 628), (0, u "java/lang/StringUTF16$CodePointsSpliterator"), (0, .class_ 630), (0, u "java/lang/StringUTF16$CharsSpliterator")] 4

def k8m0 : Method := { name := "<init>", desc := "()V", sig := { parameters := [], returnType := none }, accessFlags := 0, code := none }
def k8c1 : Code := { maxStack := 2, maxLocals := 2, code := jdk_52_method_15_code, exceptionTable := #[], attributes := #[] }
def k8m1 : Method := { name := "coderFromArrayLen", desc := "([BI)B", sig := { parameters := [(.array .byte), .int], returnType := some .byte }, accessFlags := 8, code := some k8c1 }
def k8c2 : Code := { maxStack := 5, maxLocals := 6, code := jdk_52_method_16_code, exceptionTable := #[], attributes := #[] }
def k8m2 : Method := { name := "compress", desc := "([CII)[B", sig := { parameters := [(.array .char), .int, .int], returnType := some (.array .byte) }, accessFlags := 9, code := some k8c2 }
def k8c3 : Code := { maxStack := 3, maxLocals := 7, code := jdk_52_method_21_code, exceptionTable := #[], attributes := #[] }
def k8m3 : Method := { name := "compress", desc := "([CI[BII)I", sig := { parameters := [(.array .char), .int, (.array .byte), .int, .int], returnType := some .int }, accessFlags := 9, code := some k8c3 }
/-- java/lang/StringUTF16 -/
def k8 : Class := { plain "java/lang/StringUTF16" (some 0) with
  accessFlags := 48
  interfaces := #[]
  cf := some (fileOf pool8 12 #[.nestMembers #[627, 629, 369]] #[{ accessFlags := 0, nameIndex := 9, descriptorIndex := 10, attributes := #[] }, { accessFlags := 8, nameIndex := 261, descriptorIndex := 262, attributes := #[] }, { accessFlags := 9, nameIndex := 117, descriptorIndex := 122, attributes := #[] }, { accessFlags := 9, nameIndex := 117, descriptorIndex := 118, attributes := #[] }] 48 6 #[] #[{ accessFlags := 26, nameIndex := 61, descriptorIndex := 62, attributes := #[] }, { accessFlags := 26, nameIndex := 65, descriptorIndex := 62, attributes := #[] }, { accessFlags := 24, nameIndex := 430, descriptorIndex := 62, attributes := #[] }, { accessFlags := 4120, nameIndex := 46, descriptorIndex := 47, attributes := #[] }])
  fields := #[{ name := "HI_BYTE_SHIFT", type := .int, accessFlags := 26, slot := 0, constantValue := 0 }, { name := "LO_BYTE_SHIFT", type := .int, accessFlags := 26, slot := 1, constantValue := 0 }, { name := "MAX_LENGTH", type := .int, accessFlags := 24, slot := 2, constantValue := 0 }, { name := "$assertionsDisabled", type := .boolean, accessFlags := 4120, slot := 3, constantValue := 0 }]
  methods := #[k8m0, k8m1, k8m2, k8m3]
  instanceTypes := #[]
  staticTypes := #[.int, .int, .int, .boolean]
  resolved := Array.replicate 635 none
  statics := none }

def pool9 : Array CpInfo := pool [(1, .methodref 2 3), (0, .class_ 4), (0, .nameAndType 5 6), (0, u "java/lang/Object"), (0, u "<init>"), (0, u "()V"), (0, .class_ 8), (0, u "java/lang/Record")] 13

def k9c0 : Code := { maxStack := 1, maxLocals := 1, code := jdk_30_method_1_code, exceptionTable := #[], attributes := #[] }
def k9m0 : Method := { name := "<init>", desc := "()V", sig := { parameters := [], returnType := none }, accessFlags := 4, code := some k9c0 }
/-- java/lang/Record -/
def k9 : Class := { plain "java/lang/Record" (some 0) with
  accessFlags := 1057
  interfaces := #[]
  cf := some (fileOf pool9 7 #[] #[{ accessFlags := 4, nameIndex := 5, descriptorIndex := 6, attributes := #[] }] 1057 2 #[] #[])
  fields := #[]
  methods := #[k9m0]
  instanceTypes := #[]
  staticTypes := #[]
  resolved := Array.replicate 22 none
  statics := none }

def pool10 : Array CpInfo := pool [(1, .methodref 2 3), (0, .class_ 4), (0, .nameAndType 5 6), (0, u "java/lang/Record"), (0, u "<init>"), (0, u "()V"), (0, .methodref 8 9), (0, .class_ 10), (0, .nameAndType 11 12), (0, u "[B"), (0, u "clone"), (0, u "()Ljava/lang/Object;"), (0, .fieldref 14 15), (0, .class_ 16), (0, .nameAndType 17 18), (0, u "com/example/caskwright/caskwright/model/Entry"), (0, u "name"), (0, u "Ljava/lang/String;"), (0, .fieldref 14 20), (0, .nameAndType 21 10), (0, u "storedName"), (0, .fieldref 14 23), (0, .nameAndType 24 25), (0, u "method"), (0, u "I"), (0, .fieldref 14 27), (0, .nameAndType 28 29), (0, u "crc"), (0, u "J"), (0, .fieldref 14 31), (0, .nameAndType 32 29), (0, u "compressedSize"), (0, .fieldref 14 34), (0, .nameAndType 35 29), (0, u "size"), (0, .fieldref 14 37), (0, .nameAndType 38 29), (0, u "localHeaderPosition"), (0, .fieldref 14 40), (0, .nameAndType 41 29), (0, u "externalAttributes"), (27, u "(Ljava/lang/String;[BIJJJJJ)V"), (5, u "()Ljava/lang/String;")] 28

def k10c0 : Code := { maxStack := 3, maxLocals := 14, code := prog_52_method_1_code, exceptionTable := #[], attributes := #[] }
def k10m0 : Method := { name := "<init>", desc := "(Ljava/lang/String;[BIJJJJJ)V", sig := { parameters := [(.object "java/lang/String"), (.array .byte), .int, .long, .long, .long, .long, .long], returnType := none }, accessFlags := 1, code := some k10c0 }
def k10c1 : Code := { maxStack := 1, maxLocals := 1, code := prog_52_method_6_code, exceptionTable := #[], attributes := #[] }
def k10m1 : Method := { name := "name", desc := "()Ljava/lang/String;", sig := { parameters := [], returnType := some (.object "java/lang/String") }, accessFlags := 1, code := some k10c1 }
/-- com/example/caskwright/caskwright/model/Entry -/
def k10 : Class := { plain "com/example/caskwright/caskwright/model/Entry" (some 9) with
  accessFlags := 49
  interfaces := #[]
  cf := some (fileOf pool10 14 #[] #[{ accessFlags := 1, nameIndex := 5, descriptorIndex := 69, attributes := #[] }, { accessFlags := 1, nameIndex := 17, descriptorIndex := 75, attributes := #[] }] 49 2 #[] #[{ accessFlags := 18, nameIndex := 17, descriptorIndex := 18, attributes := #[] }, { accessFlags := 18, nameIndex := 21, descriptorIndex := 10, attributes := #[] }, { accessFlags := 18, nameIndex := 24, descriptorIndex := 25, attributes := #[] }, { accessFlags := 18, nameIndex := 28, descriptorIndex := 29, attributes := #[] }, { accessFlags := 18, nameIndex := 32, descriptorIndex := 29, attributes := #[] }, { accessFlags := 18, nameIndex := 35, descriptorIndex := 29, attributes := #[] }, { accessFlags := 18, nameIndex := 38, descriptorIndex := 29, attributes := #[] }, { accessFlags := 18, nameIndex := 41, descriptorIndex := 29, attributes := #[] }])
  fields := #[{ name := "name", type := (.object "java/lang/String"), accessFlags := 18, slot := 0, constantValue := 0 }, { name := "storedName", type := (.array .byte), accessFlags := 18, slot := 1, constantValue := 0 }, { name := "method", type := .int, accessFlags := 18, slot := 2, constantValue := 0 }, { name := "crc", type := .long, accessFlags := 18, slot := 3, constantValue := 0 }, { name := "compressedSize", type := .long, accessFlags := 18, slot := 4, constantValue := 0 }, { name := "size", type := .long, accessFlags := 18, slot := 5, constantValue := 0 }, { name := "localHeaderPosition", type := .long, accessFlags := 18, slot := 6, constantValue := 0 }, { name := "externalAttributes", type := .long, accessFlags := 18, slot := 7, constantValue := 0 }]
  methods := #[k10m0, k10m1]
  instanceTypes := #[(.object "java/lang/String"), (.array .byte), .int, .long, .long, .long, .long, .long]
  staticTypes := #[]
  resolved := Array.replicate 104 none
  statics := none }

def pool11 : Array CpInfo := pool [(1, .class_ 2), (0, u "java/lang/Cloneable"), (0, .class_ 4), (0, u "java/lang/Object")] 2

/-- java/lang/Cloneable -/
def k11 : Class := { plain "java/lang/Cloneable" (some 0) with
  accessFlags := 1537
  interfaces := #[]
  cf := some (fileOf pool11 1 #[] #[] 1537 3 #[] #[])
  fields := #[]
  methods := #[]
  instanceTypes := #[]
  staticTypes := #[]
  resolved := Array.replicate 7 none
  statics := none }

def pool12 : Array CpInfo := pool [(1, .methodref 2 3), (0, .class_ 4), (0, .nameAndType 5 6), (0, u "java/lang/Record"), (0, u "<init>"), (0, u "()V"), (0, .fieldref 8 9), (0, .class_ 10), (0, .nameAndType 11 12), (0, u "com/example/caskwright/caskwright/io/MultiRelease$ViewEntry"), (0, u "name"), (0, u "Ljava/lang/String;"), (0, .fieldref 8 14), (0, .nameAndType 15 16), (0, u "entry"), (0, u "Lcom/example/caskwright/caskwright/model/Entry;"), (0, .methodref 18 19), (0, .class_ 20), (0, .nameAndType 11 21), (0, u "com/example/caskwright/caskwright/model/Entry"), (0, u "()Ljava/lang/String;"), (0, .methodref 23 24), (0, .class_ 25), (0, .nameAndType 26 27), (0, u "java/lang/String"), (0, u "equals"), (0, u "(Ljava/lang/Object;)Z"), (11, u "(Ljava/lang/String;Lcom/example/caskwright/caskwright/model/Entry;)V"), (3, u "versioned"), (0, u "()Z"), (6, .class_ 52), (0, u "com/example/caskwright/caskwright/io/MultiRelease")] 20

def k12c0 : Code := { maxStack := 2, maxLocals := 3, code := prog_37_method_1_code, exceptionTable := #[], attributes := #[] }
def k12m0 : Method := { name := "<init>", desc := "(Ljava/lang/String;Lcom/example/caskwright/caskwright/model/Entry;)V", sig := { parameters := [(.object "java/lang/String"), (.object "com/example/caskwright/caskwright/model/Entry")], returnType := none }, accessFlags := 1, code := some k12c0 }
def k12c1 : Code := { maxStack := 2, maxLocals := 1, code := prog_37_method_2_code, exceptionTable := #[], attributes := #[] }
def k12m1 : Method := { name := "versioned", desc := "()Z", sig := { parameters := [], returnType := some .boolean }, accessFlags := 1, code := some k12c1 }
/-- com/example/caskwright/caskwright/io/MultiRelease$ViewEntry -/
def k12 : Class := { plain "com/example/caskwright/caskwright/io/MultiRelease$ViewEntry" (some 9) with
  accessFlags := 49
  interfaces := #[]
  cf := some (fileOf pool12 8 #[.nestHost 51] #[{ accessFlags := 1, nameIndex := 5, descriptorIndex := 39, attributes := #[] }, { accessFlags := 1, nameIndex := 43, descriptorIndex := 44, attributes := #[] }] 49 2 #[] #[{ accessFlags := 18, nameIndex := 11, descriptorIndex := 12, attributes := #[] }, { accessFlags := 18, nameIndex := 15, descriptorIndex := 16, attributes := #[] }])
  fields := #[{ name := "name", type := (.object "java/lang/String"), accessFlags := 18, slot := 0, constantValue := 0 }, { name := "entry", type := (.object "com/example/caskwright/caskwright/model/Entry"), accessFlags := 18, slot := 1, constantValue := 0 }]
  methods := #[k12m0, k12m1]
  instanceTypes := #[(.object "java/lang/String"), (.object "com/example/caskwright/caskwright/model/Entry")]
  staticTypes := #[]
  resolved := Array.replicate 73 none
  statics := none }

def pool13 : Array CpInfo := pool [(4, .class_ 6), (1, u "java/lang/Object"), (0, u "<init>"), (0, u "()V"), (5, .class_ 16), (1, u "java/lang/StringLatin1"), (104, u "$assertionsDisabled"), (0, u "Z"), (98, .class_ 223), (1, u "java/lang/StringLatin1$LinesSpliterator"), (57, u "equals"), (0, u "([B[B)Z"), (107, .class_ 391), (0, u "java/lang/StringLatin1$CharsSpliterator")] 3

def k13m0 : Method := { name := "<init>", desc := "()V", sig := { parameters := [], returnType := none }, accessFlags := 0, code := none }
def k13c1 : Code := { maxStack := 3, maxLocals := 3, code := jdk_43_method_13_code, exceptionTable := #[], attributes := #[] }
def k13m1 : Method := { name := "equals", desc := "([B[B)Z", sig := { parameters := [(.array .byte), (.array .byte)], returnType := some .boolean }, accessFlags := 9, code := some k13c1 }
/-- java/lang/StringLatin1 -/
def k13 : Class := { plain "java/lang/StringLatin1" (some 0) with
  accessFlags := 48
  interfaces := #[]
  cf := some (fileOf pool13 14 #[.nestMembers #[390, 221]] #[{ accessFlags := 0, nameIndex := 7, descriptorIndex := 8, attributes := #[] }, { accessFlags := 9, nameIndex := 281, descriptorIndex := 282, attributes := #[] }] 48 4 #[] #[{ accessFlags := 4120, nameIndex := 121, descriptorIndex := 122, attributes := #[] }])
  fields := #[{ name := "$assertionsDisabled", type := .boolean, accessFlags := 4120, slot := 0, constantValue := 0 }]
  methods := #[k13m0, k13m1]
  instanceTypes := #[]
  staticTypes := #[.boolean]
  resolved := Array.replicate 395 none
  statics := none }

def pool14 : Array CpInfo := pool [(2, .class_ 4), (1, u "java/lang/Object"), (0, u "<init>"), (0, u "()V"), (17, .class_ 26), (1, u "jdk/internal/util/Preconditions"), (28, .class_ 56), (0, u "jdk/internal/util/Preconditions$4"), (57, .class_ 115), (0, u "jdk/internal/util/Preconditions$1"), (7, u "SIOOBE_FORMATTER"), (0, u "Ljava/util/function/BiFunction;"), (0, .class_ 126), (0, u "jdk/internal/util/Preconditions$2"), (3, u "AIOOBE_FORMATTER"), (0, .class_ 132), (0, u "jdk/internal/util/Preconditions$3"), (3, u "IOOBE_FORMATTER")] 57

def k14m0 : Method := { name := "<init>", desc := "()V", sig := { parameters := [], returnType := none }, accessFlags := 1, code := none }
/-- jdk/internal/util/Preconditions -/
def k14 : Class := { plain "jdk/internal/util/Preconditions" (some 0) with
  accessFlags := 33
  interfaces := #[]
  cf := some (fileOf pool14 24 #[.nestMembers #[55, 131, 125, 114]] #[{ accessFlags := 1, nameIndex := 5, descriptorIndex := 6, attributes := #[] }] 33 2 #[] #[{ accessFlags := 25, nameIndex := 123, descriptorIndex := 124, attributes := #[] }, { accessFlags := 25, nameIndex := 130, descriptorIndex := 124, attributes := #[] }, { accessFlags := 25, nameIndex := 136, descriptorIndex := 124, attributes := #[] }])
  fields := #[{ name := "SIOOBE_FORMATTER", type := (.object "java/util/function/BiFunction"), accessFlags := 25, slot := 0, constantValue := 0 }, { name := "AIOOBE_FORMATTER", type := (.object "java/util/function/BiFunction"), accessFlags := 25, slot := 1, constantValue := 0 }, { name := "IOOBE_FORMATTER", type := (.object "java/util/function/BiFunction"), accessFlags := 25, slot := 2, constantValue := 0 }]
  methods := #[k14m0]
  instanceTypes := #[]
  staticTypes := #[(.object "java/util/function/BiFunction"), (.object "java/util/function/BiFunction"), (.object "java/util/function/BiFunction")]
  resolved := Array.replicate 194 none
  statics := some 1 }

def pool15 : Array CpInfo := pool [(9, u "<init>"), (6, .class_ 18), (1, u "java/lang/Object"), (0, u "()V"), (1, .class_ 23), (1, u "jdk/internal/util/ArraysSupport"), (0, u "LOG2_ARRAY_LONG_INDEX_SCALE"), (0, u "I"), (2, u "U"), (0, u "Ljdk/internal/misc/Unsafe;"), (8, u "BIG_ENDIAN"), (0, u "Z"), (8, u "LOG2_BYTE_BIT_SIZE"), (4, u "LOG2_ARRAY_INT_INDEX_SCALE"), (54, u "JLA"), (0, u "Ljdk/internal/access/JavaLangAccess;"), (11, u "LOG2_ARRAY_BOOLEAN_INDEX_SCALE"), (9, u "LOG2_ARRAY_BYTE_INDEX_SCALE"), (5, u "LOG2_ARRAY_CHAR_INDEX_SCALE"), (5, u "LOG2_ARRAY_SHORT_INDEX_SCALE"), (18, u "LOG2_ARRAY_FLOAT_INDEX_SCALE"), (24, u "LOG2_ARRAY_DOUBLE_INDEX_SCALE"), (89, u "T_BOOLEAN"), (2, u "T_CHAR"), (1, u "T_FLOAT"), (1, u "T_DOUBLE"), (1, u "T_BYTE"), (1, u "T_SHORT"), (1, u "T_INT"), (1, u "T_LONG"), (1, u "SOFT_MAX_ARRAY_LENGTH")] 83

def k15m0 : Method := { name := "<init>", desc := "()V", sig := { parameters := [], returnType := none }, accessFlags := 2, code := none }
/-- jdk/internal/util/ArraysSupport -/
def k15 : Class := { plain "jdk/internal/util/ArraysSupport" (some 0) with
  accessFlags := 33
  interfaces := #[]
  cf := some (fileOf pool15 21 #[] #[{ accessFlags := 2, nameIndex := 9, descriptorIndex := 19, attributes := #[] }] 33 16 #[] #[{ accessFlags := 24, nameIndex := 28, descriptorIndex := 29, attributes := #[] }, { accessFlags := 26, nameIndex := 38, descriptorIndex := 39, attributes := #[] }, { accessFlags := 25, nameIndex := 121, descriptorIndex := 25, attributes := #[] }, { accessFlags := 25, nameIndex := 131, descriptorIndex := 25, attributes := #[] }, { accessFlags := 25, nameIndex := 137, descriptorIndex := 25, attributes := #[] }, { accessFlags := 25, nameIndex := 143, descriptorIndex := 25, attributes := #[] }, { accessFlags := 25, nameIndex := 53, descriptorIndex := 25, attributes := #[] }, { accessFlags := 25, nameIndex := 24, descriptorIndex := 25, attributes := #[] }, { accessFlags := 25, nameIndex := 162, descriptorIndex := 25, attributes := #[] }, { accessFlags := 25, nameIndex := 187, descriptorIndex := 25, attributes := #[] }, { accessFlags := 26, nameIndex := 48, descriptorIndex := 25, attributes := #[] }, { accessFlags := 25, nameIndex := 277, descriptorIndex := 25, attributes := #[] }, { accessFlags := 25, nameIndex := 280, descriptorIndex := 25, attributes := #[] }, { accessFlags := 25, nameIndex := 282, descriptorIndex := 25, attributes := #[] }, { accessFlags := 25, nameIndex := 284, descriptorIndex := 25, attributes := #[] }, { accessFlags := 25, nameIndex := 286, descriptorIndex := 25, attributes := #[] }, { accessFlags := 25, nameIndex := 288, descriptorIndex := 25, attributes := #[] }, { accessFlags := 25, nameIndex := 290, descriptorIndex := 25, attributes := #[] }, { accessFlags := 25, nameIndex := 292, descriptorIndex := 25, attributes := #[] }, { accessFlags := 26, nameIndex := 108, descriptorIndex := 109, attributes := #[] }, { accessFlags := 25, nameIndex := 294, descriptorIndex := 25, attributes := #[] }])
  fields := #[{ name := "U", type := (.object "jdk/internal/misc/Unsafe"), accessFlags := 24, slot := 0, constantValue := 0 }, { name := "BIG_ENDIAN", type := .boolean, accessFlags := 26, slot := 1, constantValue := 0 }, { name := "LOG2_ARRAY_BOOLEAN_INDEX_SCALE", type := .int, accessFlags := 25, slot := 2, constantValue := 0 }, { name := "LOG2_ARRAY_BYTE_INDEX_SCALE", type := .int, accessFlags := 25, slot := 3, constantValue := 0 }, { name := "LOG2_ARRAY_CHAR_INDEX_SCALE", type := .int, accessFlags := 25, slot := 4, constantValue := 0 }, { name := "LOG2_ARRAY_SHORT_INDEX_SCALE", type := .int, accessFlags := 25, slot := 5, constantValue := 0 }, { name := "LOG2_ARRAY_INT_INDEX_SCALE", type := .int, accessFlags := 25, slot := 6, constantValue := 0 }, { name := "LOG2_ARRAY_LONG_INDEX_SCALE", type := .int, accessFlags := 25, slot := 7, constantValue := 0 }, { name := "LOG2_ARRAY_FLOAT_INDEX_SCALE", type := .int, accessFlags := 25, slot := 8, constantValue := 0 }, { name := "LOG2_ARRAY_DOUBLE_INDEX_SCALE", type := .int, accessFlags := 25, slot := 9, constantValue := 0 }, { name := "LOG2_BYTE_BIT_SIZE", type := .int, accessFlags := 26, slot := 10, constantValue := 0 }, { name := "T_BOOLEAN", type := .int, accessFlags := 25, slot := 11, constantValue := 0 }, { name := "T_CHAR", type := .int, accessFlags := 25, slot := 12, constantValue := 0 }, { name := "T_FLOAT", type := .int, accessFlags := 25, slot := 13, constantValue := 0 }, { name := "T_DOUBLE", type := .int, accessFlags := 25, slot := 14, constantValue := 0 }, { name := "T_BYTE", type := .int, accessFlags := 25, slot := 15, constantValue := 0 }, { name := "T_SHORT", type := .int, accessFlags := 25, slot := 16, constantValue := 0 }, { name := "T_INT", type := .int, accessFlags := 25, slot := 17, constantValue := 0 }, { name := "T_LONG", type := .int, accessFlags := 25, slot := 18, constantValue := 0 }, { name := "JLA", type := (.object "jdk/internal/access/JavaLangAccess"), accessFlags := 26, slot := 19, constantValue := 0 }, { name := "SOFT_MAX_ARRAY_LENGTH", type := .int, accessFlags := 25, slot := 20, constantValue := 0 }]
  methods := #[k15m0]
  instanceTypes := #[]
  staticTypes := #[(.object "jdk/internal/misc/Unsafe"), .boolean, .int, .int, .int, .int, .int, .int, .int, .int, .int, .int, .int, .int, .int, .int, .int, .int, .int, (.object "jdk/internal/access/JavaLangAccess"), .int]
  resolved := Array.replicate 378 none
  statics := none }

/-- the primitive byte -/
def k16 : Class := { plain "byte" none with kind := .primitive 'B', accessFlags := 0x411 }
/-- [B -/
def k17 : Class := { plain "[B" (some 0) with kind := .array 16 .byte, interfaces := #[11, 2], accessFlags := 1041 }

/-- the primitive char -/
def k18 : Class := { plain "char" none with kind := .primitive 'C', accessFlags := 0x411 }
/-- [C -/
def k19 : Class := { plain "[C" (some 0) with kind := .array 18 .char, interfaces := #[11, 2], accessFlags := 1041 }

/-- the primitive int -/
def k20 : Class := { plain "int" none with kind := .primitive 'I', accessFlags := 0x411 }
/-- [I -/
def k21 : Class := { plain "[I" (some 0) with kind := .array 20 .int, interfaces := #[11, 2], accessFlags := 1041 }

def heap : Heap := #[{ cls := 7, slots := #[.long 0, .int 1, .null, .int 0, .null, .int 0, .int 0], vm := .statics 7 },
  { cls := 14, slots := #[.null, .null, .null], vm := .statics 14 }]
def classes : Array Class := #[k0, k1, k2, k3, k4, k5, k6, k7, k8, k9, k10, k11, k12, k13, k14, k15, k16, k17, k18, k19, k20, k21]
def interned : List (Array UInt16 × Addr) := []
def slotsUsed : Nat := 10
def theMethod : MethodId := ⟨1, 1⟩
def args0 : Array Value := #[.int 1, .int 2, .int 3]
def aboutOver (below : List Frame) : State where
  vm := { classes := classes, interned := interned.toArray }
  heap := heap
  slotsUsed := slotsUsed
  threads := #[{ frames := .invoking theMethod args0 :: below }]
def below0 : List Frame := [.native { method := ⟨0, 0⟩, args := #[] }]
def about1 : State := aboutOver below0
def p0 : Program := .bare "" "" ""
def e0 : Env := launch0.env 0 0 0
theorem w_frames : about1.frames = Frame.invoking theMethod args0 :: below0 := rfl
set_option maxRecDepth 65536 in
theorem w_args : argsFit about1.vm theMethod args0 = true := by decide +kernel
set_option maxRecDepth 65536 in
theorem w_heap : heapFits about1 = true := by decide +kernel
set_option maxRecDepth 65536 in
theorem w_runnable : about1.curStatus? = some .runnable := by decide +kernel
set_option maxRecDepth 65536 in
theorem w_alone : about1.alone = true := by decide +kernel
set_option maxRecDepth 65536 in
theorem w_named : about1.methodNamed? x = some theMethod := by decide +kernel
set_option maxRecDepth 65536 in
theorem w_hears : about1.hears theMethod below0 = true := by decide +kernel
set_option maxRecDepth 65536 in
theorem w_ripe : about1.ripe theMethod args0 below0 = true := by decide +kernel
theorem w_running : about1.status = .running := rfl
set_option maxRecDepth 65536 in
theorem w_room : about1.hasRoom e0.platform room_1 = true :=
  launch0.hasRoom_least _ room_1 (by decide +kernel) (by decide +kernel) (by decide +kernel) (by decide +kernel) (by decide +kernel) (by decide +kernel)
theorem allAtoms_all (ts : List Jvm.Cond) (a : Array Jvm.Value) (st : Jvm.State) : (allAtoms ts).before a st = ts.all (fun c => c.before a st) := by
  induction ts with
  | nil => rfl
  | cons c t ih =>
    show (Jvm.Cond.and c (allAtoms t)).before a st = _
    rw [Jvm.Cond.before_and, ih, List.all_cons]
def words1 : List Jvm.Cond := Jvm.Cond.code x code maxLocals ret :: tables_1
/-- a 'code' word, met by the world's own term for the bytes: nothing is compared byte by byte -/
theorem code_word {y : MethodName} {bytes : ByteArray} {mx : Nat} {rt : Option FieldType} {a : Array Value} {s : State} {m : MethodId} {meth : Method} {c : Code} (h1 : s.methodNamed? y = some m) (h2 : s.vm.method? m = some meth) (h3 : meth.code = some c) (h4 : c.code = bytes)
    (h5 : (c.maxLocals == mx && c.exceptionTable.isEmpty && decide (c.maxStack ≤ mostOperands) && decide (meth.sig.returnType = rt) && !meth.locks && decide (parseMethodDescriptor y.desc = some meth.sig)) = true) : (Jvm.Cond.code y bytes mx rt).before a s = true := by
  simp only [Bool.and_eq_true, beq_iff_eq, Bool.not_eq_true', decide_eq_true_eq] at h5
  obtain ⟨⟨⟨⟨⟨g1, g2⟩, g3⟩, g4⟩, g5⟩, g6⟩ := h5
  simp [Cond.before, Cond.holds, Cond.value, h1, h2, h3, h4, g1, g2, g3, g4, g5, g6]
def isCode : Jvm.Cond → Bool
  | .code _ _ _ _ => true
  | _ => false
theorem all_split {L : List Jvm.Cond} {P : Jvm.Cond → Bool} (h1 : L.all (fun c => isCode c || P c) = true) (h2 : ∀ c ∈ L.filter isCode, P c = true) : L.all P = true := by
  refine List.all_eq_true.mpr fun c hc => ?_
  have h := List.all_eq_true.mp h1 c hc
  rcases Bool.eq_false_or_eq_true (isCode c) with hi | hi
  · exact h2 c (List.mem_filter.mpr ⟨hc, hi⟩)
  · simpa [hi] using h
set_option maxRecDepth 65536 in
theorem w_c0 : (Jvm.Cond.code x code maxLocals ret).before args0 about1 = true := code_word (m := ⟨1, 1⟩) (meth := k1m1) (c := k1c1) (by decide +kernel) rfl rfl rfl (by decide +kernel)
set_option maxRecDepth 65536 in
theorem w_c1 : (Jvm.Cond.code ({ cls := "com/example/caskwright/caskwright/io/ViewEntryVersionedPinLaw", name := "make", desc := "(ICCC)Ljava/lang/String;" } : Jvm.MethodName) method_3_code (4 : Nat) (Option.some (Jvm.ClassFile.FieldType.object "java/lang/String"))).before args0 about1 = true := code_word (m := ⟨1, 2⟩) (meth := k1m2) (c := k1c2) (by decide +kernel) rfl rfl rfl (by decide +kernel)
set_option maxRecDepth 65536 in
theorem w_c2 : (Jvm.Cond.code ({ cls := "java/lang/String", name := "<init>", desc := "([C)V" } : Jvm.MethodName) jdk_42_method_3_code (2 : Nat) (Option.none : Option Jvm.ClassFile.FieldType)).before args0 about1 = true := code_word (m := ⟨7, 1⟩) (meth := k7m1) (c := k7c1) (by decide +kernel) rfl rfl rfl (by decide +kernel)
set_option maxRecDepth 65536 in
theorem w_c3 : (Jvm.Cond.code ({ cls := "java/lang/String", name := "<init>", desc := "([CIILjava/lang/Void;)V" } : Jvm.MethodName) jdk_42_method_149_code (6 : Nat) (Option.none : Option Jvm.ClassFile.FieldType)).before args0 about1 = true := code_word (m := ⟨7, 3⟩) (meth := k7m3) (c := k7c3) (by decide +kernel) rfl rfl rfl (by decide +kernel)
set_option maxRecDepth 65536 in
theorem w_c4 : (Jvm.Cond.code ({ cls := "java/lang/Object", name := "<init>", desc := "()V" } : Jvm.MethodName) object_method_1_code (1 : Nat) (Option.none : Option Jvm.ClassFile.FieldType)).before args0 about1 = true := code_word (m := ⟨0, 0⟩) (meth := k0m0) (c := k0c0) (by decide +kernel) rfl rfl rfl (by decide +kernel)
set_option maxRecDepth 65536 in
theorem w_c5 : (Jvm.Cond.code ({ cls := "java/lang/StringUTF16", name := "compress", desc := "([CII)[B" } : Jvm.MethodName) jdk_52_method_16_code (6 : Nat) (Option.some (Jvm.ClassFile.FieldType.array Jvm.ClassFile.FieldType.byte))).before args0 about1 = true := code_word (m := ⟨8, 2⟩) (meth := k8m2) (c := k8c2) (by decide +kernel) rfl rfl rfl (by decide +kernel)
set_option maxRecDepth 65536 in
theorem w_c6 : (Jvm.Cond.code ({ cls := "java/lang/StringUTF16", name := "compress", desc := "([CI[BII)I" } : Jvm.MethodName) jdk_52_method_21_code (7 : Nat) (Option.some Jvm.ClassFile.FieldType.int)).before args0 about1 = true := code_word (m := ⟨8, 3⟩) (meth := k8m3) (c := k8c3) (by decide +kernel) rfl rfl rfl (by decide +kernel)
set_option maxRecDepth 65536 in
theorem w_c7 : (Jvm.Cond.code ({ cls := "java/lang/StringUTF16", name := "coderFromArrayLen", desc := "([BI)B" } : Jvm.MethodName) jdk_52_method_15_code (2 : Nat) (Option.some Jvm.ClassFile.FieldType.byte)).before args0 about1 = true := code_word (m := ⟨8, 1⟩) (meth := k8m1) (c := k8c1) (by decide +kernel) rfl rfl rfl (by decide +kernel)
set_option maxRecDepth 65536 in
theorem w_c8 : (Jvm.Cond.code ({ cls := "com/example/caskwright/caskwright/model/Entry", name := "<init>", desc := "(Ljava/lang/String;[BIJJJJJ)V" } : Jvm.MethodName) prog_52_method_1_code (14 : Nat) (Option.none : Option Jvm.ClassFile.FieldType)).before args0 about1 = true := code_word (m := ⟨10, 0⟩) (meth := k10m0) (c := k10c0) (by decide +kernel) rfl rfl rfl (by decide +kernel)
set_option maxRecDepth 65536 in
theorem w_c9 : (Jvm.Cond.code ({ cls := "java/lang/Record", name := "<init>", desc := "()V" } : Jvm.MethodName) jdk_30_method_1_code (1 : Nat) (Option.none : Option Jvm.ClassFile.FieldType)).before args0 about1 = true := code_word (m := ⟨9, 0⟩) (meth := k9m0) (c := k9c0) (by decide +kernel) rfl rfl rfl (by decide +kernel)
set_option maxRecDepth 65536 in
theorem w_c10 : (Jvm.Cond.code ({ cls := "com/example/caskwright/caskwright/io/MultiRelease$ViewEntry", name := "<init>", desc := "(Ljava/lang/String;Lcom/example/caskwright/caskwright/model/Entry;)V" } : Jvm.MethodName) prog_37_method_1_code (3 : Nat) (Option.none : Option Jvm.ClassFile.FieldType)).before args0 about1 = true := code_word (m := ⟨12, 0⟩) (meth := k12m0) (c := k12c0) (by decide +kernel) rfl rfl rfl (by decide +kernel)
set_option maxRecDepth 65536 in
theorem w_c11 : (Jvm.Cond.code ({ cls := "com/example/caskwright/caskwright/io/MultiRelease$ViewEntry", name := "versioned", desc := "()Z" } : Jvm.MethodName) prog_37_method_2_code (1 : Nat) (Option.some Jvm.ClassFile.FieldType.boolean)).before args0 about1 = true := code_word (m := ⟨12, 1⟩) (meth := k12m1) (c := k12c1) (by decide +kernel) rfl rfl rfl (by decide +kernel)
set_option maxRecDepth 65536 in
theorem w_c12 : (Jvm.Cond.code ({ cls := "com/example/caskwright/caskwright/model/Entry", name := "name", desc := "()Ljava/lang/String;" } : Jvm.MethodName) prog_52_method_6_code (1 : Nat) (Option.some (Jvm.ClassFile.FieldType.object "java/lang/String"))).before args0 about1 = true := code_word (m := ⟨10, 1⟩) (meth := k10m1) (c := k10c1) (by decide +kernel) rfl rfl rfl (by decide +kernel)
set_option maxRecDepth 65536 in
theorem w_c13 : (Jvm.Cond.code ({ cls := "java/lang/String", name := "equals", desc := "(Ljava/lang/Object;)Z" } : Jvm.MethodName) jdk_42_method_66_code (3 : Nat) (Option.some Jvm.ClassFile.FieldType.boolean)).before args0 about1 = true := code_word (m := ⟨7, 2⟩) (meth := k7m2) (c := k7c2) (by decide +kernel) rfl rfl rfl (by decide +kernel)
set_option maxRecDepth 65536 in
theorem w_c14 : (Jvm.Cond.code ({ cls := "java/lang/StringLatin1", name := "equals", desc := "([B[B)Z" } : Jvm.MethodName) jdk_43_method_13_code (3 : Nat) (Option.some Jvm.ClassFile.FieldType.boolean)).before args0 about1 = true := code_word (m := ⟨13, 1⟩) (meth := k13m1) (c := k13c1) (by decide +kernel) rfl rfl rfl (by decide +kernel)
def codes1 : List Jvm.Cond := [Jvm.Cond.code x code maxLocals ret, Jvm.Cond.code ({ cls := "com/example/caskwright/caskwright/io/ViewEntryVersionedPinLaw", name := "make", desc := "(ICCC)Ljava/lang/String;" } : Jvm.MethodName) method_3_code (4 : Nat) (Option.some (Jvm.ClassFile.FieldType.object "java/lang/String")), Jvm.Cond.code ({ cls := "java/lang/String", name := "<init>", desc := "([C)V" } : Jvm.MethodName) jdk_42_method_3_code (2 : Nat) (Option.none : Option Jvm.ClassFile.FieldType), Jvm.Cond.code ({ cls := "java/lang/String", name := "<init>", desc := "([CIILjava/lang/Void;)V" } : Jvm.MethodName) jdk_42_method_149_code (6 : Nat) (Option.none : Option Jvm.ClassFile.FieldType), Jvm.Cond.code ({ cls := "java/lang/Object", name := "<init>", desc := "()V" } : Jvm.MethodName) object_method_1_code (1 : Nat) (Option.none : Option Jvm.ClassFile.FieldType), Jvm.Cond.code ({ cls := "java/lang/StringUTF16", name := "compress", desc := "([CII)[B" } : Jvm.MethodName) jdk_52_method_16_code (6 : Nat) (Option.some (Jvm.ClassFile.FieldType.array Jvm.ClassFile.FieldType.byte)), Jvm.Cond.code ({ cls := "java/lang/StringUTF16", name := "compress", desc := "([CI[BII)I" } : Jvm.MethodName) jdk_52_method_21_code (7 : Nat) (Option.some Jvm.ClassFile.FieldType.int), Jvm.Cond.code ({ cls := "java/lang/StringUTF16", name := "coderFromArrayLen", desc := "([BI)B" } : Jvm.MethodName) jdk_52_method_15_code (2 : Nat) (Option.some Jvm.ClassFile.FieldType.byte), Jvm.Cond.code ({ cls := "com/example/caskwright/caskwright/model/Entry", name := "<init>", desc := "(Ljava/lang/String;[BIJJJJJ)V" } : Jvm.MethodName) prog_52_method_1_code (14 : Nat) (Option.none : Option Jvm.ClassFile.FieldType), Jvm.Cond.code ({ cls := "java/lang/Record", name := "<init>", desc := "()V" } : Jvm.MethodName) jdk_30_method_1_code (1 : Nat) (Option.none : Option Jvm.ClassFile.FieldType), Jvm.Cond.code ({ cls := "com/example/caskwright/caskwright/io/MultiRelease$ViewEntry", name := "<init>", desc := "(Ljava/lang/String;Lcom/example/caskwright/caskwright/model/Entry;)V" } : Jvm.MethodName) prog_37_method_1_code (3 : Nat) (Option.none : Option Jvm.ClassFile.FieldType), Jvm.Cond.code ({ cls := "com/example/caskwright/caskwright/io/MultiRelease$ViewEntry", name := "versioned", desc := "()Z" } : Jvm.MethodName) prog_37_method_2_code (1 : Nat) (Option.some Jvm.ClassFile.FieldType.boolean), Jvm.Cond.code ({ cls := "com/example/caskwright/caskwright/model/Entry", name := "name", desc := "()Ljava/lang/String;" } : Jvm.MethodName) prog_52_method_6_code (1 : Nat) (Option.some (Jvm.ClassFile.FieldType.object "java/lang/String")), Jvm.Cond.code ({ cls := "java/lang/String", name := "equals", desc := "(Ljava/lang/Object;)Z" } : Jvm.MethodName) jdk_42_method_66_code (3 : Nat) (Option.some Jvm.ClassFile.FieldType.boolean), Jvm.Cond.code ({ cls := "java/lang/StringLatin1", name := "equals", desc := "([B[B)Z" } : Jvm.MethodName) jdk_43_method_13_code (3 : Nat) (Option.some Jvm.ClassFile.FieldType.boolean)]
set_option maxRecDepth 65536 in
theorem codes_eq : words1.filter isCode = codes1 := rfl
theorem w_codes : ∀ c ∈ words1.filter isCode, c.before args0 about1 = true := by
  rw [codes_eq]
  intro c hc
  simp only [codes1, List.mem_cons, List.not_mem_nil, or_false] at hc
  rcases hc with rfl | rfl | rfl | rfl | rfl | rfl | rfl | rfl | rfl | rfl | rfl | rfl | rfl | rfl | rfl
  · exact w_c0
  · exact w_c1
  · exact w_c2
  · exact w_c3
  · exact w_c4
  · exact w_c5
  · exact w_c6
  · exact w_c7
  · exact w_c8
  · exact w_c9
  · exact w_c10
  · exact w_c11
  · exact w_c12
  · exact w_c13
  · exact w_c14
set_option maxRecDepth 65536 in
theorem w_t1 : (words1.take 24).all (fun c => isCode c || c.before args0 about1) = true := by decide +kernel
set_option maxRecDepth 65536 in
theorem w_t2 : ((words1.drop 24).take 24).all (fun c => isCode c || c.before args0 about1) = true := by decide +kernel
set_option maxRecDepth 65536 in
theorem w_t3 : (((words1.drop 24).drop 24).take 24).all (fun c => isCode c || c.before args0 about1) = true := by decide +kernel
set_option maxRecDepth 65536 in
theorem w_t4 : ((((words1.drop 24).drop 24).drop 24).take 24).all (fun c => isCode c || c.before args0 about1) = true := by decide +kernel
set_option maxRecDepth 65536 in
theorem w_t5 : ((((words1.drop 24).drop 24).drop 24).drop 24).all (fun c => isCode c || c.before args0 about1) = true := by decide +kernel
theorem w_tables : (allAtoms (Jvm.Cond.code x code maxLocals ret :: tables_1)).before args0 about1 = true := by
  rw [allAtoms_all]
  show words1.all (fun c => c.before args0 about1) = true
  refine all_split ?_ w_codes
  rw [← List.take_append_drop 24 words1, List.all_append, w_t1, ← List.take_append_drop 24 (words1.drop 24), List.all_append, w_t2, ← List.take_append_drop 24 ((words1.drop 24).drop 24), List.all_append, w_t3, ← List.take_append_drop 24 (((words1.drop 24).drop 24).drop 24), List.all_append, w_t4, w_t5]
  rfl
set_option maxRecDepth 65536 in
theorem w_rest : rest_1_c.before args0 about1 = true := by decide +kernel
set_option maxRecDepth 65536 in
theorem w_case : (Jvm.Cond.and given_1 narrow_1).before args0 about1 = true := by decide +kernel
set_option maxRecDepth 65536 in
theorem w_consts : constsHeld consts_1 about1 := Jvm.Lit.constsHeldB_iff.mp (by decide +kernel)
theorem w_applies : (headSpec (Jvm.Cond.code x code maxLocals ret :: tables_1) room_1).applies x e0.platform about1 = true :=
  (Spec.applies_iff w_frames).mpr ⟨w_running, w_runnable, w_alone, w_named, w_hears, w_ripe, w_room, w_tables⟩
theorem atStart : AtStart classFile x code maxLocals ret World_1 tables_1 room_1 Calls_1 rest_1 Pre_1 launch0 p0 e0 about1 theMethod args0 below0 :=
  ⟨lists_1, trivial, launch0.admits_env _ _ _, launch0.least_env, fairChoices_fair.cas, fairChoices_fair.clock, w_frames, w_args, w_heap, w_applies, ⟨w_consts, trivial⟩, w_rest, w_case⟩
end start1
theorem witness_1 : WitnessClaimed_1 := ⟨start1.p0, start1.e0, start1.about1, start1.theMethod, start1.args0, start1.below0, start1.atStart⟩
end Jvm.Pilot.@@N@@
