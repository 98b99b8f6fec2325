import JvmDerived
import JvmDerived.Pilot.@@N@@Statement
import JvmDerived.Pilot.@@N@@Code
set_option linter.unusedVariables false
set_option linter.unusedSimpArgs false
/- laws to paste: Road.backV, Road.eqW, Road.codOf (cut by pick.py; bodies as the Statement names them) -/
namespace Jvm.Pilot.@@N@@
namespace StrChars
open Jvm Sem ClassFile Op Lib Jvm.Stand Jvm.Free.XT Jvm.Free.ALB Jvm.Free.JM Jvm.Free
open Jvm.Lib.Cold (StaticIs)
/-- a char array whose places are chars -/
def Ch (a : Addr) (A : Cell) (U : State) : Prop := Arr .char a A U ∧ Typed .char A
theorem Ch.mv {a : Addr} {A : Cell} {U U' : State} (h : Ch a A U) (hal : U.vm.Alike U'.vm) (hh : U'.heap = U.heap) : Ch a A U' := ⟨h.1.mv hal hh, h.2⟩
theorem Ch.keep {a : Addr} {A : Cell} {U U' : State} (h : Ch a A U) (hal : U.vm.Alike U'.vm) (hk : U'.heap[a]? = some A) : Ch a A U' := ⟨h.1.keep hal hk, h.2⟩
/-- what place i of a char[]'s cell holds -/
def cv (A : Cell) (i : Nat) : Int32 := match A.slots[i]? with | some (.int x) => x | _ => 0
theorem Ch.get {a : Addr} {A : Cell} {U : State} (h : Ch a A U) {i : Nat} (hi : i < A.slots.size) : A.slots[i]? = some (.int (cv A i)) := by
  have e := Array.getElem?_eq_getElem hi
  have f := h.2 i _ e
  unfold cv; rw [e]
  generalize A.slots[i] = v at f
  cases v <;> simp [fits] at f ⊢
/-- the byte that i2b leaves of a char -/
def lo8 (x : Int32) : Int32 := x.toInt8.toInt32
theorem fits_lo8 (y : Int32) : fits .byte (.int (lo8 y)) = true := by
  have h1 := y.toInt8.le_toInt
  have h2 := y.toInt8.toInt_lt
  simp only [lo8, fits, Bool.and_eq_true, decide_eq_true_eq, Int32.le_iff_toInt_le, Int8.toInt_toInt32, show (-128 : Int32).toInt = -128 from by decide, show (127 : Int32).toInt = 127 from by decide]
  omega
/-- A' is A but that each place j of lo .. hi - 1 holds f j -/
def Laid (A A' : Cell) (lo hi : Nat) (f : Nat → Value) : Prop := A'.cls = A.cls ∧ A'.vm = A.vm ∧ A'.slots.size = A.slots.size ∧ ∀ i, A'.slots[i]? = if lo ≤ i ∧ i < hi then some (f i) else A.slots[i]?
theorem Laid.zero (A : Cell) (lo : Nat) (f : Nat → Value) : Laid A A lo (lo + 0) f := ⟨rfl, rfl, rfl, fun i => by rw [if_neg (by omega)]⟩
theorem Laid.step {A Ak : Cell} {lo k : Nat} {f : Nat → Value} {v : Value} (h : Laid A Ak lo k f) (hlo : lo ≤ k) (hk : k < Ak.slots.size) (hv : v = f k) : Laid A (Ak.setSlot k v) lo (k + 1) f := by
  refine ⟨h.1, h.2.1, by simpa [Cell.setSlot] using h.2.2.1, fun i => ?_⟩
  by_cases e : k = i
  · subst e; rw [Cell.slots_setSlot_self v hk, if_pos (by omega), hv]
  · rw [Cell.slots_setSlot_ne v e, h.2.2.2 i]
    by_cases q : lo ≤ i ∧ i < k
    · rw [if_pos q, if_pos (by omega)]
    · rw [if_neg q, if_neg (by omega)]
def U16 : String := "java/lang/StringUTF16"
namespace Cmp5
def yN : MethodName := ⟨"java/lang/StringUTF16", "compress", "([CI[BII)I"⟩
abbrev yB : ByteArray := jdk_52_method_21_code
theorem d0 : decode yB 0 = .ok (.iconst 0, 1) := by decide +kernel
theorem d1 : decode yB 1 = .ok (.istore 5, 2) := by decide +kernel
theorem d3 : decode yB 3 = .ok (.iload 5, 2) := by decide +kernel
theorem d5 : decode yB 5 = .ok (.iload 4, 2) := by decide +kernel
theorem d7 : decode yB 7 = .ok (.if_icmp (.ge) 37, 3) := by decide +kernel
theorem d10 : decode yB 10 = .ok (.aload_n 0, 1) := by decide +kernel
theorem d11 : decode yB 11 = .ok (.iload_n 1, 1) := by decide +kernel
theorem d12 : decode yB 12 = .ok (.caload, 1) := by decide +kernel
theorem d13 : decode yB 13 = .ok (.istore 6, 2) := by decide +kernel
theorem d15 : decode yB 15 = .ok (.iload 6, 2) := by decide +kernel
theorem d17 : decode yB 17 = .ok (.sipush 255, 3) := by decide +kernel
theorem d20 : decode yB 20 = .ok (.if_icmp (.le) 6, 3) := by decide +kernel
theorem d26 : decode yB 26 = .ok (.aload_n 2, 1) := by decide +kernel
theorem d27 : decode yB 27 = .ok (.iload_n 3, 1) := by decide +kernel
theorem d28 : decode yB 28 = .ok (.iload 6, 2) := by decide +kernel
theorem d30 : decode yB 30 = .ok (.i2b, 1) := by decide +kernel
theorem d31 : decode yB 31 = .ok (.bastore, 1) := by decide +kernel
theorem d32 : decode yB 32 = .ok (.iinc 1 1, 3) := by decide +kernel
theorem d35 : decode yB 35 = .ok (.iinc 3 1, 3) := by decide +kernel
theorem d38 : decode yB 38 = .ok (.iinc 5 1, 3) := by decide +kernel
theorem d41 : decode yB 41 = .ok (.goto (-38), 3) := by decide +kernel
theorem d44 : decode yB 44 = .ok (.iload 4, 2) := by decide +kernel
theorem d46 : decode yB 46 = .ok (.ireturn, 1) := by decide +kernel
def site : List Cond := []
def tab : Cond := tabOf yN yB 7 (some .int) site
def P (b : Addr) (A : Cell) (d : Addr) (B : Cell) (o q len : Nat) (args : Array Value) (s : State) : Prop := args = #[.ref b, .int (Int32.ofNat o), .ref d, .int (Int32.ofNat q), .int (Int32.ofNat len)] ∧ Ch b A s ∧ Arr .byte d B s ∧ b ≠ d ∧ o + len ≤ A.slots.size ∧ q + len ≤ B.slots.size ∧ ∀ i, i < len → ¬ 255 < cv A (o + i)
def E (b : Addr) (A : Cell) (d : Addr) (B : Cell) (o q len : Nat) (r : Option Value) (s u : State) : Prop := r = some (.int (Int32.ofNat len)) ∧ ∃ B', Put d B' s u ∧ Laid B B' q (q + len) (fun j => Value.int (lo8 (cv A (o + (j - q)))))
/-- no char of the range above 255: len; the places written hold each char's low byte -/
theorem law (l : Launch) (b : Addr) (A : Cell) (d : Addr) (B : Cell) (o q len : Nat) : Law l yN 5 5 0 0 yB 7 (some .int) site (P b A d B o q len) (E b A d B o q len) (copyLocs d q len) 0 0 := by
  refine Law.of_walk (plainFor_of_name (by decide +kernel)) (by decide +kernel) (by decide +kernel) (by decide) (fun _ _ h => by rw [h.1]; rfl) (fun _ U U' hal hh h => ⟨h.1, h.2.1.mv hal hh, h.2.2.1.mv hal hh, h.2.2.2⟩) (fun r U U' V V' h1 hal h2 h => ⟨h.1, h.2.elim fun B' q => ⟨B', q.1.mv h1 h2, q.2⟩⟩) ?_
  intro p e s m args below meth c s₁ X0 hexec hbytes hml hret hlk hnm hown hh0 W hP
  obtain ⟨rfl, hA, hB, hne, l1, l2, hp⟩ := hP
  have c1 : Steps p.tables e below (s₁.setTop (entryFrame m #[.ref b, .int (Int32.ofNat o), .ref d, .int (Int32.ofNat q), .int (Int32.ofNat len)] 7)) (s₁.setTop (mkF m 0 #[.val (.ref b), .val (.int (Int32.ofNat o)), .val (.ref d), .val (.int (Int32.ofNat q)), .val (.int (Int32.ofNat len)), .unset, .unset] [])) := entry rfl
  have hA0 := hA.1.mv X0.warmed.alike hh0
  have hB0 := hB.mv X0.warmed.alike hh0
  have a31 := hA.1.2.2.2
  have c2 : Steps p.tables e below (s₁.setTop (entryFrame m #[.ref b, .int (Int32.ofNat o), .ref d, .int (Int32.ofNat q), .int (Int32.ofNat len)] 7)) (s₁.setTop (mkF m 3 #[.val (.ref b), .val (.int (Int32.ofNat o)), .val (.ref d), .val (.int (Int32.ofNat q)), .val (.int (Int32.ofNat len)), .val (.int 0), .unset] [])) := c1.trans (by
    refine iconstV X0.here hexec rfl 0 (hb hbytes d0) (by decide) ?_
    refine XS.istore X0.here hexec rfl (hb hbytes d1) rfl rfl ?_
    exact Steps.refl _)
  have loop : ∀ (r i : Nat), i + r = len → ∀ (z : Slot), (z = .unset ∨ ∃ w, z = .val w ∧ w.category = 1) → ∀ (Tl : State) (Bk : Cell), Stand p l e { frames := 0, locals := 0, cells := 0, slots := 0 } s m #[.ref b, .int (Int32.ofNat o), .ref d, .int (Int32.ofNat q), .int (Int32.ofNat len)] below meth c Tl ([] ++ copyLocs d q i) 0 0 → Put d Bk s₁ Tl → Laid B Bk q (q + i) (fun j => Value.int (lo8 (cv A (o + (j - q))))) →
      Steps p.tables e below (s₁.setTop (entryFrame m #[.ref b, .int (Int32.ofNat o), .ref d, .int (Int32.ofNat q), .int (Int32.ofNat len)] 7)) (Tl.setTop (mkF m 3 #[.val (.ref b), .val (.int (Int32.ofNat (o + i))), .val (.ref d), .val (.int (Int32.ofNat (q + i))), .val (.int (Int32.ofNat len)), .val (.int (Int32.ofNat i)), z] [])) → ∃ (T' : State) (B' : Cell) (z' : Slot), Stand p l e { frames := 0, locals := 0, cells := 0, slots := 0 } s m #[.ref b, .int (Int32.ofNat o), .ref d, .int (Int32.ofNat q), .int (Int32.ofNat len)] below meth c T' ([] ++ copyLocs d q len) 0 0 ∧ Put d B' s₁ T' ∧ Laid B B' q (q + len) (fun j => Value.int (lo8 (cv A (o + (j - q))))) ∧
      Steps p.tables e below (s₁.setTop (entryFrame m #[.ref b, .int (Int32.ofNat o), .ref d, .int (Int32.ofNat q), .int (Int32.ofNat len)] 7)) (T'.setTop (mkF m 3 #[.val (.ref b), .val (.int (Int32.ofNat (o + len))), .val (.ref d), .val (.int (Int32.ofNat (q + len))), .val (.int (Int32.ofNat len)), .val (.int (Int32.ofNat len)), z'] [])) := by
    intro r
    induction r with
    | zero =>
      intro i hi z hz Tl Bk Xl pl fl cl
      have hil : i = len := by omega
      rw [hil] at Xl fl cl
      exact ⟨Tl, Bk, z, Xl, pl, fl, cl⟩
    | succ r ih =>
      intro i hi z hz Tl Bk Xl pl fl cl
      have all := X0.warmed.alike.symm.trans Xl.warmed.alike
      have hAl := hA0.keep all (pl.other hne hA0.1)
      have hBk := hB0.like all pl.1 fl.1 fl.2.1 fl.2.2.1
      have hlt : q + i < Bk.slots.size := by rw [fl.2.2.1]; omega
      have c3 : Steps p.tables e below (s₁.setTop (entryFrame m #[.ref b, .int (Int32.ofNat o), .ref d, .int (Int32.ofNat q), .int (Int32.ofNat len)] 7)) (Tl.setTop (mkF m 12 #[.val (.ref b), .val (.int (Int32.ofNat (o + i))), .val (.ref d), .val (.int (Int32.ofNat (q + i))), .val (.int (Int32.ofNat len)), .val (.int (Int32.ofNat i)), z] [.int (Int32.ofNat (o + i)), .ref b])) := cl.trans (by
        refine XS.iload Xl.here hexec rfl (hb hbytes d3) rfl ?_
        refine XS.iload Xl.here hexec rfl (hb hbytes d5) rfl ?_
        refine XS.icmpNo Xl.here hexec rfl (hb hbytes d7) rfl (ii_ge_f (lt32 (by omega) (by omega))) ?_
        refine XS.aloadN Xl.here hexec rfl (hb hbytes d10) rfl rfl ?_
        refine XS.iloadN Xl.here hexec rfl (hb hbytes d11) rfl ?_
        exact Steps.refl _)
      have c4 : Steps p.tables e below (s₁.setTop (entryFrame m #[.ref b, .int (Int32.ofNat o), .ref d, .int (Int32.ofNat q), .int (Int32.ofNat len)] 7)) (Tl.setTop (mkF m 13 #[.val (.ref b), .val (.int (Int32.ofNat (o + i))), .val (.ref d), .val (.int (Int32.ofNat (q + i))), .val (.int (Int32.ofNat len)), .val (.int (Int32.ofNat i)), z] [.int (cv A (o + i))])) := c3.trans (by
        refine Xl.aget hexec hAl rfl (hA.get (i := o + i) (by omega)) rfl rfl (hb hbytes d12) ?_
        exact Steps.refl _)
      have c5 : Steps p.tables e below (s₁.setTop (entryFrame m #[.ref b, .int (Int32.ofNat o), .ref d, .int (Int32.ofNat q), .int (Int32.ofNat len)] 7)) (Tl.setTop (mkF m 15 #[.val (.ref b), .val (.int (Int32.ofNat (o + i))), .val (.ref d), .val (.int (Int32.ofNat (q + i))), .val (.int (Int32.ofNat len)), .val (.int (Int32.ofNat i)), .val (.int (cv A (o + i)))] [])) := c4.trans (by
        refine XS.istoreS Xl.here hexec rfl (hb hbytes d13) rfl rfl hz ?_
        exact Steps.refl _)
      have c6 : Steps p.tables e below (s₁.setTop (entryFrame m #[.ref b, .int (Int32.ofNat o), .ref d, .int (Int32.ofNat q), .int (Int32.ofNat len)] 7)) (Tl.setTop (mkF m 31 #[.val (.ref b), .val (.int (Int32.ofNat (o + i))), .val (.ref d), .val (.int (Int32.ofNat (q + i))), .val (.int (Int32.ofNat len)), .val (.int (Int32.ofNat i)), .val (.int (cv A (o + i)))] [.int (lo8 (cv A (o + i))), .int (Int32.ofNat (q + i)), .ref d])) := c5.trans (by
        refine XS.iload Xl.here hexec rfl (hb hbytes d15) rfl ?_
        refine sipushV Xl.here hexec rfl 255 (hb hbytes d17) (by decide) ?_
        refine XS.icmpYes Xl.here hexec rfl (pc0 := 20) rfl (hb hbytes d20) rfl (ii_le_t (hp i (by omega))) (by decide) rfl ?_
        refine XS.aloadN Xl.here hexec rfl (hb hbytes d26) rfl rfl ?_
        refine XS.iloadN Xl.here hexec rfl (hb hbytes d27) rfl ?_
        refine XS.iload Xl.here hexec rfl (hb hbytes d28) rfl ?_
        refine i2b Xl.here hexec rfl (hb hbytes d30) rfl ?_
        exact Steps.refl _)
      obtain ⟨T7, X7, p7, st7⟩ := Xl.aput hexec hBk rfl hlt rfl (fits_lo8 (cv A (o + i))) (g := (mkF m 31 #[.val (.ref b), .val (.int (Int32.ofNat (o + i))), .val (.ref d), .val (.int (Int32.ofNat (q + i))), .val (.int (Int32.ofNat len)), .val (.int (Int32.ofNat i)), .val (.int (cv A (o + i)))] [.int (lo8 (cv A (o + i))), .int (Int32.ofNat (q + i)), .ref d])) rfl (rest := []) rfl (hb hbytes d31)
      have c8 : Steps p.tables e below (s₁.setTop (entryFrame m #[.ref b, .int (Int32.ofNat o), .ref d, .int (Int32.ofNat q), .int (Int32.ofNat len)] 7)) (T7.setTop (mkF m 32 #[.val (.ref b), .val (.int (Int32.ofNat (o + i))), .val (.ref d), .val (.int (Int32.ofNat (q + i))), .val (.int (Int32.ofNat len)), .val (.int (Int32.ofNat i)), .val (.int (cv A (o + i)))] [])) := c6.trans (st7 _ (Steps.refl _))
      have c9 : Steps p.tables e below (s₁.setTop (entryFrame m #[.ref b, .int (Int32.ofNat o), .ref d, .int (Int32.ofNat q), .int (Int32.ofNat len)] 7)) (T7.setTop (mkF m 3 #[.val (.ref b), .val (.int (Int32.ofNat (o + i) + 1)), .val (.ref d), .val (.int (Int32.ofNat (q + i) + 1)), .val (.int (Int32.ofNat len)), .val (.int (Int32.ofNat i + 1)), .val (.int (cv A (o + i)))] [])) := c8.trans (by
        refine iincV X7.here hexec rfl 1 (hb hbytes d32) (by decide) rfl rfl ?_
        refine iincV X7.here hexec rfl 1 (hb hbytes d35) (by decide) rfl rfl ?_
        refine iincV X7.here hexec rfl 1 (hb hbytes d38) (by decide) rfl rfl ?_
        refine XS.goto X7.here hexec rfl (pc0 := 41) rfl (hb hbytes d41) (by decide) rfl ?_
        exact Steps.refl _)
      have c10 : Steps p.tables e below (s₁.setTop (entryFrame m #[.ref b, .int (Int32.ofNat o), .ref d, .int (Int32.ofNat q), .int (Int32.ofNat len)] 7)) (T7.setTop (mkF m 3 #[.val (.ref b), .val (.int (Int32.ofNat (o + (i + 1)))), .val (.ref d), .val (.int (Int32.ofNat (q + (i + 1)))), .val (.int (Int32.ofNat len)), .val (.int (Int32.ofNat (i + 1))), .val (.int (cv A (o + i)))] [])) := by
        have := c9
        rw [succ32, succ32, succ32] at this
        exact this
      exact ih (i + 1) (by omega) _ (Or.inr ⟨_, rfl, rfl⟩) T7 _ (by rw [copyLocs_step, ← List.append_assoc]; exact X7) (pl.trans p7) (fl.step (by omega) hlt (by simp)) c10
  obtain ⟨T9, B9, z9, X9, p9, f9, g9⟩ := loop len 0 (by omega) .unset (Or.inl rfl) s₁ B (by simpa [copyLocs] using X0) ⟨hB0.1, fun _ _ => rfl, rfl⟩ (Laid.zero _ _ _) c2
  have c11 : Steps p.tables e below (s₁.setTop (entryFrame m #[.ref b, .int (Int32.ofNat o), .ref d, .int (Int32.ofNat q), .int (Int32.ofNat len)] 7)) (T9.setTop (mkF m 46 #[.val (.ref b), .val (.int (Int32.ofNat (o + len))), .val (.ref d), .val (.int (Int32.ofNat (q + len))), .val (.int (Int32.ofNat len)), .val (.int (Int32.ofNat len)), z9] [.int (Int32.ofNat len)])) := g9.trans (by
    refine XS.iload X9.here hexec rfl (hb hbytes d3) rfl ?_
    refine XS.iload X9.here hexec rfl (hb hbytes d5) rfl ?_
    refine XS.icmpYes X9.here hexec rfl (pc0 := 7) rfl (hb hbytes d7) rfl (ii_ge_t (nlt32 (by omega) (Nat.le_refl _))) (by decide) rfl ?_
    refine XS.iload X9.here hexec rfl (hb hbytes d44) rfl ?_
    exact Steps.refl _)
  exact ⟨T9, some (.int (Int32.ofNat len)), _, _, _, X9, by simp, rfl, rfl, (fun h => by cases h), ⟨rfl, B9, p9.from hh0, f9⟩, fun fs hl => c11.trans (X9.ireturnOut hexec hret rfl (Or.inl rfl) (hb hbytes d46) hl)⟩
end Cmp5
namespace Cmp3
def yN : MethodName := ⟨"java/lang/StringUTF16", "compress", "([CII)[B"⟩
abbrev yB : ByteArray := jdk_52_method_16_code
theorem d0 : decode yB 0 = .ok (.iload_n 2, 1) := by decide +kernel
theorem d1 : decode yB 1 = .ok (.newarray .byte, 2) := by decide +kernel
theorem d3 : decode yB 3 = .ok (.astore_n 3, 1) := by decide +kernel
theorem d4 : decode yB 4 = .ok (.aload_n 0, 1) := by decide +kernel
theorem d5 : decode yB 5 = .ok (.iload_n 1, 1) := by decide +kernel
theorem d6 : decode yB 6 = .ok (.aload_n 3, 1) := by decide +kernel
theorem d7 : decode yB 7 = .ok (.iconst 0, 1) := by decide +kernel
theorem d8 : decode yB 8 = .ok (.iload_n 2, 1) := by decide +kernel
theorem d9 : decode yB 9 = .ok (.invokestatic 115, 3) := by decide +kernel
theorem d12 : decode yB 12 = .ok (.istore 4, 2) := by decide +kernel
theorem d14 : decode yB 14 = .ok (.iload 4, 2) := by decide +kernel
theorem d16 : decode yB 16 = .ok (.iload_n 2, 1) := by decide +kernel
theorem d17 : decode yB 17 = .ok (.if_icmp (.eq) 40, 3) := by decide +kernel
theorem d57 : decode yB 57 = .ok (.aload_n 3, 1) := by decide +kernel
theorem d58 : decode yB 58 = .ok (.areturn, 1) := by decide +kernel
def site : List Cond := [.arrayClass .byte, Cmp5.tab] ++ staticW U16 115 Cmp5.yN
def tab : Cond := tabOf yN yB 6 (some (.array .byte)) site
def P (b : Addr) (A : Cell) (o len : Nat) (args : Array Value) (s : State) : Prop := args = #[.ref b, .int (Int32.ofNat o), .int (Int32.ofNat len)] ∧ Ch b A s ∧ o + len ≤ A.slots.size ∧ len ≤ 536870912 ∧ ∀ i, i < len → ¬ 255 < cv A (o + i)
def E (b : Addr) (A : Cell) (o len : Nat) (r : Option Value) (s u : State) : Prop := NewArr .byte "[B" len (fun j => .int (lo8 (cv A (o + j)))) r s u ∧ u.heap.size = s.heap.size + 1
/-- no char of the range above 255: a new byte[] of their low bytes -/
theorem law (l : Launch) (b : Addr) (A : Cell) (o len : Nat) : Law l yN 3 3 1 18 yB 6 (some (.array .byte)) site (P b A o len) (E b A o len) [] 1 len := by
  refine Law.of_walk (plainFor_of_name (by decide +kernel)) (by decide +kernel) (by decide +kernel) (by decide) (fun _ _ h => by rw [h.1]; rfl) (fun _ U U' hal hh h => ⟨h.1, h.2.1.mv hal hh, h.2.2⟩) (fun r U U' V V' h1 hal h2 h => ⟨NewArr.mv r U U' V V' h1 hal h2 h.1, by rw [h1, h2]; exact h.2⟩) ?_
  intro p e s m args below meth c s₁ X0 hexec hbytes hml hret hlk hnm hown hh0 W hP
  obtain ⟨rfl, hA, l1, l2, hp⟩ := hP
  have a31 := hA.1.2.2.2
  have c1 : Steps p.tables e below (s₁.setTop (entryFrame m #[.ref b, .int (Int32.ofNat o), .int (Int32.ofNat len)] 6)) (s₁.setTop (mkF m 0 #[.val (.ref b), .val (.int (Int32.ofNat o)), .val (.int (Int32.ofNat len)), .unset, .unset, .unset] [])) := entry rfl
  have c2 : Steps p.tables e below (s₁.setTop (entryFrame m #[.ref b, .int (Int32.ofNat o), .int (Int32.ofNat len)] 6)) (s₁.setTop (mkF m 1 #[.val (.ref b), .val (.int (Int32.ofNat o)), .val (.int (Int32.ofNat len)), .unset, .unset, .unset] [.int (Int32.ofNat len)])) := c1.trans (by
    refine XS.iloadN X0.here hexec rfl (hb hbytes d0) rfl ?_
    exact Steps.refl _)
  obtain ⟨T3, B3, X3, ba3, bs3, bv3, bh3, bf3, st3⟩ := X0.anew hexec (atype := .byte) (wk W (.arrayClass .byte)) rfl (by show len * 1 ≤ _; omega) (by omega) (g := (mkF m 1 #[.val (.ref b), .val (.int (Int32.ofNat o)), .val (.int (Int32.ofNat len)), .unset, .unset, .unset] [.int (Int32.ofNat len)])) rfl (hb hbytes d1) (rest := []) rfl (Nat.le_refl _) (by show 0 + len ≤ len; omega)
  rw [hh0] at ba3 st3
  have kp3 : XT.Kept s T3 := (XT.Kept.of_eq hh0).push bh3
  have hA3 := hA.keep X3.warmed.alike (kp3 _ _ hA.1.1)
  have hne : b ≠ s.heap.size := hA.1.ne
  have c4 : Steps p.tables e below (s₁.setTop (entryFrame m #[.ref b, .int (Int32.ofNat o), .int (Int32.ofNat len)] 6)) (T3.setTop (mkF m 3 #[.val (.ref b), .val (.int (Int32.ofNat o)), .val (.int (Int32.ofNat len)), .unset, .unset, .unset] [.ref s.heap.size])) := c2.trans (st3 _ (Steps.refl _))
  have c5 : Steps p.tables e below (s₁.setTop (entryFrame m #[.ref b, .int (Int32.ofNat o), .int (Int32.ofNat len)] 6)) (T3.setTop (mkF m 9 #[.val (.ref b), .val (.int (Int32.ofNat o)), .val (.int (Int32.ofNat len)), .val (.ref s.heap.size), .unset, .unset] [.int (Int32.ofNat len), .int 0, .ref s.heap.size, .int (Int32.ofNat o), .ref b])) := c4.trans (by
    refine XS.astoreN X3.here hexec rfl (hb hbytes d3) rfl rfl rfl ?_
    refine XS.aloadN X3.here hexec rfl (hb hbytes d4) rfl rfl ?_
    refine XS.iloadN X3.here hexec rfl (hb hbytes d5) rfl ?_
    refine XS.aloadN X3.here hexec rfl (hb hbytes d6) rfl rfl ?_
    refine iconstV X3.here hexec rfl 0 (hb hbytes d7) (by decide) ?_
    refine XS.iloadN X3.here hexec rfl (hb hbytes d8) rfl ?_
    exact Steps.refl _)
  obtain ⟨v6, T6, X6, E6, g6⟩ := X3.callS hexec (Cmp5.law l b A s.heap.size B3 o 0 len) hown (wks W (staticW U16 115 Cmp5.yN)) (wk W Cmp5.tab) (W := 0) (Nat.le_of_ble_eq_true rfl) (Nat.le_of_ble_eq_true rfl) (Nat.le_refl _) (by show 0 + len + 0 ≤ len; omega) (g := (mkF m 9 #[.val (.ref b), .val (.int (Int32.ofNat o)), .val (.int (Int32.ofNat len)), .val (.ref s.heap.size), .unset, .unset] [.int (Int32.ofNat len), .int (Int32.ofNat 0), .ref s.heap.size, .int (Int32.ofNat o), .ref b])) rfl (by rw [hml]; rfl) c5 (argsL := [.ref b, .int (Int32.ofNat o), .ref s.heap.size, .int (Int32.ofNat 0), .int (Int32.ofNat len)]) (rest := []) rfl rfl (by show 2 * 0 + 0 ≤ _; decide) (hb hbytes d9) (⟨rfl, hA3, ba3, hne, l1, by rw [bs3]; simp, hp⟩)
  obtain ⟨rfl, B6, p6, f6⟩ := E6
  have c7 : Steps p.tables e below (s₁.setTop (entryFrame m #[.ref b, .int (Int32.ofNat o), .int (Int32.ofNat len)] 6)) (T6.setTop (mkF m 12 #[.val (.ref b), .val (.int (Int32.ofNat o)), .val (.int (Int32.ofNat len)), .val (.ref s.heap.size), .unset, .unset] [.int (Int32.ofNat len)])) := g6
  have c8 : Steps p.tables e below (s₁.setTop (entryFrame m #[.ref b, .int (Int32.ofNat o), .int (Int32.ofNat len)] 6)) (T6.setTop (mkF m 58 #[.val (.ref b), .val (.int (Int32.ofNat o)), .val (.int (Int32.ofNat len)), .val (.ref s.heap.size), .val (.int (Int32.ofNat len)), .unset] [.ref s.heap.size])) := c7.trans (by
    refine XS.istore X6.here hexec rfl (hb hbytes d12) rfl rfl ?_
    refine XS.iload X6.here hexec rfl (hb hbytes d14) rfl ?_
    refine XS.iloadN X6.here hexec rfl (hb hbytes d16) rfl ?_
    refine XS.icmpYes X6.here hexec rfl (pc0 := 17) rfl (hb hbytes d17) rfl (ii_eq_t rfl) (by decide) rfl ?_
    refine XS.aloadN X6.here hexec rfl (hb hbytes d57) rfl rfl ?_
    exact Steps.refl _)
  have X8 := X6.wide (L' := []) (cells' := 1) (slots' := len) (fun x hx hlt => by
    simp only [List.nil_append, copyLocs, List.mem_map, List.mem_range] at hx
    obtain ⟨i, -, rfl⟩ := hx
    exact absurd hlt (Nat.lt_irrefl _)) (Nat.le_refl _) (by omega)
  exact ⟨T6, some (.ref s.heap.size), _, _, _, X8, rfl, rfl, rfl, (fun h => by cases h), ⟨⟨rfl, B6, ba3.like (X3.warmed.alike.symm.trans X6.warmed.alike) p6.1 f6.1 f6.2.1 f6.2.2.1, f6.2.1.trans bv3, by rw [X6.warmed.alike.findClass, f6.1]; exact bf3, by rw [f6.2.2.1, bs3]; simp, fun j hj => by rw [f6.2.2.2 j, if_pos (by omega)]; rfl, kp3.put p6 (Nat.le_refl _)⟩, by rw [p6.2.2, bh3, hh0]; simp⟩, fun fs hl => c8.trans (X8.areturnOut hexec rfl hret rfl (hb hbytes d58) hl)⟩
end Cmp3
namespace CodL
def yN : MethodName := ⟨"java/lang/StringUTF16", "coderFromArrayLen", "([BI)B"⟩
abbrev yB : ByteArray := jdk_52_method_15_code
theorem d0 : decode yB 0 = .ok (.iload_n 1, 1) := by decide +kernel
theorem d1 : decode yB 1 = .ok (.aload_n 0, 1) := by decide +kernel
theorem d2 : decode yB 2 = .ok (.arraylength, 1) := by decide +kernel
theorem d3 : decode yB 3 = .ok (.isub, 1) := by decide +kernel
theorem d4 : decode yB 4 = .ok (.bipush 31, 2) := by decide +kernel
theorem d6 : decode yB 6 = .ok (.iushr, 1) := by decide +kernel
theorem d7 : decode yB 7 = .ok (.i2b, 1) := by decide +kernel
theorem d8 : decode yB 8 = .ok (.ireturn, 1) := by decide +kernel
def site : List Cond := []
def tab : Cond := tabOf yN yB 2 (some .byte) site
def P (d : Addr) (B : Cell) (args : Array Value) (s : State) : Prop := args = #[.ref d, .int (Int32.ofNat B.slots.size)] ∧ Arr .byte d B s
def E (r : Option Value) (s u : State) : Prop := XT.PureE (some (.int 0)) r s u
/-- an array as long as the number of chars: LATIN1 -/
theorem law (l : Launch) (d : Addr) (B : Cell) : Law l yN 2 2 0 0 yB 2 (some .byte) site (P d B) E [] 0 0 := by
  refine Law.of_walk (plainFor_of_name (by decide +kernel)) (by decide +kernel) (by decide +kernel) (by decide) (fun _ _ h => by rw [h.1]; rfl) (fun _ U U' hal hh h => ⟨h.1, h.2.mv hal hh⟩) (fun r U U' V V' h1 hal h2 h => XT.PureE.mv r U U' V V' h1 hal h2 h) ?_
  intro p e s m args below meth c s₁ X0 hexec hbytes hml hret hlk hnm hown hh0 W hP
  obtain ⟨rfl, hB⟩ := hP
  have hB0 := hB.mv X0.warmed.alike hh0
  have c1 : Steps p.tables e below (s₁.setTop (entryFrame m #[.ref d, .int (Int32.ofNat B.slots.size)] 2)) (s₁.setTop (mkF m 0 #[.val (.ref d), .val (.int (Int32.ofNat B.slots.size))] [])) := entry rfl
  have c2 : Steps p.tables e below (s₁.setTop (entryFrame m #[.ref d, .int (Int32.ofNat B.slots.size)] 2)) (s₁.setTop (mkF m 2 #[.val (.ref d), .val (.int (Int32.ofNat B.slots.size))] [.ref d, .int (Int32.ofNat B.slots.size)])) := c1.trans (by
    refine XS.iloadN X0.here hexec rfl (hb hbytes d0) rfl ?_
    refine XS.aloadN X0.here hexec rfl (hb hbytes d1) rfl rfl ?_
    exact Steps.refl _)
  have c3 : Steps p.tables e below (s₁.setTop (entryFrame m #[.ref d, .int (Int32.ofNat B.slots.size)] 2)) (s₁.setTop (mkF m 8 #[.val (.ref d), .val (.int (Int32.ofNat B.slots.size))] [.int (lo8 (ushr (Int32.ofNat B.slots.size - Int32.ofNat B.slots.size) 31))])) := c2.trans (by
    refine X0.alen hexec hB0 rfl rfl (hb hbytes d2) ?_
    refine XS.isub X0.here hexec rfl (hb hbytes d3) rfl ?_
    refine bipushV X0.here hexec rfl 31 (hb hbytes d4) (by decide) ?_
    refine iushr X0.here hexec rfl (hb hbytes d6) rfl ?_
    refine i2b X0.here hexec rfl (hb hbytes d7) rfl ?_
    exact Steps.refl _)
  have e0 : lo8 (ushr (Int32.ofNat B.slots.size - Int32.ofNat B.slots.size) 31) = 0 := by rw [Int32.sub_self]; decide
  rw [e0] at c3
  exact ⟨s₁, some (.int 0), _, _, _, X0, rfl, rfl, rfl, (fun h => by cases h), ⟨rfl, hh0⟩, fun fs hl => c3.trans (X0.ireturnOut hexec hret rfl (Or.inr (Or.inr (Or.inl rfl))) (hb hbytes d8) hl)⟩
end CodL
/-- the String at a is Latin-1 over a new byte[] (the heap's one new cell): the low bytes of the len chars of A from o on; every cell but a is kept -/
def Got (a : Addr) (D : Cell) (fV fC : Field) (A : Cell) (o len : Nat) (r : Option Value) (s u : State) : Prop := r = none ∧ ∃ D' V : Cell, Blank "java/lang/String" a D' u ∧ Same D D' [fV.slot, fC.slot] ∧ D'.slots[fV.slot]? = some (.ref s.heap.size) ∧ D'.slots[fC.slot]? = some (.int 0) ∧ Arr .byte s.heap.size V u ∧ V.vm = .none ∧ u.vm.findClass "[B" = some V.cls ∧ V.slots.size = len ∧ (∀ j, j < len → V.slots[j]? = some (.int (lo8 (cv A (o + j))))) ∧ (∀ (y : Addr) (c : Cell), y ≠ a → s.heap[y]? = some c → u.heap[y]? = some c) ∧ u.heap.size = s.heap.size + 1
theorem Got.mv {a : Addr} {D A : Cell} {fV fC : Field} {o len : Nat} : ∀ r (U U' V V' : State), U'.heap = U.heap → V.vm.Alike V'.vm → V'.heap = V.heap → Got a D fV fC A o len r U V → Got a D fV fC A o len r U' V' :=
  fun r U U' V V' h1 hal h2 ⟨e0, D', X, a1, a2, a3, a4, a5, a6, a7, a8, a9, a10, a11⟩ => ⟨e0, D', X, a1.mv hal h2, a2, by rw [h1]; exact a3, a4, by rw [h1]; exact a5.mv hal h2, a6, by rw [hal.findClass]; exact a7, a8, a9, by rw [h1, h2]; exact a10, by rw [h1, h2]; exact a11⟩
namespace New4
def yN : MethodName := ⟨"java/lang/String", "<init>", "([CIILjava/lang/Void;)V"⟩
abbrev yB : ByteArray := jdk_42_method_149_code
theorem d0 : decode yB 0 = .ok (.aload_n 0, 1) := by decide +kernel
theorem d1 : decode yB 1 = .ok (.invokespecial 1, 3) := by decide +kernel
theorem d4 : decode yB 4 = .ok (.iload_n 3, 1) := by decide +kernel
theorem d5 : decode yB 5 = .ok (.ifCond (.ne) 22, 3) := by decide +kernel
theorem d27 : decode yB 27 = .ok (.getstatic 38, 3) := by decide +kernel
theorem d30 : decode yB 30 = .ok (.ifCond (.eq) 28, 3) := by decide +kernel
theorem d33 : decode yB 33 = .ok (.aload_n 1, 1) := by decide +kernel
theorem d34 : decode yB 34 = .ok (.iload_n 2, 1) := by decide +kernel
theorem d35 : decode yB 35 = .ok (.iload_n 3, 1) := by decide +kernel
theorem d36 : decode yB 36 = .ok (.invokestatic 177, 3) := by decide +kernel
theorem d39 : decode yB 39 = .ok (.astore 5, 2) := by decide +kernel
theorem d41 : decode yB 41 = .ok (.aload_n 0, 1) := by decide +kernel
theorem d42 : decode yB 42 = .ok (.aload 5, 2) := by decide +kernel
theorem d44 : decode yB 44 = .ok (.iload_n 3, 1) := by decide +kernel
theorem d45 : decode yB 45 = .ok (.invokestatic 47, 3) := by decide +kernel
theorem d48 : decode yB 48 = .ok (.putfield 15, 3) := by decide +kernel
theorem d51 : decode yB 51 = .ok (.aload_n 0, 1) := by decide +kernel
theorem d52 : decode yB 52 = .ok (.aload 5, 2) := by decide +kernel
theorem d54 : decode yB 54 = .ok (.putfield 9, 3) := by decide +kernel
theorem d57 : decode yB 57 = .ok (.return_, 1) := by decide +kernel
def site : List Cond := [.fieldLink "java/lang/String" 38 "java/lang/String" "COMPACT_STRINGS" "Z", Cmp3.tab, CodL.tab, .laysFinal "java/lang/String" "java/lang/String" "value" "[B", .fieldLink "java/lang/String" 9 "java/lang/String" "value" "[B", .laysFinal "java/lang/String" "java/lang/String" "coder" "B", .fieldLink "java/lang/String" 15 "java/lang/String" "coder" "B"] ++ objW "java/lang/String" 1 ++ staticW "java/lang/String" 177 Cmp3.yN ++ staticW "java/lang/String" 47 CodL.yN
def tab : Cond := tabOf yN yB 6 none site
def P (a : Addr) (D : Cell) (fV fC : Field) (b : Addr) (A : Cell) (z : Int32) (o len : Nat) (args : Array Value) (s : State) : Prop := args = #[.ref a, .ref b, .int (Int32.ofNat o), .int (Int32.ofNat len), .null] ∧ Blank "java/lang/String" a D s ∧ Found "java/lang/String" "value" "[B" fV s ∧ Found "java/lang/String" "coder" "B" fC s ∧ Ch b A s ∧ StaticIs s "java/lang/String" "COMPACT_STRINGS" "Z" (.int z) ∧ ¬ z = 0 ∧ 0 < len ∧ o + len ≤ A.slots.size ∧ len ≤ 536870912 ∧ ∀ i, i < len → ¬ 255 < cv A (o + i)
def E (a : Addr) (D : Cell) (fV fC : Field) (A : Cell) (o len : Nat) (r : Option Value) (s u : State) : Prop := Got a D fV fC A o len r s u
/-- len > 0, no char of the range above 255: a Latin-1 String of their low bytes -/
theorem law (l : Launch) (a : Addr) (D : Cell) (fV fC : Field) (b : Addr) (A : Cell) (z : Int32) (o len : Nat) : Law l yN 5 4 2 35 yB 6 none site (P a D fV fC b A z o len) (E a D fV fC A o len) [⟨a, fC.slot⟩, ⟨a, fV.slot⟩] 1 len := by
  refine Law.of_walk (plainFor_of_name (by decide +kernel)) (by decide +kernel) (by decide +kernel) (by decide) (fun _ _ h => by rw [h.1]; rfl) (fun _ U U' hal hh h => ⟨h.1, h.2.1.mv hal hh, h.2.2.1.al hal, h.2.2.2.1.al hal, h.2.2.2.2.1.mv hal hh, h.2.2.2.2.2.1.there hal hh, h.2.2.2.2.2.2⟩) (fun r U U' V V' h1 hal h2 h => Got.mv r U U' V V' h1 hal h2 h) ?_
  intro p e s m args below meth c s₁ X0 hexec hbytes hml hret hlk hnm hown hh0 W hP
  obtain ⟨rfl, hB, f1, f2, hA, s1, hz, l0, l1, l2, hp⟩ := hP
  have a31 := hA.1.2.2.2
  have c1 : Steps p.tables e below (s₁.setTop (entryFrame m #[.ref a, .ref b, .int (Int32.ofNat o), .int (Int32.ofNat len), .null] 6)) (s₁.setTop (mkF m 0 #[.val (.ref a), .val (.ref b), .val (.int (Int32.ofNat o)), .val (.int (Int32.ofNat len)), .val .null, .unset] [])) := entry rfl
  have c2 : Steps p.tables e below (s₁.setTop (entryFrame m #[.ref a, .ref b, .int (Int32.ofNat o), .int (Int32.ofNat len), .null] 6)) (s₁.setTop (mkF m 1 #[.val (.ref a), .val (.ref b), .val (.int (Int32.ofNat o)), .val (.int (Int32.ofNat len)), .val .null, .unset] [.ref a])) := c1.trans (by
    refine XS.aloadN X0.here hexec rfl (hb hbytes d0) rfl rfl ?_
    exact Steps.refl _)
  obtain ⟨T3, X3, q3, st3⟩ := X0.oinit hexec hown (wks W (objW "java/lang/String" 1)) (g := (mkF m 1 #[.val (.ref a), .val (.ref b), .val (.int (Int32.ofNat o)), .val (.int (Int32.ofNat len)), .val .null, .unset] [.ref a])) rfl (by rw [hml]; rfl) (rest := []) rfl (hb hbytes d1) (W := 0) (by show 2 * 0 + 0 ≤ _; decide) (Nat.le_of_ble_eq_true rfl) (Nat.le_of_ble_eq_true rfl)
  have hh3 := q3.trans hh0
  have c4 : Steps p.tables e below (s₁.setTop (entryFrame m #[.ref a, .ref b, .int (Int32.ofNat o), .int (Int32.ofNat len), .null] 6)) (T3.setTop (mkF m 27 #[.val (.ref a), .val (.ref b), .val (.int (Int32.ofNat o)), .val (.int (Int32.ofNat len)), .val .null, .unset] [])) := (c2.trans (st3 _ (Steps.refl _))).trans (by
    refine XS.iloadN X3.here hexec rfl (hb hbytes d4) rfl ?_
    refine XS.ifYes X3.here hexec rfl (pc0 := 5) rfl (hb hbytes d5) rfl (i0_ne_t (nz32 (by omega) l0)) (by decide) rfl ?_
    exact Steps.refl _)
  obtain ⟨T5, X5, q5, st5⟩ := X3.sget hexec hown (wk W (.fieldLink "java/lang/String" 38 "java/lang/String" "COMPACT_STRINGS" "Z")) s1 (fun _ _ h => by rw [hh3]; exact h) (g := (mkF m 27 #[.val (.ref a), .val (.ref b), .val (.int (Int32.ofNat o)), .val (.int (Int32.ofNat len)), .val .null, .unset] [])) rfl (hb hbytes d27)
  have hh5 := q5.trans hh3
  have c6 : Steps p.tables e below (s₁.setTop (entryFrame m #[.ref a, .ref b, .int (Int32.ofNat o), .int (Int32.ofNat len), .null] 6)) (T5.setTop (mkF m 30 #[.val (.ref a), .val (.ref b), .val (.int (Int32.ofNat o)), .val (.int (Int32.ofNat len)), .val .null, .unset] [.int z])) := c4.trans (st5 _ (Steps.refl _))
  have c7 : Steps p.tables e below (s₁.setTop (entryFrame m #[.ref a, .ref b, .int (Int32.ofNat o), .int (Int32.ofNat len), .null] 6)) (T5.setTop (mkF m 36 #[.val (.ref a), .val (.ref b), .val (.int (Int32.ofNat o)), .val (.int (Int32.ofNat len)), .val .null, .unset] [.int (Int32.ofNat len), .int (Int32.ofNat o), .ref b])) := c6.trans (by
    refine XS.ifNo X5.here hexec rfl (hb hbytes d30) rfl (i0_eq_f hz) ?_
    refine XS.aloadN X5.here hexec rfl (hb hbytes d33) rfl rfl ?_
    refine XS.iloadN X5.here hexec rfl (hb hbytes d34) rfl ?_
    refine XS.iloadN X5.here hexec rfl (hb hbytes d35) rfl ?_
    exact Steps.refl _)
  obtain ⟨v8, T8, X8, E8, g8⟩ := X5.callS hexec (Cmp3.law l b A o len) hown (wks W (staticW "java/lang/String" 177 Cmp3.yN)) (wk W Cmp3.tab) (W := 0) (Nat.le_of_ble_eq_true rfl) (Nat.le_of_ble_eq_true rfl) (Nat.le_refl _) (by show 0 + len ≤ len; omega) (g := (mkF m 36 #[.val (.ref a), .val (.ref b), .val (.int (Int32.ofNat o)), .val (.int (Int32.ofNat len)), .val .null, .unset] [.int (Int32.ofNat len), .int (Int32.ofNat o), .ref b])) rfl (by rw [hml]; rfl) c7 (argsL := [.ref b, .int (Int32.ofNat o), .int (Int32.ofNat len)]) (rest := []) rfl rfl (by show 2 * 0 + 0 ≤ _; decide) (hb hbytes d36) (⟨rfl, hA.mv X5.warmed.alike hh5, l1, l2, hp⟩)
  obtain ⟨e8, z8⟩ := E8
  obtain ⟨rfl, N, n1, n2, n3, n4, n5, n6⟩ := NewArr.mv _ T5 s _ _ hh5.symm (Vm.Alike.refl _) rfl e8
  rw [hh5] at z8
  have hB1 := hB.keep X8.warmed.alike (n6 _ _ hB.1)
  have hne : s.heap.size ≠ a := (Nat.ne_of_lt (Array.getElem?_eq_some_iff.mp hB.1).1).symm
  have c9 : Steps p.tables e below (s₁.setTop (entryFrame m #[.ref a, .ref b, .int (Int32.ofNat o), .int (Int32.ofNat len), .null] 6)) (T8.setTop (mkF m 39 #[.val (.ref a), .val (.ref b), .val (.int (Int32.ofNat o)), .val (.int (Int32.ofNat len)), .val .null, .unset] [.ref s.heap.size])) := g8
  have c10 : Steps p.tables e below (s₁.setTop (entryFrame m #[.ref a, .ref b, .int (Int32.ofNat o), .int (Int32.ofNat len), .null] 6)) (T8.setTop (mkF m 45 #[.val (.ref a), .val (.ref b), .val (.int (Int32.ofNat o)), .val (.int (Int32.ofNat len)), .val .null, .val (.ref s.heap.size)] [.int (Int32.ofNat N.slots.size), .ref s.heap.size, .ref a])) := by
    have hc : Steps p.tables e below (s₁.setTop (entryFrame m #[.ref a, .ref b, .int (Int32.ofNat o), .int (Int32.ofNat len), .null] 6)) (T8.setTop (mkF m 45 #[.val (.ref a), .val (.ref b), .val (.int (Int32.ofNat o)), .val (.int (Int32.ofNat len)), .val .null, .val (.ref s.heap.size)] [.int (Int32.ofNat len), .ref s.heap.size, .ref a])) := c9.trans (by
      refine XS.astore X8.here hexec rfl (hb hbytes d39) rfl rfl rfl ?_
      refine XS.aloadN X8.here hexec rfl (hb hbytes d41) rfl rfl ?_
      refine XS.aload X8.here hexec rfl (hb hbytes d42) rfl rfl ?_
      refine XS.iloadN X8.here hexec rfl (hb hbytes d44) rfl ?_
      exact Steps.refl _)
    rw [n4]; exact hc
  obtain ⟨v11, T11, X11, E11, g11⟩ := X8.callS hexec (CodL.law l s.heap.size N) hown (wks W (staticW "java/lang/String" 47 CodL.yN)) (wk W CodL.tab) (W := 1) (Nat.le_of_ble_eq_true rfl) (Nat.le_of_ble_eq_true rfl) (Nat.le_refl _) (by show 0 + len + 0 ≤ len; omega) (g := (mkF m 45 #[.val (.ref a), .val (.ref b), .val (.int (Int32.ofNat o)), .val (.int (Int32.ofNat len)), .val .null, .val (.ref s.heap.size)] [.int (Int32.ofNat N.slots.size), .ref s.heap.size, .ref a])) rfl (by rw [hml]; rfl) c10 (argsL := [.ref s.heap.size, .int (Int32.ofNat N.slots.size)]) (rest := [.ref a]) rfl rfl (by show 2 * 0 + (1 + 0) ≤ _; decide) (hb hbytes d45) (⟨rfl, n1⟩)
  obtain ⟨rfl, q11⟩ := E11
  have hB11 := hB1.mv (X8.warmed.alike.symm.trans X11.warmed.alike) q11
  have c12 : Steps p.tables e below (s₁.setTop (entryFrame m #[.ref a, .ref b, .int (Int32.ofNat o), .int (Int32.ofNat len), .null] 6)) (T11.setTop (mkF m 48 #[.val (.ref a), .val (.ref b), .val (.int (Int32.ofNat o)), .val (.int (Int32.ofNat len)), .val .null, .val (.ref s.heap.size)] [.int 0, .ref a])) := g11
  obtain ⟨T13, X13, p13, bl13, sl13, st13⟩ := X11.finit hexec hown (wk W (.fieldLink "java/lang/String" 15 "java/lang/String" "coder" "B")) (Or.inr ⟨_, (wk W (.laysFinal "java/lang/String" "java/lang/String" "coder" "B"))⟩) (Or.inl ⟨rfl, hnm⟩) f2 (Or.inl rfl) hB11 (t := .byte) (by decide +kernel) rfl (g := (mkF m 48 #[.val (.ref a), .val (.ref b), .val (.int (Int32.ofNat o)), .val (.int (Int32.ofNat len)), .val .null, .val (.ref s.heap.size)] [.int 0, .ref a])) rfl (rest := []) rfl (hb hbytes d48)
  have c14 : Steps p.tables e below (s₁.setTop (entryFrame m #[.ref a, .ref b, .int (Int32.ofNat o), .int (Int32.ofNat len), .null] 6)) (T13.setTop (mkF m 54 #[.val (.ref a), .val (.ref b), .val (.int (Int32.ofNat o)), .val (.int (Int32.ofNat len)), .val .null, .val (.ref s.heap.size)] [.ref s.heap.size, .ref a])) := (c12.trans (st13 _ (Steps.refl _))).trans (by
    refine XS.aloadN X13.here hexec rfl (hb hbytes d51) rfl rfl ?_
    refine XS.aload X13.here hexec rfl (hb hbytes d52) rfl rfl ?_
    exact Steps.refl _)
  obtain ⟨T15, X15, p15, bl15, sl15, st15⟩ := X13.finit hexec hown (wk W (.fieldLink "java/lang/String" 9 "java/lang/String" "value" "[B")) (Or.inr ⟨_, (wk W (.laysFinal "java/lang/String" "java/lang/String" "value" "[B"))⟩) (Or.inl ⟨rfl, hnm⟩) f1 (Or.inl rfl) bl13 (t := (.array .byte)) (by decide +kernel) rfl (g := (mkF m 54 #[.val (.ref a), .val (.ref b), .val (.int (Int32.ofNat o)), .val (.int (Int32.ofNat len)), .val .null, .val (.ref s.heap.size)] [.ref s.heap.size, .ref a])) rfl (rest := []) rfl (hb hbytes d54)
  have c16 : Steps p.tables e below (s₁.setTop (entryFrame m #[.ref a, .ref b, .int (Int32.ofNat o), .int (Int32.ofNat len), .null] 6)) (T15.setTop (mkF m 57 #[.val (.ref a), .val (.ref b), .val (.int (Int32.ofNat o)), .val (.int (Int32.ofNat len)), .val .null, .val (.ref s.heap.size)] [])) := c14.trans (st15 _ (Steps.refl _))
  have ap := apart (Or.inr ⟨_, (wk W (.laysFinal "java/lang/String" "java/lang/String" "value" "[B"))⟩) (Or.inr ⟨_, (wk W (.laysFinal "java/lang/String" "java/lang/String" "coder" "B"))⟩) f1 f2 (t₁ := .array .byte) (t₂ := .byte) (by decide +kernel) (by decide +kernel) (by decide)
  have al := X8.warmed.alike.symm.trans X15.warmed.alike
  have n7 : T11.heap[s.heap.size]? = some N := by rw [q11]; exact n1.1
  exact ⟨T15, none, _, _, _, X15, by simp, rfl, by omega, (fun _ => rfl), ⟨rfl, _, N, bl15, ((Same.refl D _).set _ (by simp)).set _ (by simp), sl15, (Cell.slots_setSlot_ne _ ap).trans sl13, n1.keep al (p15.other hne (p13.other hne n7)), n2, by rw [al.findClass]; exact n3, n4, n5, fun y c h1 h2 => p15.other h1 (p13.other h1 (by rw [q11]; exact n6 y c h2)), by rw [p15.2.2, p13.2.2, q11]; exact z8⟩, fun fs hl => c16.trans (X15.returnOut hexec hret (hb hbytes d57) hl)⟩
end New4
namespace New1
def yN : MethodName := ⟨"java/lang/String", "<init>", "([C)V"⟩
abbrev yB : ByteArray := jdk_42_method_3_code
theorem d0 : decode yB 0 = .ok (.aload_n 0, 1) := by decide +kernel
theorem d1 : decode yB 1 = .ok (.aload_n 1, 1) := by decide +kernel
theorem d2 : decode yB 2 = .ok (.iconst 0, 1) := by decide +kernel
theorem d3 : decode yB 3 = .ok (.aload_n 1, 1) := by decide +kernel
theorem d4 : decode yB 4 = .ok (.arraylength, 1) := by decide +kernel
theorem d5 : decode yB 5 = .ok (.aconst_null, 1) := by decide +kernel
theorem d6 : decode yB 6 = .ok (.invokespecial 27, 3) := by decide +kernel
theorem d9 : decode yB 9 = .ok (.return_, 1) := by decide +kernel
def site : List Cond := [New4.tab] ++ initW "java/lang/String" 27 New4.yN
def tab : Cond := tabOf yN yB 2 none site
def P (a : Addr) (D : Cell) (fV fC : Field) (b : Addr) (A : Cell) (z : Int32) (args : Array Value) (s : State) : Prop := args = #[.ref a, .ref b] ∧ Blank "java/lang/String" a D s ∧ Found "java/lang/String" "value" "[B" fV s ∧ Found "java/lang/String" "coder" "B" fC s ∧ Ch b A s ∧ StaticIs s "java/lang/String" "COMPACT_STRINGS" "Z" (.int z) ∧ ¬ z = 0 ∧ 0 < A.slots.size ∧ A.slots.size ≤ 536870912 ∧ ∀ i, i < A.slots.size → ¬ 255 < cv A i
def E (a : Addr) (D : Cell) (fV fC : Field) (A : Cell) (r : Option Value) (s u : State) : Prop := Got a D fV fC A 0 A.slots.size r s u
/-- new String(chars), not empty, no char above 255: a Latin-1 String of their low bytes -/
theorem law (l : Launch) (a : Addr) (D : Cell) (fV fC : Field) (b : Addr) (A : Cell) (z : Int32) : Law l yN 2 1 3 52 yB 2 none site (P a D fV fC b A z) (E a D fV fC A) [⟨a, fC.slot⟩, ⟨a, fV.slot⟩] 1 A.slots.size := by
  refine Law.of_walk (plainFor_of_name (by decide +kernel)) (by decide +kernel) (by decide +kernel) (by decide) (fun _ _ h => by rw [h.1]; rfl) (fun _ U U' hal hh h => ⟨h.1, h.2.1.mv hal hh, h.2.2.1.al hal, h.2.2.2.1.al hal, h.2.2.2.2.1.mv hal hh, h.2.2.2.2.2.1.there hal hh, h.2.2.2.2.2.2⟩) (fun r U U' V V' h1 hal h2 h => Got.mv r U U' V V' h1 hal h2 h) ?_
  intro p e s m args below meth c s₁ X0 hexec hbytes hml hret hlk hnm hown hh0 W hP
  obtain ⟨rfl, hB, f1, f2, hA, s1, hz, l0, l2, hp⟩ := hP
  have c1 : Steps p.tables e below (s₁.setTop (entryFrame m #[.ref a, .ref b] 2)) (s₁.setTop (mkF m 0 #[.val (.ref a), .val (.ref b)] [])) := entry rfl
  have c2 : Steps p.tables e below (s₁.setTop (entryFrame m #[.ref a, .ref b] 2)) (s₁.setTop (mkF m 6 #[.val (.ref a), .val (.ref b)] [.null, .int (Int32.ofNat A.slots.size), .int 0, .ref b, .ref a])) := c1.trans (by
    refine XS.aloadN X0.here hexec rfl (hb hbytes d0) rfl rfl ?_
    refine XS.aloadN X0.here hexec rfl (hb hbytes d1) rfl rfl ?_
    refine iconstV X0.here hexec rfl 0 (hb hbytes d2) (by decide) ?_
    refine XS.aloadN X0.here hexec rfl (hb hbytes d3) rfl rfl ?_
    refine X0.alen hexec (hA.1.mv X0.warmed.alike hh0) rfl rfl (hb hbytes d4) ?_
    refine XS.aconstNull X0.here hexec rfl (hb hbytes d5) ?_
    exact Steps.refl _)
  obtain ⟨v3, T3, X3, E3, g3⟩ := X0.callN hexec (New4.law l a D fV fC b A z 0 A.slots.size) rfl hown (wks W (initW "java/lang/String" 27 New4.yN)) (W New4.tab (by simp only [site, List.mem_cons, List.mem_append, true_or, or_true])) (W := 0) (Nat.le_of_ble_eq_true rfl) (Nat.le_of_ble_eq_true rfl) (Nat.le_refl _) (by show 0 + A.slots.size ≤ A.slots.size; omega) (g := (mkF m 6 #[.val (.ref a), .val (.ref b)] [.null, .int (Int32.ofNat A.slots.size), .int (Int32.ofNat 0), .ref b, .ref a])) rfl (by rw [hml]; rfl) c2 (argsL := [.ref b, .int (Int32.ofNat 0), .int (Int32.ofNat A.slots.size), .null]) (rest := []) rfl rfl (by show 2 * 0 + 0 ≤ _; decide) (hb hbytes d6) (⟨rfl, hB.mv X0.warmed.alike hh0, f1.al X0.warmed.alike, f2.al X0.warmed.alike, hA.mv X0.warmed.alike hh0, s1.there X0.warmed.alike hh0, hz, l0, by omega, l2, fun i hi => by rw [Nat.zero_add]; exact hp i hi⟩)
  have e0 := Got.mv _ s₁ s _ _ hh0.symm (Vm.Alike.refl _) rfl E3
  obtain rfl := e0.1
  have c4 : Steps p.tables e below (s₁.setTop (entryFrame m #[.ref a, .ref b] 2)) (T3.setTop (mkF m 9 #[.val (.ref a), .val (.ref b)] [])) := g3
  exact ⟨T3, none, _, _, _, X3, by simp, rfl, by omega, (fun _ => rfl), e0, fun fs hl => c4.trans (X3.returnOut hexec hret (hb hbytes d9) hl)⟩
theorem pays {l : Launch} {R : Room} {p : Program} {e : Env} {below : List Frame} {s : State} {sargs : Array Value} {len W : Nat} (a : Addr) (D : Cell) (fV fC : Field) (b : Addr) (A : Cell) (z : Int32) (htab : tab.before sargs s = true) (hfr : 4 ≤ R.frames) (hlo : W + 65 ≤ R.locals) :
    Back l R p e below s sargs yN len W (fun A₁ a₁ => A₁.cells + 1 ≤ R.cells ∧ A₁.slots + A.slots.size ≤ R.slots ∧ P a D fV fC b A z a₁ A₁.U) (fun A₁ _ v₁ B₁ => E a D fV fC A v₁ A₁.U B₁.U ∧ B₁.locs = A₁.locs ++ [⟨a, fC.slot⟩, ⟨a, fV.slot⟩] ∧ B₁.cells = A₁.cells + 1 ∧ B₁.slots = A₁.slots + A.slots.size) :=
  (law l a D fV fC b A z).pays htab hfr (by omega)
end New1
/-- the byte, read back as charAt reads it, is the char -/
theorem lo8_mask {x : Int32} (h0 : ¬ x < 0) (h1 : ¬ 255 < x) : lo8 x &&& 255 = x := by
  have t : ∀ k : Fin 256, lo8 (Int32.ofNat k.val) &&& 255 = Int32.ofNat k.val := by decide +kernel
  rw [Int32.lt_iff_toInt_lt] at h0 h1
  have e0 : (0 : Int32).toInt = 0 := rfl
  have e1 : (255 : Int32).toInt = 255 := rfl
  obtain ⟨k, hk⟩ : ∃ k : Nat, x.toInt = k := ⟨x.toInt.toNat, by omega⟩
  have hx : x = Int32.ofNat k := Int32.toInt_inj.mp (by rw [hk, Int32.toInt_ofNat_small (by omega)])
  rw [hx]
  exact t ⟨k, by omega⟩
end StrChars
namespace StrChars.Road
open Jvm Sem ClassFile Op Lib Jvm.Stand Jvm.Free Jvm.Free.XT
open Jvm.Lib.Cold (StaticIs)
abbrev ST : String := "java/lang/String"
/-- every table word that New1's law asks, flat -/
abbrev words : List Jvm.Cond := [.code New1.yN New1.yB 2 none, .initialized ST, .methodLink ST 27 New4.yN, .instanceMethod New4.yN,
  .code New4.yN New4.yB 6 none, .fieldLink ST 38 ST "COMPACT_STRINGS" "Z", .laysFinal ST ST "value" "[B", .fieldLink ST 9 ST "value" "[B", .laysFinal ST ST "coder" "B", .fieldLink ST 15 ST "coder" "B",
  .methodLink ST 1 Lib.objectInit, .instanceMethod Lib.objectInit, .code Lib.objectInit ⟨#[0xb1]⟩ 1 none, .methodLink ST 177 Cmp3.yN, .static Cmp3.yN, .methodLink ST 47 CodL.yN, .static CodL.yN,
  .code Cmp3.yN Cmp3.yB 6 (some (.array .byte)), .initialized U16, .arrayClass .byte, .methodLink U16 115 Cmp5.yN, .static Cmp5.yN, .code Cmp5.yN Cmp5.yB 7 (some .int), .code CodL.yN CodL.yB 2 (some .byte)]
theorem tab_of {a : Array Value} {s : State} (h : ∀ w ∈ words, w.before a s = true) : New1.tab.before a s = true := by
  have h5 : Cmp5.tab.before a s = true := unparts (wk h (.code Cmp5.yN Cmp5.yB 7 (some .int))) (wks h (.initialized Cmp5.yN.cls :: Cmp5.site))
  have hc : CodL.tab.before a s = true := unparts (wk h (.code CodL.yN CodL.yB 2 (some .byte))) (wks h (.initialized CodL.yN.cls :: CodL.site))
  have q5 : ∀ w ∈ Cmp5.tab :: words, w.before a s = true := fun w hw => (List.mem_cons.mp hw).elim (fun e => e ▸ h5) (h w)
  have h3 : Cmp3.tab.before a s = true := unparts (wk q5 (.code Cmp3.yN Cmp3.yB 6 (some (.array .byte)))) (wks q5 (.initialized Cmp3.yN.cls :: Cmp3.site))
  have q3 : ∀ w ∈ Cmp3.tab :: CodL.tab :: words, w.before a s = true := fun w hw => (List.mem_cons.mp hw).elim (fun e => e ▸ h3) fun hw => (List.mem_cons.mp hw).elim (fun e => e ▸ hc) (h w)
  have h4 : New4.tab.before a s = true := unparts (wk q3 (.code New4.yN New4.yB 6 none)) (wks q3 (.initialized New4.yN.cls :: New4.site))
  have q4 : ∀ w ∈ New4.tab :: words, w.before a s = true := fun w hw => (List.mem_cons.mp hw).elim (fun e => e ▸ h4) (h w)
  exact unparts (wk q4 (.code New1.yN New1.yB 2 none)) (wks q4 (.initialized New1.yN.cls :: New1.site))
/-- the words ride from the start Z to the walk's own state -/
theorem moved {Z s : State} {a0 args : Array Value} (hZ : Z.Warmed39 s.vm) (hw : ∀ d ∈ words, d.before a0 Z = true) : ∀ d ∈ words, d.before args s = true := fun d hd => by
  have q := hw d hd
  have t : ∀ d ∈ words, d = .arrayClass .byte ∨ (d.onTables && d.keepsFace) = true := by decide +kernel
  rcases t d hd with rfl | t
  · exact RoadKit.mvA hZ q
  · exact RoadKit.mv hZ q t
/-- WHAT COMES BACK, over the tables of the start Z: h the heap at the call, h' behind it -/
def Q (Z : State) (x : Addr) (A : Cell) (h : Heap) (v : Option Value) (h' : Heap) (L : List Loc) : Prop := v = none ∧ (∀ y ∈ L, y.base = x) ∧ RoadKit.Keep h h' [x] ∧ h'.size = h.size + 1 ∧ RoadKit.Exa Z h' x ST ∧ RoadKit.Fld Z h' x ST "value" "[B" (.ref h.size) ∧ RoadKit.Fld Z h' x ST "coder" "B" (.int 0) ∧
  (∃ V : Cell, RoadKit.Arr Z h' h.size V .byte ∧ V.vm = .none ∧ Z.vm.findClass "[B" = some V.cls ∧ V.slots.size = A.slots.size ∧ ∀ j, j < A.slots.size → V.slots[j]? = some (.int (lo8 (cv A j)))) ∧
  ∀ (O n d : String) (w : Value), RoadKit.Fld Z h x O n d w → RoadKit.slotOf Z O n d ≠ RoadKit.slotOf Z ST "value" "[B" → RoadKit.slotOf Z O n d ≠ RoadKit.slotOf Z ST "coder" "B" → RoadKit.Fld Z h' x O n d w
/-- **new String(chars) AT A CALL, IN THE ROAD'S FORM**: for specialBack behind newO: x the fresh String, b the char[] with the cell A -/
theorem back {p : Program} {l : Launch} {e : Env} {R : Room} {s : State} {args : Array Value} {below : List Frame} {len W : Nat} {Z : State} {a0 : Array Value} {h : Heap} (hZ : Z.Warmed39 s.vm) (hw : ∀ d ∈ words, d.before a0 Z = true) {kI : Nat} (wi : (Jvm.Cond.instantiable ST kI).before a0 Z = true)
    {x b : Addr} {A : Cell} {z : Int32} {v0 c0 : Value} (E : RoadKit.Exa Z h x ST) (V : RoadKit.Fld Z h x ST "value" "[B" v0) (C : RoadKit.Fld Z h x ST "coder" "B" c0) (K : RoadKit.Arr Z h b A .char) (hty : Typed .char A) (S : RoadKit.Sta Z h ST "COMPACT_STRINGS" "Z" (.int z)) (hz : ¬ z = 0)
    (l0 : 0 < A.slots.size) (l2 : A.slots.size ≤ 536870912) (hp : ∀ i, i < A.slots.size → ¬ 255 < cv A i) (hfr : 4 ≤ R.frames) (hlo : W + 65 ≤ R.locals) :
    Back l R p e below s args New1.yN len W (fun P a => a = #[.ref x, .ref b] ∧ P.U.heap = h ∧ P.cells + 1 ≤ R.cells ∧ P.slots + A.slots.size ≤ R.slots)
      (fun P _ v B => ∃ L, Q Z x A h v B.U.heap L ∧ B.locs = P.locs ++ L ∧ B.cells = P.cells + 1 ∧ B.slots = P.slots + A.slots.size) := by
  intro m meth c P g ig mk a X hg hsize hdg hW hn hp'
  obtain ⟨rfl, rfl, r1, r2⟩ := hp'
  have al : Z.vm.Alike P.U.vm := hZ.alike.trans X.warmed.alike
  obtain ⟨D, cfV, kV, iV, fV, hD, gV, stV, knV, obV, asV, slV⟩ := id V
  obtain ⟨D', cfC, kC, iC, fC, hD', gC, stC, -, -, asC, slC⟩ := id C
  cases hD.symm.trans hD'
  obtain ⟨D2, kD, e1, e2, e3, e4, e5⟩ := id E
  cases hD.symm.trans e1
  obtain ⟨c2, k2, i1, i2, i3, -⟩ := Cond.instantiable_spec wi
  cases e2.symm.trans i1
  cases e3.symm.trans i2
  obtain ⟨kU, u1, u2⟩ := al.2.2 _ _ e3
  have hB : Blank ST x D P.U := ⟨hD, ⟨knV, fun q hq => by rw [hq] at obV; cases obV⟩, by rw [al.findClass]; exact e2, kU, u1, by rw [u2]; exact i3, by rw [u2]; exact e5 i3⟩
  have F1 : Found ST "value" "[B" fV P.U := ⟨SBG.found_only al ⟨cfV, kV, iV, gV⟩, stV⟩
  have F2 : Found ST "coder" "B" fC P.U := ⟨SBG.found_only al ⟨cfC, kC, iC, gC⟩, stC⟩
  have hA : Ch b A P.U := ⟨⟨K.1, State.isArrayOf_alike al K.2.1, K.2.2, by omega⟩, hty⟩
  have hS : StaticIs P.U ST "COMPACT_STRINGS" "Z" (.int z) := by
    obtain ⟨cfS, iS, kS, fS, st, cS, t1, t2, t3, t4, t5, t6, t7⟩ := S
    exact StaticIs.there (s := { Z with heap := P.U.heap }) ⟨cfS, iS, kS, fS, st, cS, t1, t2, t3, t4, t5, (fun q => by rw [q] at t6; cases t6), t7⟩ al rfl
  obtain ⟨v, B, X', ⟨⟨hv, E', V', q1, q2, q3, q4, q5, q6, q7, q8, q9, q10, q11⟩, hl, hc, hs⟩, st⟩ := New1.pays x D fV fC b A z (tab_of (moved hZ hw)) hfr hlo m meth c P g ig mk _ X hg hsize hdg hW hn ⟨r1, r2, rfl, hB, F1, F2, hA, hS, hz, l0, l2, hp⟩
  have al' : Z.vm.Alike B.U.vm := hZ.alike.trans X'.warmed.alike
  have hsz : E'.slots.size = D.slots.size := by
    obtain ⟨-, -, -, kB, w1, w2, w3⟩ := q1
    obtain ⟨kB', y1, y2⟩ := al'.2.2 _ _ e3
    rw [q2.2.1] at w1
    cases w1.symm.trans y1
    rw [w3, e5 i3, y2]
  refine ⟨v, B, X', ⟨_, ⟨hv, ?_, ⟨by omega, fun y cy hy hn' => q10 y cy (by simpa using hn') hy, fun y cy hy => ?_⟩, q11, ⟨E', _, q1.1, by rw [q2.2.1]; exact e2, by rw [q2.2.1]; exact e3, by rw [q2.1]; exact obV, fun _ => by rw [hsz]; exact e5 i3⟩,
    ⟨E', cfV, kV, iV, fV, q1.1, gV, stV, by rw [q2.1]; exact knV, by rw [q2.1]; exact obV, by rw [q2.2.1]; exact asV, q3⟩, ⟨E', cfC, kC, iC, fC, q1.1, gC, stC, by rw [q2.1]; exact knV, by rw [q2.1]; exact obV, by rw [q2.2.1]; exact asC, q4⟩,
    ⟨V', ⟨q5.1, State.isArrayOf_alike al'.symm q5.2.1, q5.2.2.1⟩, q6, by rw [← al'.findClass]; exact q7, q8, fun j hj => by have := q9 j hj; rwa [Nat.zero_add] at this⟩, fun O n d w F n1 n2 => ?_⟩, hl, hc, hs⟩, st⟩
  · intro y hy
    simp only [List.mem_cons, List.not_mem_nil, or_false] at hy
    rcases hy with rfl | rfl <;> rfl
  · by_cases q : y = x
    · subst q
      cases hD.symm.trans hy
      exact ⟨E', q1.1, q2.2.1, q2.1, hsz⟩
    · exact ⟨cy, q10 y cy q hy, rfl, rfl, rfl⟩
  · obtain ⟨D3, cf, k, i, f, g1, g2, g3, g4, g5, g6, g7⟩ := F
    cases hD.symm.trans g1
    simp only [RoadKit.slotOf, g2, gV, gC, Option.map_some, Option.getD_some] at n1 n2
    exact ⟨E', cf, k, i, f, q1.1, g2, g3, by rw [q2.1]; exact g4, by rw [q2.1]; exact g5, by rw [q2.2.1]; exact g6, by rw [q2.2.2 f.slot (by simp [n1, n2])]; exact g7⟩
end StrChars.Road
namespace StrChars.Road
open Jvm Sem ClassFile Op Lib Jvm.Stand Jvm.Free Jvm.Free.XT
/-- WHAT COMES BACK, the byte[] as a list of values -/
def QA (Z : State) (x : Addr) (zn : Int32) (cs : List Int32) (h : Heap) (v : Option Value) (h' : Heap) (L : List Loc) : Prop := v = none ∧ (∀ y ∈ L, y.base = x) ∧ RoadKit.Keep h h' [x] ∧ h'.size = h.size + 1 ∧ RoadKit.Exa Z h' x ST ∧ RoadKit.Fld Z h' x ST "value" "[B" (.ref h.size) ∧ RoadKit.Fld Z h' x ST "coder" "B" (.int 0) ∧
  (∃ kb, Z.vm.findClass "[B" = some kb ∧ RoadKit.Arv Z h' h.size kb .byte zn (cs.map fun c => .int (lo8 c)) (.int 0)) ∧
  ∀ (O n d : String) (w : Value), RoadKit.Fld Z h x O n d w → RoadKit.slotOf Z O n d ≠ RoadKit.slotOf Z ST "value" "[B" → RoadKit.slotOf Z O n d ≠ RoadKit.slotOf Z ST "coder" "B" → RoadKit.Fld Z h' x O n d w
/-- **new String(chars) AT A CALL, THE ARRAYS AS LISTS**: the char[] at b holds cs, not empty, no char above 255 -/
theorem backArv {p : Program} {l : Launch} {e : Env} {R : Room} {s : State} {args : Array Value} {below : List Frame} {len W : Nat} {Z : State} {a0 : Array Value} {h : Heap} (hZ : Z.Warmed39 s.vm) (hw : ∀ d ∈ words, d.before a0 Z = true) {kI : Nat} (wi : (Jvm.Cond.instantiable ST kI).before a0 Z = true)
    {x b : Addr} {k : ClassId} {zn z : Int32} {cs : List Int32} {dv v0 c0 : Value} (E : RoadKit.Exa Z h x ST) (V : RoadKit.Fld Z h x ST "value" "[B" v0) (C : RoadKit.Fld Z h x ST "coder" "B" c0) (K : RoadKit.Arv Z h b k .char zn (cs.map Value.int) dv) (S : RoadKit.Sta Z h ST "COMPACT_STRINGS" "Z" (.int z)) (hz : ¬ z = 0)
    (hlen : zn.toNatClampNeg = cs.length) (h0 : 0 < cs.length) (hbig : cs.length ≤ 536870912) (hall : ∀ c ∈ cs, ¬ 255 < c) (hfr : 4 ≤ R.frames) (hlo : W + 65 ≤ R.locals) :
    Back l R p e below s args New1.yN len W (fun P a => a = #[.ref x, .ref b] ∧ P.U.heap = h ∧ P.cells + 1 ≤ R.cells ∧ P.slots + cs.length ≤ R.slots)
      (fun P _ v B => ∃ L, QA Z x zn cs h v B.U.heap L ∧ B.locs = P.locs ++ L ∧ B.cells = P.cells + 1 ∧ B.slots = P.slots + cs.length) := by
  obtain ⟨A, K1, K2, K3, K4, K5, K6⟩ := K
  have e : A.slots.size = cs.length := K3.trans hlen
  have hat : ∀ (i : Nat) (hi : i < cs.length), A.slots[i]? = some (.int cs[i]) := fun i hi => by rw [K5 i (by omega)]; simp [List.getD_eq_getElem?_getD, hi]
  have hcv : ∀ (i : Nat) (hi : i < cs.length), cv A i = cs[i] := fun i hi => by unfold cv; rw [hat i hi]
  have hty : Typed .char A := fun i v hv => by
    have hi : i < A.slots.size := (Array.getElem?_eq_some_iff.mp hv).1
    have q := K5 i hi
    rw [hv] at q
    rw [Option.some.inj q]
    exact K6 i hi
  refine Back.mono (back hZ hw wi E V C K1 hty S hz (by omega) (by omega) (fun i hi => by rw [hcv i (by omega)]; exact hall _ (List.getElem_mem _)) hfr hlo) (fun P a hp => ⟨hp.1, hp.2.1, hp.2.2.1, by rw [e]; exact hp.2.2.2⟩) (fun P a v B hp hq => ?_)
  obtain ⟨L, ⟨q1, q2, q3, q4, q5, q6, q7, ⟨V', v1, v2, v3, v4, v5⟩, q9⟩, hl, hc, hs⟩ := hq
  refine ⟨L, ⟨q1, q2, q3, q4, q5, q6, q7, ⟨V'.cls, v3, V', v1, rfl, by rw [v4, e, hlen], K4, fun i hi => ?_, fun i hi => ?_⟩, q9⟩, hl, hc, by rw [hs, e]⟩
  · have hi' : i < cs.length := by omega
    rw [v5 i (by omega), hcv i hi']; simp [List.getD_eq_getElem?_getD, hi']
  · have hi' : i < cs.length := by omega
    simp only [List.getD_eq_getElem?_getD, List.getElem?_map, List.getElem?_eq_getElem hi', Option.map_some, Option.getD_some]
    exact fits_lo8 _
end StrChars.Road
namespace StrChars.Road
open Jvm Sem ClassFile Op Lib Jvm.Stand Jvm.Free Jvm.Free.XT
/-- WHAT COMES BACK, in the writer's own shape -/
def QV (Z : State) (x : Addr) (N : Int32) (bs : List Int32) (h : Heap) (n0 : Nat) (v : Option Value) (h' : Heap) (L : List Loc) : Prop := v = none ∧ RoadKit.Fr n0 L ∧ RoadKit.Keep h h' [x] ∧ RoadKit.Exa Z h' x ST ∧ RoadKit.Fld Z h' x ST "coder" "B" (.int 0) ∧
  ∃ (t : Addr) (kb : ClassId), n0 ≤ t ∧ h.size ≤ t ∧ ¬ t = x ∧ RoadKit.Fld Z h' x ST "value" "[B" (.ref t) ∧ RoadKit.Arv Z h' t kb .byte N (bs.map Value.int) (.int 0)
/-- **new String(chars) AT A CALL, FOR THE WRITER**: a char[] of n known ints, each 0 to 255 -/
theorem backV {p : Program} {l : Launch} {e : Env} {R : Room} {s : State} {args : Array Value} {below : List Frame} {len W : Nat} {Z : State} {a0 : Array Value} {h : Heap} (hZ : Z.Warmed39 s.vm) (hw : ∀ d ∈ words, d.before a0 Z = true) {kI : Nat} (wi : (Jvm.Cond.instantiable ST kI).before a0 Z = true)
    {x b : Addr} {kC : ClassId} {cs bs : List Int32} {d v0 c0 : Value} {z N : Int32} {n n0 : Nat} (hx0 : n0 ≤ x) (hh0 : n0 ≤ h.size) (E : RoadKit.Exa Z h x ST) (V : RoadKit.Fld Z h x ST "value" "[B" v0) (C : RoadKit.Fld Z h x ST "coder" "B" c0) (K : RoadKit.Arv Z h b kC .char N (cs.map Value.int) d) (S : RoadKit.Sta Z h ST "COMPACT_STRINGS" "Z" (.int z)) (hz : ¬ z = 0)
    (hn : cs.length = n) (hN : N = Int32.ofNat n) (l0 : 0 < n) (l2 : n ≤ 4000) (hp : ∀ c ∈ cs, ¬ c < 0 ∧ ¬ (255 : Int32) < c) (hb : bs = cs.map (fun c => c.toInt8.toInt32)) (hfr : 4 ≤ R.frames) (hlo : W + 65 ≤ R.locals) :
    Back l R p e below s args (⟨"java/lang/String", "<init>", "([C)V"⟩ : MethodName) len W (fun P a => a = #[.ref x, .ref b] ∧ P.U.heap = h ∧ P.cells + 1 ≤ R.cells ∧ P.slots + n ≤ R.slots)
      (fun P _ v B => ∃ L, QV Z x N bs h n0 v B.U.heap L ∧ B.locs = P.locs ++ L ∧ B.cells = P.cells + 1 ∧ B.slots = P.slots + n) := by
  subst hn hN hb
  refine Back.mono (backArv hZ hw wi E V C K S hz (n32 (by omega)) l0 (by omega) (fun c hc => (hp c hc).2) hfr hlo) (fun P a hp => hp) (fun P a v B hp hq => ?_)
  obtain ⟨L, ⟨q1, q2, q3, q4, q5, q6, q7, ⟨kb, v1, v2⟩, q9⟩, hl, hc, hs⟩ := hq
  exact ⟨L, ⟨q1, fun y hy => by rw [q2 y hy]; exact hx0, q3, q5, q7, h.size, kb, hh0, Nat.le_refl _, Nat.ne_of_gt E.lt, q6, by rw [List.map_map]; exact v2⟩, hl, hc, hs⟩
end StrChars.Road
namespace StrChars
open Jvm Sem ClassFile Op Lib Jvm.Stand Jvm.Free.XT Jvm.Free.ALB Jvm.Free.JM Jvm.Free
open Jvm.Lib.Cold (StaticIs)
def hi8 (x : Int32) : Int32 := lo8 (x >>> ((8 : Int32) &&& 31))
/-- what StringUTF16.getChar makes of two bytes -/
def pairCh (u v : Int32) : Int32 := (((u &&& 255) <<< ((0 : Int32) &&& 31)) ||| ((v &&& 255) <<< ((8 : Int32) &&& 31))).toUInt32.toUInt16.toUInt32.toInt32
theorem lo8_and (x : Int32) : (lo8 x &&& 255).toBitVec.toNat = x.toBitVec.toNat % 256 := by
  have h : (lo8 x).toBitVec = (x.toBitVec.signExtend 8).signExtend 32 := by rw [lo8, Int8.toBitVec_toInt32, Int32.toBitVec_toInt8]
  rw [Int32.toBitVec_and, BitVec.toNat_and, h]
  have e : ((x.toBitVec.signExtend 8).signExtend 32).toNat % 256 = x.toBitVec.toNat % 256 := by
    rw [BitVec.toNat_signExtend]
    have hlt := x.toBitVec.isLt
    simp only [BitVec.toNat_setWidth, BitVec.toNat_signExtend]
    split <;> split <;> omega
  rw [← e]
  exact Nat.and_two_pow_sub_one_eq_mod _ 8
theorem pair_says {c : Int32} (h0 : ¬ c < 0) (h1 : ¬ 65535 < c) : pairCh (lo8 c) (hi8 c) = c := by
  rw [Int32.lt_iff_toInt_lt] at h0 h1
  have e0 : (0 : Int32).toInt = 0 := rfl
  have e1 : (65535 : Int32).toInt = 65535 := rfl
  have hc : c.toInt = c.toBitVec.toNat := by
    have := c.toBitVec.isLt
    have e : c.toInt = c.toBitVec.toInt := rfl
    rw [e] at h0 h1
    rw [e]
    rw [BitVec.toInt_eq_toNat_cond] at h0 h1 ⊢
    split at h0 <;> split <;> omega
  have hn : c.toBitVec.toNat < 65536 := by omega
  have a1 := lo8_and c
  have a2 : (hi8 c &&& 255).toBitVec.toNat = c.toBitVec.toNat / 256 := by
    rw [hi8, lo8_and]
    have e : ((8 : Int32) &&& 31) = 8 := by decide
    rw [e, Int32.toBitVec_shiftRight]
    have e2 : ((8 : Int32).toBitVec.smod 32) = 8#32 := by decide
    rw [e2, BitVec.sshiftRight_eq', BitVec.toNat_sshiftRight_of_msb_false (by rw [BitVec.msb_eq_false_iff_two_mul_lt]; omega)]
    show c.toBitVec.toNat >>> 8 % 256 = _
    rw [Nat.shiftRight_eq_div_pow]
    omega
  unfold pairCh
  apply Int32.toBitVec_inj.mp
  apply BitVec.eq_of_toNat_eq
  have f0 : ((0 : Int32) &&& 31) = 0 := by decide
  have f8 : ((8 : Int32) &&& 31) = 8 := by decide
  rw [f0, f8]
  have g : (((lo8 c &&& 255) <<< (0 : Int32)) ||| ((hi8 c &&& 255) <<< (8 : Int32))).toBitVec.toNat = c.toBitVec.toNat := by
    rw [Int32.toBitVec_or, Int32.toBitVec_shiftLeft, Int32.toBitVec_shiftLeft]
    have s0 : ((0 : Int32).toBitVec.smod 32) = 0#32 := by decide
    have s8 : ((8 : Int32).toBitVec.smod 32) = 8#32 := by decide
    rw [s0, s8, BitVec.toNat_or]
    simp only [BitVec.shiftLeft_eq', BitVec.toNat_shiftLeft, a1, a2]
    show (c.toBitVec.toNat % 256) <<< 0 % 2 ^ 32 ||| (c.toBitVec.toNat / 256) <<< 8 % 2 ^ 32 = _
    rw [Nat.shiftLeft_zero, Nat.mod_eq_of_lt (show c.toBitVec.toNat % 256 < 2 ^ 32 by omega), Nat.mod_eq_of_lt (show (c.toBitVec.toNat / 256) <<< 8 < 2 ^ 32 by rw [Nat.shiftLeft_eq]; omega), Nat.or_comm, ← Nat.shiftLeft_add_eq_or_of_lt (by omega), Nat.shiftLeft_eq]
    omega
  show BitVec.toNat (((((lo8 c &&& 255) <<< (0 : Int32)) ||| ((hi8 c &&& 255) <<< (8 : Int32))).toBitVec.setWidth 16).setWidth 32) = _
  rw [BitVec.toNat_setWidth, BitVec.toNat_setWidth, g]
  omega
end StrChars
namespace StrChars
open Jvm Sem ClassFile Op Lib Jvm.Stand Jvm.Free.XT Jvm.Free.ALB Jvm.Free.JM Jvm.Free
open Jvm.Lib.Cold (StaticIs)
/-- the array's cell V codes the n chars f 0 .. f (n - 1) by the coder cd, as the JDK does: coder 1 just where some char is above 255 -/
def Cod (cd : Int32) (n : Nat) (f : Nat → Int32) (V : Cell) : Prop := (cd = 0 ∧ V.slots.size = n ∧ ∀ j, j < n → V.slots[j]? = some (.int (lo8 (f j))) ∧ ¬ 255 < f j) ∨ (cd = 1 ∧ V.slots.size = 2 * n ∧ (∀ j, j < n → V.slots[2 * j]? = some (.int (lo8 (f j))) ∧ V.slots[2 * j + 1]? = some (.int (hi8 (f j)))) ∧ ∃ j, j < n ∧ 255 < f j)
/-- **x is a String of the n chars f 0 .. f (n - 1)**, Latin-1 or UTF-16; its array at t has the cell V -/
def Txt (x t : Addr) (V : Cell) (cd : Int32) (n : Nat) (f : Nat → Int32) (U : State) : Prop := Exact "java/lang/String" x U ∧ Has x "java/lang/String" "value" "[B" (.ref t) U ∧ Has x "java/lang/String" "coder" "B" (.int cd) U ∧ XT.Arr .byte t V U ∧ Cod cd n f V ∧ ∀ j, j < n → ¬ f j < 0 ∧ ¬ 65535 < f j
theorem Txt.mv {x t : Addr} {V : Cell} {cd : Int32} {n : Nat} {f : Nat → Int32} {U U' : State} (h : Txt x t V cd n f U) (hal : U.vm.Alike U'.vm) (hh : U'.heap = U.heap) : Txt x t V cd n f U' := ⟨h.1.mv hal hh, h.2.1.mv hal hh, h.2.2.1.mv hal hh, h.2.2.2.1.mv hal hh, h.2.2.2.2⟩
end StrChars
namespace StrChars.Road
open Jvm Sem ClassFile Op Lib Jvm.Stand Jvm.Free Jvm.Free.XT
open Jvm.Lib.Cold (StaticIs)
theorem consq {a : Array Value} {s : State} {c : Jvm.Cond} {L : List Jvm.Cond} (h0 : c.before a s = true) (h : ∀ w ∈ L, w.before a s = true) : ∀ w ∈ c :: L, w.before a s = true := fun w hw => (List.mem_cons.mp hw).elim (fun e => e ▸ h0) (h w)
/-- the bytes of the chars cs, low before high -/
def wideBytes : List Int32 → List Value
  | [] => []
  | c :: cs => .int (lo8 c) :: .int (hi8 c) :: wideBytes cs
theorem wide_lo (d : Value) : ∀ (cs : List Int32) (j : Nat), j < cs.length → (wideBytes cs).getD (2 * j) d = .int (lo8 (cs.getD j 0))
  | [], j, h => absurd h (Nat.not_lt_zero j)
  | c :: cs, 0, _ => rfl
  | c :: cs, j + 1, h => by
    have q := wide_lo d cs j (by simpa using h)
    rw [show 2 * (j + 1) = 2 * j + 1 + 1 from by omega]
    simpa [wideBytes] using q
theorem wide_hi (d : Value) : ∀ (cs : List Int32) (j : Nat), j < cs.length → (wideBytes cs).getD (2 * j + 1) d = .int (hi8 (cs.getD j 0))
  | [], j, h => absurd h (Nat.not_lt_zero j)
  | c :: cs, 0, _ => rfl
  | c :: cs, j + 1, h => by
    have q := wide_hi d cs j (by simpa using h)
    rw [show 2 * (j + 1) + 1 = 2 * j + 1 + 1 + 1 from by omega]
    simpa [wideBytes] using q
theorem low_at (d : Value) (cs : List Int32) (j : Nat) (h : j < cs.length) : (cs.map fun c => Value.int (lo8 c)).getD j d = .int (lo8 (cs.getD j 0)) := by
  simp [List.getD_eq_getElem?_getD, h]
/-- an array of N2 bytes vs codes the chars cs by the coder cd -/
def CodA (cs : List Int32) (cd N2 : Int32) (vs : List Value) : Prop := (cd = 0 ∧ N2 = Int32.ofNat cs.length ∧ vs = (cs.map fun c => Value.int (lo8 c)) ∧ ∀ c ∈ cs, ¬ 255 < c) ∨ (cd = 1 ∧ N2 = Int32.ofNat (2 * cs.length) ∧ vs = wideBytes cs ∧ ∃ c ∈ cs, 255 < c)
theorem CodA.cod {cs : List Int32} {cd N2 : Int32} {vs : List Value} {V : Cell} (h : CodA cs cd N2 vs) (hn : 2 * cs.length < 2 ^ 31) (hs : V.slots.size = N2.toNatClampNeg) (hv : RoadKit.Has V vs (.int 0)) : Cod cd cs.length (fun j => cs.getD j 0) V := by
  rcases h with ⟨rfl, rfl, rfl, h⟩ | ⟨rfl, rfl, rfl, c, hc, hw⟩
  · rw [n32 (by omega)] at hs
    exact Or.inl ⟨rfl, hs, fun j hj => ⟨by rw [hv j (by omega), low_at _ _ _ hj], by
      have e : cs.getD j 0 = cs[j] := by simp [List.getD_eq_getElem?_getD, hj]
      show ¬ 255 < cs.getD j 0
      rw [e]; exact h _ (List.getElem_mem _)⟩⟩
  · rw [n32 (by omega)] at hs
    obtain ⟨j, hj, rfl⟩ := List.getElem_of_mem hc
    exact Or.inr ⟨rfl, hs, fun j hj => ⟨by rw [hv _ (by omega), wide_lo _ _ _ hj], by rw [hv _ (by omega), wide_hi _ _ _ hj]⟩, j, hj, by
      have e : cs.getD j 0 = cs[j] := by simp [List.getD_eq_getElem?_getD, hj]
      show 255 < cs.getD j 0
      rw [e]; exact hw⟩
/-- an object of exactly java/lang/String, its two fields found: as the laws ask it -/
theorem strObj {Z U : State} {a0 : Array Value} {kI : Nat} (wi : (Jvm.Cond.instantiable ST kI).before a0 Z = true) (al : Z.vm.Alike U.vm) {x : Addr} {v0 c0 : Value} (E : RoadKit.Exa Z U.heap x ST) (V : RoadKit.Fld Z U.heap x ST "value" "[B" v0) (C : RoadKit.Fld Z U.heap x ST "coder" "B" c0) :
    ∃ (D : Cell) (fV fC : Field), Blank ST x D U ∧ Found ST "value" "[B" fV U ∧ Found ST "coder" "B" fC U ∧ D.slots[fV.slot]? = some v0 ∧ D.slots[fC.slot]? = some c0 ∧ RoadKit.slotOf Z ST "value" "[B" = fV.slot ∧ RoadKit.slotOf Z ST "coder" "B" = fC.slot := by
  obtain ⟨D, cfV, kV, iV, fV, hD, gV, stV, knV, obV, asV, slV⟩ := V
  obtain ⟨D', cfC, kC, iC, fC, hD', gC, stC, -, -, asC, slC⟩ := C
  cases hD.symm.trans hD'
  obtain ⟨D2, kD, e1, e2, e3, e4, e5⟩ := E
  cases hD.symm.trans e1
  obtain ⟨c2, k2, i1, i2, i3, -⟩ := Cond.instantiable_spec wi
  cases e2.symm.trans i1
  cases e3.symm.trans i2
  obtain ⟨kU, u1, u2⟩ := al.2.2 _ _ e3
  exact ⟨D, fV, fC, ⟨hD, ⟨knV, fun q hq => by rw [hq] at obV; cases obV⟩, by rw [al.findClass]; exact e2, kU, u1, by rw [u2]; exact i3, by rw [u2]; exact e5 i3⟩, ⟨SBG.found_only al ⟨cfV, kV, iV, gV⟩, stV⟩, ⟨SBG.found_only al ⟨cfC, kC, iC, gC⟩, stC⟩, slV, slC, by simp [RoadKit.slotOf, gV], by simp [RoadKit.slotOf, gC]⟩
theorem sta_is {Z U : State} (al : Z.vm.Alike U.vm) {C n d : String} {v : Value} (S : RoadKit.Sta Z U.heap C n d v) : StaticIs U C n d v := by
  obtain ⟨cfS, iS, kS, fS, st, cS, t1, t2, t3, t4, t5, t6, t7⟩ := S
  exact StaticIs.there (s := { Z with heap := U.heap }) ⟨cfS, iS, kS, fS, st, cS, t1, t2, t3, t4, t5, (fun q => by rw [q] at t6; cases t6), t7⟩ al rfl
end StrChars.Road
namespace StrChars
open Jvm Sem ClassFile Op Lib Jvm.Stand Jvm.Free.XT Jvm.Free.ALB Jvm.Free.JM Jvm.Free
open Jvm.Lib.Cold (StaticIs)
/-- what place i of a byte[]'s cell holds -/
def yv (A : Cell) (i : Nat) : Int32 := match A.slots[i]? with | some (.int x) => x | _ => 0
theorem yv_get {a : Addr} {A : Cell} {U : State} (h : XT.Arr .byte a A U) (ht : Typed .byte A) {i : Nat} (hi : i < A.slots.size) : A.slots[i]? = some (.int (yv A i)) := by
  have e := Array.getElem?_eq_getElem hi
  have f := ht i _ e
  unfold yv; rw [e]
  generalize A.slots[i] = v at f
  cases v <;> simp [fits] at f ⊢
/-- the two arrays are equal, place for place -/
def EqC (A B : Cell) : Prop := A.slots.size = B.slots.size ∧ ∀ i, i < A.slots.size → yv A i = yv B i
/-- a boolean that says whether p -/
def Says01 (q : Prop) (r : Option Value) (s u : State) : Prop := ∃ v : Int32, r = some (.int v) ∧ u.heap = s.heap ∧ ((v = 1 ∧ q) ∨ (v = 0 ∧ ¬ q))
theorem Says01.mv {q : Prop} : ∀ r (U U' V V' : State), U'.heap = U.heap → V.vm.Alike V'.vm → V'.heap = V.heap → Says01 q r U V → Says01 q r U' V' :=
  fun r U U' V V' h1 _ h2 ⟨v, a, b, c⟩ => ⟨v, a, by rw [h1, h2]; exact b, c⟩
namespace LEq
def yN : MethodName := ⟨"java/lang/StringLatin1", "equals", "([B[B)Z"⟩
abbrev yB : ByteArray := jdk_43_method_13_code
theorem d0 : decode yB 0 = .ok (.aload_n 0, 1) := by decide +kernel
theorem d1 : decode yB 1 = .ok (.arraylength, 1) := by decide +kernel
theorem d2 : decode yB 2 = .ok (.aload_n 1, 1) := by decide +kernel
theorem d3 : decode yB 3 = .ok (.arraylength, 1) := by decide +kernel
theorem d4 : decode yB 4 = .ok (.if_icmp (.ne) 30, 3) := by decide +kernel
theorem d7 : decode yB 7 = .ok (.iconst 0, 1) := by decide +kernel
theorem d8 : decode yB 8 = .ok (.istore_n 2, 1) := by decide +kernel
theorem d9 : decode yB 9 = .ok (.iload_n 2, 1) := by decide +kernel
theorem d10 : decode yB 10 = .ok (.aload_n 0, 1) := by decide +kernel
theorem d11 : decode yB 11 = .ok (.arraylength, 1) := by decide +kernel
theorem d12 : decode yB 12 = .ok (.if_icmp (.ge) 20, 3) := by decide +kernel
theorem d15 : decode yB 15 = .ok (.aload_n 0, 1) := by decide +kernel
theorem d16 : decode yB 16 = .ok (.iload_n 2, 1) := by decide +kernel
theorem d17 : decode yB 17 = .ok (.baload, 1) := by decide +kernel
theorem d18 : decode yB 18 = .ok (.aload_n 1, 1) := by decide +kernel
theorem d19 : decode yB 19 = .ok (.iload_n 2, 1) := by decide +kernel
theorem d20 : decode yB 20 = .ok (.baload, 1) := by decide +kernel
theorem d21 : decode yB 21 = .ok (.if_icmp (.eq) 5, 3) := by decide +kernel
theorem d24 : decode yB 24 = .ok (.iconst 0, 1) := by decide +kernel
theorem d25 : decode yB 25 = .ok (.ireturn, 1) := by decide +kernel
theorem d26 : decode yB 26 = .ok (.iinc 2 1, 3) := by decide +kernel
theorem d29 : decode yB 29 = .ok (.goto (-20), 3) := by decide +kernel
theorem d32 : decode yB 32 = .ok (.iconst 1, 1) := by decide +kernel
theorem d33 : decode yB 33 = .ok (.ireturn, 1) := by decide +kernel
theorem d34 : decode yB 34 = .ok (.iconst 0, 1) := by decide +kernel
theorem d35 : decode yB 35 = .ok (.ireturn, 1) := by decide +kernel
def site : List Cond := []
def tab : Cond := tabOf yN yB 3 (some .boolean) site
def P (a : Addr) (A : Cell) (b : Addr) (B : Cell) (args : Array Value) (s : State) : Prop := args = #[.ref a, .ref b] ∧ XT.Arr .byte a A s ∧ Typed .byte A ∧ XT.Arr .byte b B s ∧ Typed .byte B
/-- whether two byte[] are equal, place for place -/
theorem law (l : Launch) (a : Addr) (A : Cell) (b : Addr) (B : Cell) : Law l yN 2 2 0 0 yB 3 (some .boolean) site (P a A b B) (Says01 (EqC A B)) [] 0 0 := by
  refine Law.of_walk (plainFor_of_name (by decide +kernel)) (by decide +kernel) (by decide +kernel) (by decide) (fun _ _ h => by rw [h.1]; rfl) (fun _ U U' hal hh h => ⟨h.1, h.2.1.mv hal hh, h.2.2.1, h.2.2.2.1.mv hal hh, h.2.2.2.2⟩) (fun r U U' V V' h1 hal h2 h => Says01.mv r U U' V V' h1 hal h2 h) ?_
  intro p e s m args below meth c s₁ X0 hexec hbytes hml hret hlk hnm hown hh0 W hP
  obtain ⟨rfl, hA, tA, hB, tB⟩ := hP
  have a31 := hA.2.2.2
  have b31 := hB.2.2.2
  have hA0 := hA.mv X0.warmed.alike hh0
  have hB0 := hB.mv X0.warmed.alike hh0
  have c1 : Steps p.tables e below (s₁.setTop (entryFrame m #[.ref a, .ref b] 3)) (s₁.setTop (mkF m 0 #[.val (.ref a), .val (.ref b), .unset] [])) := entry rfl
  have c2 : Steps p.tables e below (s₁.setTop (entryFrame m #[.ref a, .ref b] 3)) (s₁.setTop (mkF m 4 #[.val (.ref a), .val (.ref b), .unset] [.int (Int32.ofNat B.slots.size), .int (Int32.ofNat A.slots.size)])) := c1.trans (by
    refine XS.aloadN X0.here hexec rfl (hb hbytes d0) rfl rfl ?_
    refine X0.alen hexec hA0 rfl rfl (hb hbytes d1) ?_
    refine XS.aloadN X0.here hexec rfl (hb hbytes d2) rfl rfl ?_
    refine X0.alen hexec hB0 rfl rfl (hb hbytes d3) ?_
    exact Steps.refl _)
  by_cases hs : A.slots.size = B.slots.size
  · have c3 : Steps p.tables e below (s₁.setTop (entryFrame m #[.ref a, .ref b] 3)) (s₁.setTop (mkF m 9 #[.val (.ref a), .val (.ref b), .val (.int 0)] [])) := c2.trans (by
      refine XS.icmpNo X0.here hexec rfl (hb hbytes d4) rfl (ii_ne_f (by rw [hs])) ?_
      refine iconstV X0.here hexec rfl 0 (hb hbytes d7) (by decide) ?_
      refine XS.istoreN X0.here hexec rfl (hb hbytes d8) rfl rfl ?_
      exact Steps.refl _)
    have loop : ∀ (r i : Nat), i + r = A.slots.size → (∀ j, j < i → yv A j = yv B j) → Steps p.tables e below (s₁.setTop (entryFrame m #[.ref a, .ref b] 3)) (s₁.setTop (mkF m 9 #[.val (.ref a), .val (.ref b), .val (.int (Int32.ofNat i))] [])) → ∃ (pc : Nat) (Ls : Array Slot) (v : Int32), (pc = 25 ∨ pc = 33) ∧ ((v = 1 ∧ EqC A B) ∨ (v = 0 ∧ ¬ EqC A B)) ∧ Steps p.tables e below (s₁.setTop (entryFrame m #[.ref a, .ref b] 3)) (s₁.setTop (mkF m pc Ls [.int v])) := by
      intro r
      induction r with
      | zero =>
        intro i hi he cl
        exact ⟨33, _, 1, Or.inr rfl, Or.inl ⟨rfl, hs, fun j hj => he j (by omega)⟩, cl.trans (by
          refine XS.iloadN X0.here hexec rfl (hb hbytes d9) rfl ?_
          refine XS.aloadN X0.here hexec rfl (hb hbytes d10) rfl rfl ?_
          refine X0.alen hexec hA0 rfl rfl (hb hbytes d11) ?_
          refine XS.icmpYes X0.here hexec rfl (pc0 := 12) rfl (hb hbytes d12) rfl (ii_ge_t (nlt32 (by omega) (by omega))) (by decide) rfl ?_
          refine iconstV X0.here hexec rfl 1 (hb hbytes d32) (by decide) ?_
          exact Steps.refl _)⟩
      | succ r ih =>
        intro i hi he cl
        have c4 : Steps p.tables e below (s₁.setTop (entryFrame m #[.ref a, .ref b] 3)) (s₁.setTop (mkF m 21 #[.val (.ref a), .val (.ref b), .val (.int (Int32.ofNat i))] [.int (yv B i), .int (yv A i)])) := cl.trans (by
          refine XS.iloadN X0.here hexec rfl (hb hbytes d9) rfl ?_
          refine XS.aloadN X0.here hexec rfl (hb hbytes d10) rfl rfl ?_
          refine X0.alen hexec hA0 rfl rfl (hb hbytes d11) ?_
          refine XS.icmpNo X0.here hexec rfl (hb hbytes d12) rfl (ii_ge_f (lt32 (by omega) (by omega))) ?_
          refine XS.aloadN X0.here hexec rfl (hb hbytes d15) rfl rfl ?_
          refine XS.iloadN X0.here hexec rfl (hb hbytes d16) rfl ?_
          refine X0.aget hexec hA0 rfl (yv_get hA tA (i := i) (by omega)) rfl rfl (hb hbytes d17) ?_
          refine XS.aloadN X0.here hexec rfl (hb hbytes d18) rfl rfl ?_
          refine XS.iloadN X0.here hexec rfl (hb hbytes d19) rfl ?_
          refine X0.aget hexec hB0 rfl (yv_get hB tB (i := i) (by omega)) rfl rfl (hb hbytes d20) ?_
          exact Steps.refl _)
        by_cases hv : yv A i = yv B i
        · have c5 : Steps p.tables e below (s₁.setTop (entryFrame m #[.ref a, .ref b] 3)) (s₁.setTop (mkF m 9 #[.val (.ref a), .val (.ref b), .val (.int (Int32.ofNat i + 1))] [])) := c4.trans (by
            refine XS.icmpYes X0.here hexec rfl (pc0 := 21) rfl (hb hbytes d21) rfl (ii_eq_t hv) (by decide) rfl ?_
            refine iincV X0.here hexec rfl 1 (hb hbytes d26) (by decide) rfl rfl ?_
            refine XS.goto X0.here hexec rfl (pc0 := 29) rfl (hb hbytes d29) (by decide) rfl ?_
            exact Steps.refl _)
          rw [succ32] at c5
          exact ih (i + 1) (by omega) (fun j hj => by
            by_cases e : j = i
            · rw [e]; exact hv
            · exact he j (by omega)) c5
        · exact ⟨25, _, 0, Or.inl rfl, Or.inr ⟨rfl, fun q => hv (q.2 i (by omega))⟩, c4.trans (by
            refine XS.icmpNo X0.here hexec rfl (hb hbytes d21) rfl (ii_eq_f hv) ?_
            refine iconstV X0.here hexec rfl 0 (hb hbytes d24) (by decide) ?_
            exact Steps.refl _)⟩
    obtain ⟨pc, Ls, v, hpc, hv, cz⟩ := loop A.slots.size 0 (by omega) (fun j hj => absurd hj (Nat.not_lt_zero j)) c3
    have nv : narrow .boolean (.int v) = .int v := by rcases hv with ⟨rfl, -⟩ | ⟨rfl, -⟩ <;> rfl
    rcases hpc with rfl | rfl
    · exact ⟨s₁, some (.int v), _, _, _, X0, rfl, rfl, rfl, (fun h => by cases h), ⟨v, rfl, hh0, hv⟩, fun fs hl => cz.trans (X0.ireturnOut hexec hret nv (Or.inr (Or.inl rfl)) (hb hbytes d25) hl)⟩
    · exact ⟨s₁, some (.int v), _, _, _, X0, rfl, rfl, rfl, (fun h => by cases h), ⟨v, rfl, hh0, hv⟩, fun fs hl => cz.trans (X0.ireturnOut hexec hret nv (Or.inr (Or.inl rfl)) (hb hbytes d33) hl)⟩
  · have c3 : Steps p.tables e below (s₁.setTop (entryFrame m #[.ref a, .ref b] 3)) (s₁.setTop (mkF m 35 #[.val (.ref a), .val (.ref b), .unset] [.int 0])) := c2.trans (by
      refine XS.icmpYes X0.here hexec rfl (pc0 := 4) rfl (hb hbytes d4) rfl (ii_ne_t (ne32 a31 b31 hs)) (by decide) rfl ?_
      refine iconstV X0.here hexec rfl 0 (hb hbytes d34) (by decide) ?_
      exact Steps.refl _)
    exact ⟨s₁, some (.int 0), _, _, _, X0, rfl, rfl, rfl, (fun h => by cases h), ⟨0, rfl, hh0, Or.inr ⟨rfl, fun q => hs q.1⟩⟩, fun fs hl => c3.trans (X0.ireturnOut hexec hret rfl (Or.inr (Or.inl rfl)) (hb hbytes d35) hl)⟩
end LEq
theorem Cod.ty {cd : Int32} {n : Nat} {f : Nat → Int32} {V : Cell} (h : Cod cd n f V) : Typed .byte V := fun i v hv => by
  have hi : i < V.slots.size := (Array.getElem?_eq_some_iff.mp hv).1
  rcases h with ⟨-, k1, k2⟩ | ⟨-, k1, k2, -⟩
  · rw [(k2 i (by omega)).1] at hv; cases hv; exact fits_lo8 _
  · rcases Nat.mod_two_eq_zero_or_one i with e | e
    · obtain ⟨j, rfl⟩ : ∃ j, i = 2 * j := ⟨i / 2, by omega⟩
      rw [(k2 j (by omega)).1] at hv; cases hv; exact fits_lo8 _
    · obtain ⟨j, rfl⟩ : ∃ j, i = 2 * j + 1 := ⟨i / 2, by omega⟩
      rw [(k2 j (by omega)).2] at hv; cases hv; exact fits_lo8 _
/-- the same text -/
def SameT (n : Nat) (f : Nat → Int32) (k : Nat) (g : Nat → Int32) : Prop := n = k ∧ ∀ j, j < n → f j = g j
theorem lo8_inj {x y : Int32} (h0 : ¬ x < 0) (h1 : ¬ 255 < x) (k0 : ¬ y < 0) (k1 : ¬ 255 < y) (h : lo8 x = lo8 y) : x = y := by
  rw [← lo8_mask h0 h1, ← lo8_mask k0 k1, h]
/-- arrays coded by one coder are equal just where the texts are -/
theorem Cod.eqv {cd : Int32} {n k : Nat} {f g : Nat → Int32} {V V' : Cell} (h : Cod cd n f V) (h' : Cod cd k g V') (hf : ∀ j, j < n → ¬ f j < 0 ∧ ¬ 65535 < f j) (hg : ∀ j, j < k → ¬ g j < 0 ∧ ¬ 65535 < g j) : EqC V V' ↔ SameT n f k g := by
  have yvv : ∀ {W : Cell} {i : Nat} {x : Int32}, W.slots[i]? = some (.int x) → yv W i = x := fun q => by unfold yv; rw [q]
  rcases h with ⟨rfl, k1, k2⟩ | ⟨rfl, k1, k2, -⟩
  · rcases h' with ⟨-, m1, m2⟩ | ⟨e, -⟩
    · constructor
      · rintro ⟨e1, e2⟩
        refine ⟨by omega, fun j hj => ?_⟩
        have q := e2 j (by omega)
        rw [yvv (k2 j hj).1, yvv (m2 j (by omega)).1] at q
        exact lo8_inj (hf j hj).1 (k2 j hj).2 (hg j (by omega)).1 (m2 j (by omega)).2 q
      · rintro ⟨rfl, e2⟩
        refine ⟨by omega, fun j hj => ?_⟩
        rw [yvv (k2 j (by omega)).1, yvv (m2 j (by omega)).1, e2 j (by omega)]
    · exact absurd e (by decide)
  · rcases h' with ⟨e, -⟩ | ⟨-, m1, m2, -⟩
    · exact absurd e (by decide)
    · constructor
      · rintro ⟨e1, e2⟩
        refine ⟨by omega, fun j hj => ?_⟩
        have q1 := e2 (2 * j) (by omega)
        have q2 := e2 (2 * j + 1) (by omega)
        rw [yvv (k2 j hj).1, yvv (m2 j (by omega)).1] at q1
        rw [yvv (k2 j hj).2, yvv (m2 j (by omega)).2] at q2
        rw [← pair_says (hf j hj).1 (hf j hj).2, ← pair_says (hg j (by omega)).1 (hg j (by omega)).2, q1, q2]
      · rintro ⟨rfl, e2⟩
        refine ⟨by omega, fun i hi => ?_⟩
        rcases Nat.mod_two_eq_zero_or_one i with e | e
        · obtain ⟨j, rfl⟩ : ∃ j, i = 2 * j := ⟨i / 2, by omega⟩
          rw [yvv (k2 j (by omega)).1, yvv (m2 j (by omega)).1, e2 j (by omega)]
        · obtain ⟨j, rfl⟩ : ∃ j, i = 2 * j + 1 := ⟨i / 2, by omega⟩
          rw [yvv (k2 j (by omega)).2, yvv (m2 j (by omega)).2, e2 j (by omega)]
/-- two codings differ: so do the texts -/
theorem Cod.dif {cd cd' : Int32} {n k : Nat} {f g : Nat → Int32} {V V' : Cell} (h : Cod cd n f V) (h' : Cod cd' k g V') (hne : ¬ cd = cd') : ¬ SameT n f k g := by
  rintro ⟨rfl, e⟩
  rcases h with ⟨rfl, -, k2⟩ | ⟨rfl, -, -, j, hj, hw⟩
  · rcases h' with ⟨rfl, -⟩ | ⟨-, -, -, j, hj, hw⟩
    · exact hne rfl
    · exact (k2 j hj).2 (by rw [e j hj]; exact hw)
  · rcases h' with ⟨-, -, m2⟩ | ⟨rfl, -⟩
    · exact (m2 j hj).2 (by rw [← e j hj]; exact hw)
    · exact hne rfl
/-- an object of exactly C is an instance of C -/
theorem cinst {p : Program} {l : Launch} {e : Env} {R : Room} {s : State} {m : MethodId} {args : Array Value} {below : List Frame} {meth : Method} {c : Code} {T : State} {locs : List Loc} {cells slots : Nat} (X : Stand p l e R s m args below meth c T locs cells slots) (hexec : p.tables.exec = Jvm.exec) {own C : String} {index : Nat} (hown : s.vm.findClass own = some m.cls) (hlink : (Cond.classLink own index C).before args s = true) {a : Addr} (hE : Exact C a T)
    {g : JFrame} (hg : g.method = m) {rest : List Value} (hstack : g.stack = .ref a :: rest) (hdg : decode c.code g.pc = .ok (.instanceof index, 3)) :
    ∃ T', Stand p l e R s m args below meth c T' locs cells slots ∧ T'.heap = T.heap ∧ ∀ target, Steps p.tables e below (T'.setTop { g with pc := g.pc + 3, stack := .int 1 :: rest }) target → Steps p.tables e below (T.setTop g) target := by
  obtain ⟨cB, h1, D, h2, h3, h4⟩ := hE
  have h1' : s.vm.findClass C = some cB := by rw [← X.warmed.alike.findClass]; exact h1
  obtain ⟨vm', X', st⟩ := X.instanceofYes hexec hown hlink h2 h4 h1' (by rw [h3]; exact Jvm.Free.SB.assignable_self _ _) hg hstack hdg
  exact ⟨_, X', rfl, st⟩
theorem cself {p : Program} {l : Launch} {e : Env} {R : Room} {s : State} {m : MethodId} {args : Array Value} {below : List Frame} {meth : Method} {c : Code} {T : State} {locs : List Loc} {cells slots : Nat} (X : Stand p l e R s m args below meth c T locs cells slots) (hexec : p.tables.exec = Jvm.exec) {own C : String} {index : Nat} (hown : s.vm.findClass own = some m.cls) (hlink : (Cond.classLink own index C).before args s = true) {a : Addr} (hE : Exact C a T)
    {g : JFrame} (hg : g.method = m) {rest : List Value} (hstack : g.stack = .ref a :: rest) (hdg : decode c.code g.pc = .ok (.checkcast index, 3)) :
    ∃ T', Stand p l e R s m args below meth c T' locs cells slots ∧ T'.heap = T.heap ∧ ∀ target, Steps p.tables e below (T'.setTop { g with pc := g.pc + 3, stack := .ref a :: rest }) target → Steps p.tables e below (T.setTop g) target := by
  obtain ⟨cB, h1, D, h2, h3, h4⟩ := hE
  have h1' : s.vm.findClass C = some cB := by rw [← X.warmed.alike.findClass]; exact h1
  obtain ⟨vm', X', st⟩ := X.checkcastYes hexec hown hlink h2 h4 h1' (by rw [h3]; exact Jvm.Free.SB.assignable_self _ _) hg hstack hdg
  exact ⟨_, X', rfl, fun t h => st t (by rw [← hstack] at h; exact h)⟩
namespace SEq
def yN : MethodName := ⟨"java/lang/String", "equals", "(Ljava/lang/Object;)Z"⟩
abbrev yB : ByteArray := jdk_42_method_66_code
theorem d0 : decode yB 0 = .ok (.aload_n 0, 1) := by decide +kernel
theorem d1 : decode yB 1 = .ok (.aload_n 1, 1) := by decide +kernel
theorem d2 : decode yB 2 = .ok (.if_acmp (.ne) 5, 3) := by decide +kernel
theorem d5 : decode yB 5 = .ok (.iconst 1, 1) := by decide +kernel
theorem d6 : decode yB 6 = .ok (.ireturn, 1) := by decide +kernel
theorem d7 : decode yB 7 = .ok (.aload_n 1, 1) := by decide +kernel
theorem d8 : decode yB 8 = .ok (.instanceof 10, 3) := by decide +kernel
theorem d11 : decode yB 11 = .ok (.ifCond (.eq) 43, 3) := by decide +kernel
theorem d14 : decode yB 14 = .ok (.aload_n 1, 1) := by decide +kernel
theorem d15 : decode yB 15 = .ok (.checkcast 10, 3) := by decide +kernel
theorem d18 : decode yB 18 = .ok (.astore_n 2, 1) := by decide +kernel
theorem d19 : decode yB 19 = .ok (.getstatic 38, 3) := by decide +kernel
theorem d22 : decode yB 22 = .ok (.ifCond (.eq) 14, 3) := by decide +kernel
theorem d25 : decode yB 25 = .ok (.aload_n 0, 1) := by decide +kernel
theorem d26 : decode yB 26 = .ok (.getfield 15, 3) := by decide +kernel
theorem d29 : decode yB 29 = .ok (.aload_n 2, 1) := by decide +kernel
theorem d30 : decode yB 30 = .ok (.getfield 15, 3) := by decide +kernel
theorem d33 : decode yB 33 = .ok (.if_icmp (.ne) 21, 3) := by decide +kernel
theorem d36 : decode yB 36 = .ok (.aload_n 0, 1) := by decide +kernel
theorem d37 : decode yB 37 = .ok (.getfield 9, 3) := by decide +kernel
theorem d40 : decode yB 40 = .ok (.aload_n 2, 1) := by decide +kernel
theorem d41 : decode yB 41 = .ok (.getfield 9, 3) := by decide +kernel
theorem d44 : decode yB 44 = .ok (.invokestatic 541, 3) := by decide +kernel
theorem d47 : decode yB 47 = .ok (.ifCond (.eq) 7, 3) := by decide +kernel
theorem d50 : decode yB 50 = .ok (.iconst 1, 1) := by decide +kernel
theorem d51 : decode yB 51 = .ok (.goto 4, 3) := by decide +kernel
theorem d54 : decode yB 54 = .ok (.iconst 0, 1) := by decide +kernel
theorem d55 : decode yB 55 = .ok (.ireturn, 1) := by decide +kernel
def site : List Cond := [.classLink "java/lang/String" 10 "java/lang/String", .fieldLink "java/lang/String" 38 "java/lang/String" "COMPACT_STRINGS" "Z", .fieldLink "java/lang/String" 15 "java/lang/String" "coder" "B", .fieldLink "java/lang/String" 9 "java/lang/String" "value" "[B", LEq.tab] ++ staticW "java/lang/String" 541 LEq.yN
def tab : Cond := tabOf yN yB 3 (some .boolean) site
def P (x t : Addr) (V : Cell) (cd : Int32) (n : Nat) (f : Nat → Int32) (y t' : Addr) (V' : Cell) (cd' : Int32) (k : Nat) (g : Nat → Int32) (z : Int32) (args : Array Value) (s : State) : Prop := args = #[.ref x, .ref y] ∧ Txt x t V cd n f s ∧ Txt y t' V' cd' k g s ∧ StaticIs s "java/lang/String" "COMPACT_STRINGS" "Z" (.int z) ∧ ¬ z = 0
/-- equals(Object) of two Strings: whether the texts are the same -/
theorem law (l : Launch) (x t : Addr) (V : Cell) (cd : Int32) (n : Nat) (f : Nat → Int32) (y t' : Addr) (V' : Cell) (cd' : Int32) (k : Nat) (g : Nat → Int32) (z : Int32) : Law l yN 2 1 1 14 yB 3 (some .boolean) site (P x t V cd n f y t' V' cd' k g z) (Says01 (SameT n f k g)) [] 0 0 := by
  refine Law.of_walk (plainFor_of_name (by decide +kernel)) (by decide +kernel) (by decide +kernel) (by decide) (fun _ _ h => by rw [h.1]; rfl) (fun _ U U' hal hh h => ⟨h.1, h.2.1.mv hal hh, h.2.2.1.mv hal hh, h.2.2.2.1.there hal hh, h.2.2.2.2⟩) (fun r U U' V V' h1 hal h2 h => Says01.mv r U U' V V' h1 hal h2 h) ?_
  intro p e s m args below meth c s₁ X0 hexec hbytes hml hret hlk hnm hown hh0 W hP
  obtain ⟨rfl, hx, hy, s1, hz⟩ := hP
  have c1 : Steps p.tables e below (s₁.setTop (entryFrame m #[.ref x, .ref y] 3)) (s₁.setTop (mkF m 2 #[.val (.ref x), .val (.ref y), .unset] [.ref y, .ref x])) := Steps.trans (entry rfl) (by
    show Steps p.tables e below (s₁.setTop (mkF m 0 #[.val (.ref x), .val (.ref y), .unset] [])) _
    refine XS.aloadN X0.here hexec rfl (hb hbytes d0) rfl rfl ?_
    refine XS.aloadN X0.here hexec rfl (hb hbytes d1) rfl rfl ?_
    exact Steps.refl _)
  by_cases hxy : x = y
  · have c2 : Steps p.tables e below (s₁.setTop (entryFrame m #[.ref x, .ref y] 3)) (s₁.setTop (mkF m 6 #[.val (.ref x), .val (.ref y), .unset] [.int 1])) := c1.trans (by
      refine acmpNo X0.here hexec rfl (hb hbytes d2) rfl rfl rfl (by simp [acmp, hxy]) ?_
      refine iconstV X0.here hexec rfl 1 (hb hbytes d5) (by decide) ?_
      exact Steps.refl _)
    subst hxy
    have ec : cd = cd' := by
      obtain ⟨D, fd, a1, a2, a3⟩ := hx.2.2.1
      obtain ⟨D', fd', b1, b2, b3⟩ := hy.2.2.1
      cases a1.symm.trans b1
      obtain ⟨q1, q2, q3, q4⟩ := a2.1
      obtain ⟨r1, r2, r3, r4⟩ := b2.1
      cases q4.symm.trans r4
      cases a3.symm.trans b3; rfl
    have et : t = t' := by
      obtain ⟨D, fd, a1, a2, a3⟩ := hx.2.1
      obtain ⟨D', fd', b1, b2, b3⟩ := hy.2.1
      cases a1.symm.trans b1
      obtain ⟨q1, q2, q3, q4⟩ := a2.1
      obtain ⟨r1, r2, r3, r4⟩ := b2.1
      cases q4.symm.trans r4
      cases a3.symm.trans b3; rfl
    subst ec et
    have ev : V = V' := by cases hx.2.2.2.1.1.symm.trans hy.2.2.2.1.1; rfl
    subst ev
    have hs : SameT n f k g := (Cod.eqv hx.2.2.2.2.1 hy.2.2.2.2.1 hx.2.2.2.2.2 hy.2.2.2.2.2).mp ⟨rfl, fun _ _ => rfl⟩
    exact ⟨s₁, some (.int 1), _, _, _, X0, rfl, rfl, rfl, (fun h => by cases h), ⟨1, rfl, hh0, Or.inl ⟨rfl, hs⟩⟩, fun fs hl => c2.trans (X0.ireturnOut hexec hret rfl (Or.inr (Or.inl rfl)) (hb hbytes d6) hl)⟩
  · have c2 : Steps p.tables e below (s₁.setTop (entryFrame m #[.ref x, .ref y] 3)) (s₁.setTop (mkF m 8 #[.val (.ref x), .val (.ref y), .unset] [.ref y])) := c1.trans (by
      refine acmpYes X0.here hexec rfl (pc0 := 2) rfl (hb hbytes d2) rfl rfl rfl (by simp [acmp, hxy]) (by decide) rfl ?_
      refine XS.aloadN X0.here hexec rfl (hb hbytes d7) rfl rfl ?_
      exact Steps.refl _)
    obtain ⟨T3, X3, q3, st3⟩ := cinst X0 hexec hown (wk W (.classLink "java/lang/String" 10 "java/lang/String")) (hy.mv X0.warmed.alike hh0).1 (g := (mkF m 8 #[.val (.ref x), .val (.ref y), .unset] [.ref y])) rfl (rest := []) rfl (hb hbytes d8)
    have hh3 := q3.trans hh0
    have c4 : Steps p.tables e below (s₁.setTop (entryFrame m #[.ref x, .ref y] 3)) (T3.setTop (mkF m 15 #[.val (.ref x), .val (.ref y), .unset] [.ref y])) := (c2.trans (st3 _ (Steps.refl _))).trans (by
      refine XS.ifNo X3.here hexec rfl (hb hbytes d11) rfl (i0_eq_f (by decide)) ?_
      refine XS.aloadN X3.here hexec rfl (hb hbytes d14) rfl rfl ?_
      exact Steps.refl _)
    obtain ⟨T5, X5, q5, st5⟩ := cself X3 hexec hown (wk W (.classLink "java/lang/String" 10 "java/lang/String")) (hy.mv X3.warmed.alike hh3).1 (g := (mkF m 15 #[.val (.ref x), .val (.ref y), .unset] [.ref y])) rfl (rest := []) rfl (hb hbytes d15)
    have hh5 := q5.trans hh3
    have c6 : Steps p.tables e below (s₁.setTop (entryFrame m #[.ref x, .ref y] 3)) (T5.setTop (mkF m 19 #[.val (.ref x), .val (.ref y), .val (.ref y)] [])) := (c4.trans (st5 _ (Steps.refl _))).trans (by
      refine XS.astoreN X5.here hexec rfl (hb hbytes d18) rfl rfl rfl ?_
      exact Steps.refl _)
    obtain ⟨T7, X7, q7, st7⟩ := X5.sget hexec hown (wk W (.fieldLink "java/lang/String" 38 "java/lang/String" "COMPACT_STRINGS" "Z")) s1 (fun _ _ h => by rw [hh5]; exact h) (g := (mkF m 19 #[.val (.ref x), .val (.ref y), .val (.ref y)] [])) rfl (hb hbytes d19)
    have hh7 := q7.trans hh5
    have c8 : Steps p.tables e below (s₁.setTop (entryFrame m #[.ref x, .ref y] 3)) (T7.setTop (mkF m 26 #[.val (.ref x), .val (.ref y), .val (.ref y)] [.ref x])) := (c6.trans (st7 _ (Steps.refl _))).trans (by
      refine XS.ifNo X7.here hexec rfl (hb hbytes d22) rfl (i0_eq_f hz) ?_
      refine XS.aloadN X7.here hexec rfl (hb hbytes d25) rfl rfl ?_
      exact Steps.refl _)
    obtain ⟨T9, X9, q9, st9⟩ := X7.hget hexec hown (wk W (.fieldLink "java/lang/String" 15 "java/lang/String" "coder" "B")) (hx.mv X7.warmed.alike hh7).2.2.1 (g := (mkF m 26 #[.val (.ref x), .val (.ref y), .val (.ref y)] [.ref x])) rfl (rest := []) rfl (hb hbytes d26)
    have hh9 := q9.trans hh7
    have c10 : Steps p.tables e below (s₁.setTop (entryFrame m #[.ref x, .ref y] 3)) (T9.setTop (mkF m 30 #[.val (.ref x), .val (.ref y), .val (.ref y)] [.ref y, .int cd])) := (c8.trans (st9 _ (Steps.refl _))).trans (by
      refine XS.aloadN X9.here hexec rfl (hb hbytes d29) rfl rfl ?_
      exact Steps.refl _)
    obtain ⟨T11, X11, q11, st11⟩ := X9.hget hexec hown (wk W (.fieldLink "java/lang/String" 15 "java/lang/String" "coder" "B")) (hy.mv X9.warmed.alike hh9).2.2.1 (g := (mkF m 30 #[.val (.ref x), .val (.ref y), .val (.ref y)] [.ref y, .int cd])) rfl (rest := [.int cd]) rfl (hb hbytes d30)
    have hh11 := q11.trans hh9
    have c12 : Steps p.tables e below (s₁.setTop (entryFrame m #[.ref x, .ref y] 3)) (T11.setTop (mkF m 33 #[.val (.ref x), .val (.ref y), .val (.ref y)] [.int cd', .int cd])) := c10.trans (st11 _ (Steps.refl _))
    by_cases hcd : cd = cd'
    · subst hcd
      have c13 : Steps p.tables e below (s₁.setTop (entryFrame m #[.ref x, .ref y] 3)) (T11.setTop (mkF m 37 #[.val (.ref x), .val (.ref y), .val (.ref y)] [.ref x])) := c12.trans (by
        refine XS.icmpNo X11.here hexec rfl (hb hbytes d33) rfl (ii_ne_f rfl) ?_
        refine XS.aloadN X11.here hexec rfl (hb hbytes d36) rfl rfl ?_
        exact Steps.refl _)
      obtain ⟨T14, X14, q14, st14⟩ := X11.hget hexec hown (wk W (.fieldLink "java/lang/String" 9 "java/lang/String" "value" "[B")) (hx.mv X11.warmed.alike hh11).2.1 (g := (mkF m 37 #[.val (.ref x), .val (.ref y), .val (.ref y)] [.ref x])) rfl (rest := []) rfl (hb hbytes d37)
      have hh14 := q14.trans hh11
      have c15 : Steps p.tables e below (s₁.setTop (entryFrame m #[.ref x, .ref y] 3)) (T14.setTop (mkF m 41 #[.val (.ref x), .val (.ref y), .val (.ref y)] [.ref y, .ref t])) := (c13.trans (st14 _ (Steps.refl _))).trans (by
        refine XS.aloadN X14.here hexec rfl (hb hbytes d40) rfl rfl ?_
        exact Steps.refl _)
      obtain ⟨T16, X16, q16, st16⟩ := X14.hget hexec hown (wk W (.fieldLink "java/lang/String" 9 "java/lang/String" "value" "[B")) (hy.mv X14.warmed.alike hh14).2.1 (g := (mkF m 41 #[.val (.ref x), .val (.ref y), .val (.ref y)] [.ref y, .ref t])) rfl (rest := [.ref t]) rfl (hb hbytes d41)
      have hh16 := q16.trans hh14
      have c17 : Steps p.tables e below (s₁.setTop (entryFrame m #[.ref x, .ref y] 3)) (T16.setTop (mkF m 44 #[.val (.ref x), .val (.ref y), .val (.ref y)] [.ref t', .ref t])) := c15.trans (st16 _ (Steps.refl _))
      obtain ⟨v18, T18, X18, E18, g18⟩ := X16.callS hexec (LEq.law l t V t' V') hown (wks W (staticW "java/lang/String" 541 LEq.yN)) (wk W LEq.tab) (W := 0) (Nat.le_of_ble_eq_true rfl) (Nat.le_of_ble_eq_true rfl) (Nat.le_refl _) (Nat.le_refl _) (g := (mkF m 44 #[.val (.ref x), .val (.ref y), .val (.ref y)] [.ref t', .ref t])) rfl (by rw [hml]; rfl) c17 (argsL := [.ref t, .ref t']) (rest := []) rfl rfl (by show 2 * 0 + 0 ≤ _; decide) (hb hbytes d44) (⟨rfl, hx.2.2.2.1.mv X16.warmed.alike hh16, hx.2.2.2.2.1.ty, hy.2.2.2.1.mv X16.warmed.alike hh16, hy.2.2.2.2.1.ty⟩)
      obtain ⟨v, rfl, q18, hv⟩ := E18
      have iff := Cod.eqv hx.2.2.2.2.1 hy.2.2.2.2.1 hx.2.2.2.2.2 hy.2.2.2.2.2
      rcases hv with ⟨rfl, he⟩ | ⟨rfl, he⟩
      · have c19 : Steps p.tables e below (s₁.setTop (entryFrame m #[.ref x, .ref y] 3)) (T18.setTop (mkF m 55 #[.val (.ref x), .val (.ref y), .val (.ref y)] [.int 1])) := Steps.trans g18 (by
          refine XS.ifNo X18.here hexec rfl (hb hbytes d47) rfl (i0_eq_f (by decide)) ?_
          refine iconstV X18.here hexec rfl 1 (hb hbytes d50) (by decide) ?_
          refine XS.goto X18.here hexec rfl (pc0 := 51) rfl (hb hbytes d51) (by decide) rfl ?_
          exact Steps.refl _)
        exact ⟨T18, some (.int 1), _, _, _, X18, rfl, rfl, rfl, (fun h => by cases h), ⟨1, rfl, q18.trans hh16, Or.inl ⟨rfl, iff.mp he⟩⟩, fun fs hl => c19.trans (X18.ireturnOut hexec hret rfl (Or.inr (Or.inl rfl)) (hb hbytes d55) hl)⟩
      · have c19 : Steps p.tables e below (s₁.setTop (entryFrame m #[.ref x, .ref y] 3)) (T18.setTop (mkF m 55 #[.val (.ref x), .val (.ref y), .val (.ref y)] [.int 0])) := Steps.trans g18 (by
          refine XS.ifYes X18.here hexec rfl (pc0 := 47) rfl (hb hbytes d47) rfl (i0_eq_t rfl) (by decide) rfl ?_
          refine iconstV X18.here hexec rfl 0 (hb hbytes d54) (by decide) ?_
          exact Steps.refl _)
        exact ⟨T18, some (.int 0), _, _, _, X18, rfl, rfl, rfl, (fun h => by cases h), ⟨0, rfl, q18.trans hh16, Or.inr ⟨rfl, fun q => he (iff.mpr q)⟩⟩, fun fs hl => c19.trans (X18.ireturnOut hexec hret rfl (Or.inr (Or.inl rfl)) (hb hbytes d55) hl)⟩
    · have c13 : Steps p.tables e below (s₁.setTop (entryFrame m #[.ref x, .ref y] 3)) (T11.setTop (mkF m 55 #[.val (.ref x), .val (.ref y), .val (.ref y)] [.int 0])) := c12.trans (by
        refine XS.icmpYes X11.here hexec rfl (pc0 := 33) rfl (hb hbytes d33) rfl (ii_ne_t hcd) (by decide) rfl ?_
        refine iconstV X11.here hexec rfl 0 (hb hbytes d54) (by decide) ?_
        exact Steps.refl _)
      exact ⟨T11, some (.int 0), _, _, _, X11, rfl, rfl, rfl, (fun h => by cases h), ⟨0, rfl, hh11, Or.inr ⟨rfl, Cod.dif hx.2.2.2.2.1 hy.2.2.2.2.1 hcd⟩⟩, fun fs hl => c13.trans (X11.ireturnOut hexec hret rfl (Or.inr (Or.inl rfl)) (hb hbytes d55) hl)⟩
theorem pays {l : Launch} {R : Room} {p : Program} {e : Env} {below : List Frame} {s : State} {sargs : Array Value} {len W : Nat} (x t : Addr) (V : Cell) (cd : Int32) (n : Nat) (f : Nat → Int32) (y t' : Addr) (V' : Cell) (cd' : Int32) (k : Nat) (g : Nat → Int32) (z : Int32) (htab : tab.before sargs s = true) (hfr : 2 ≤ R.frames) (hlo : W + 28 ≤ R.locals) :
    Back l R p e below s sargs yN len W (fun A₁ a₁ => A₁.cells + 0 ≤ R.cells ∧ A₁.slots + 0 ≤ R.slots ∧ P x t V cd n f y t' V' cd' k g z a₁ A₁.U) (fun A₁ _ v₁ B₁ => Says01 (SameT n f k g) v₁ A₁.U B₁.U ∧ B₁.locs = A₁.locs ++ [] ∧ B₁.cells = A₁.cells + 0 ∧ B₁.slots = A₁.slots + 0) :=
  (law l x t V cd n f y t' V' cd' k g z).pays htab hfr (by omega)
end SEq
end StrChars
namespace StrChars.Road
open Jvm Sem ClassFile Op Lib Jvm.Stand Jvm.Free Jvm.Free.XT
open Jvm.Lib.Cold (StaticIs)
/-- the words of String.equals(Object) -/
abbrev wordsEq : List Jvm.Cond := [.code SEq.yN SEq.yB 3 (some .boolean), .initialized ST, .classLink ST 10 ST, .fieldLink ST 38 ST "COMPACT_STRINGS" "Z", .fieldLink ST 15 ST "coder" "B", .fieldLink ST 9 ST "value" "[B", .methodLink ST 541 LEq.yN, .static LEq.yN, .code LEq.yN LEq.yB 3 (some .boolean), .initialized "java/lang/StringLatin1"]
theorem tabEq_of {a : Array Value} {s : State} (h : ∀ w ∈ wordsEq, w.before a s = true) : SEq.tab.before a s = true := by
  have hl : LEq.tab.before a s = true := unparts (wk h (.code LEq.yN LEq.yB 3 (some .boolean))) (wks h (.initialized LEq.yN.cls :: LEq.site))
  have q := consq hl h
  exact unparts (wk q (.code SEq.yN SEq.yB 3 (some .boolean))) (wks q (.initialized SEq.yN.cls :: SEq.site))
theorem movedEq {Z s : State} {a0 args : Array Value} (hZ : Z.Warmed39 s.vm) (hw : ∀ d ∈ wordsEq, d.before a0 Z = true) : ∀ d ∈ wordsEq, d.before args s = true := fun d hd => by
  have t : ∀ d ∈ wordsEq, (d.onTables && d.keepsFace) = true := by decide +kernel
  exact RoadKit.mv hZ (hw d hd) (t d hd)
/-- the road's facts of a String, as the laws ask it -/
theorem txt_of {Z U : State} {a0 : Array Value} {kI : Nat} (wi : (Jvm.Cond.instantiable ST kI).before a0 Z = true) (al : Z.vm.Alike U.vm) {x t : Addr} {kb : ClassId} {cs : List Int32} {cd N2 : Int32} {vs : List Value} (E : RoadKit.Exa Z U.heap x ST) (V : RoadKit.Fld Z U.heap x ST "value" "[B" (.ref t)) (C : RoadKit.Fld Z U.heap x ST "coder" "B" (.int cd)) (K : RoadKit.Arv Z U.heap t kb .byte N2 vs (.int 0)) (hc : CodA cs cd N2 vs) (hb : ∀ c ∈ cs, ¬ c < 0 ∧ ¬ (65535 : Int32) < c) (l2 : cs.length ≤ 4000) :
    ∃ A, Txt x t A cd cs.length (fun j => cs.getD j 0) U := by
  obtain ⟨A, K1, K2, K3, K4, K5, K6⟩ := K
  have hcod := hc.cod (by omega) K3 K5
  obtain ⟨D, fV, fC, hB, F1, F2, g1, g2, -, -⟩ := strObj wi al E V C
  exact ⟨A, ⟨_, hB.2.2.1, D, hB.1, rfl, by cases q : D.vm <;> first | rfl | exact absurd q (hB.2.1.2 _)⟩, Has.of hB F1 g1, Has.of hB F2 g2, ⟨K1.1, State.isArrayOf_alike al K1.2.1, K1.2.2, by rcases hcod with ⟨-, q, -⟩ | ⟨-, q, -⟩ <;> omega⟩, hcod, fun j hj => by
    have e : cs.getD j 0 = cs[j] := by simp [List.getD_eq_getElem?_getD, hj]
    show ¬ cs.getD j 0 < 0 ∧ ¬ 65535 < cs.getD j 0
    rw [e]; exact hb _ (List.getElem_mem _)⟩
theorem same_list (cs ds : List Int32) : SameT cs.length (fun j => cs.getD j 0) ds.length (fun j => ds.getD j 0) ↔ cs = ds := by
  constructor
  · rintro ⟨e, q⟩
    refine List.ext_getElem e fun j h1 h2 => ?_
    have := q j h1
    simpa [List.getD_eq_getElem?_getD, h1, h2] using this
  · rintro rfl
    exact ⟨rfl, fun _ _ => rfl⟩
/-- **equals(Object) OF TWO SUCH STRINGS**: 1 just where the chars are the same -/
theorem eqW {p : Program} {l : Launch} {e : Env} {R : Room} {s : State} {args : Array Value} {below : List Frame} {len W : Nat} {Z : State} {a0 : Array Value} {h : Heap} (hZ : Z.Warmed39 s.vm) (hw : ∀ d ∈ wordsEq, d.before a0 Z = true) {kI : Nat} (wi : (Jvm.Cond.instantiable ST kI).before a0 Z = true)
    {x t : Addr} {kb : ClassId} {cs : List Int32} {cd N2 : Int32} {vs : List Value} (E : RoadKit.Exa Z h x ST) (V : RoadKit.Fld Z h x ST "value" "[B" (.ref t)) (C : RoadKit.Fld Z h x ST "coder" "B" (.int cd)) (K : RoadKit.Arv Z h t kb .byte N2 vs (.int 0)) (hc : CodA cs cd N2 vs) (hb : ∀ c ∈ cs, ¬ c < 0 ∧ ¬ (65535 : Int32) < c) (l2 : cs.length ≤ 4000)
    {y t' : Addr} {kb' : ClassId} {ds : List Int32} {cd' N2' : Int32} {vs' : List Value} (E' : RoadKit.Exa Z h y ST) (V' : RoadKit.Fld Z h y ST "value" "[B" (.ref t')) (C' : RoadKit.Fld Z h y ST "coder" "B" (.int cd')) (K' : RoadKit.Arv Z h t' kb' .byte N2' vs' (.int 0)) (hc' : CodA ds cd' N2' vs') (hb' : ∀ c ∈ ds, ¬ c < 0 ∧ ¬ (65535 : Int32) < c) (l2' : ds.length ≤ 4000)
    {z : Int32} (S : RoadKit.Sta Z h ST "COMPACT_STRINGS" "Z" (.int z)) (hz : ¬ z = 0) (hfr : 2 ≤ R.frames) (hlo : W + 28 ≤ R.locals) :
    Back l R p e below s args (⟨"java/lang/String", "equals", "(Ljava/lang/Object;)Z"⟩ : MethodName) len W (fun P a => a = #[.ref x, .ref y] ∧ P.U.heap = h ∧ P.cells + 0 ≤ R.cells ∧ P.slots + 0 ≤ R.slots)
      (fun P _ v B => ∃ L, (((v = some (.int 1) ∧ cs = ds) ∨ (v = some (.int 0) ∧ ¬ cs = ds)) ∧ L = [] ∧ B.U.heap = h) ∧ B.locs = P.locs ++ L ∧ B.cells = P.cells + 0 ∧ B.slots = P.slots + 0) := by
  intro m meth c P g ig mk a X hg hsize hdg hW hn hp'
  obtain ⟨rfl, rfl, r1, r2⟩ := hp'
  have al : Z.vm.Alike P.U.vm := hZ.alike.trans X.warmed.alike
  obtain ⟨A, hx⟩ := txt_of wi al E V C K hc hb l2
  obtain ⟨A', hy⟩ := txt_of wi al E' V' C' K' hc' hb' l2'
  obtain ⟨v, B, X', ⟨⟨w, hv, hh, hq⟩, hl, hk, hs⟩, st⟩ := SEq.pays x t A cd cs.length (fun j => cs.getD j 0) y t' A' cd' ds.length (fun j => ds.getD j 0) z (tabEq_of (movedEq hZ hw)) hfr hlo m meth c P g ig mk _ X hg hsize hdg hW hn ⟨r1, r2, rfl, hx, hy, sta_is al S, hz⟩
  refine ⟨v, B, X', ⟨[], ⟨?_, rfl, hh⟩, hl, hk, hs⟩, st⟩
  rcases hq with ⟨rfl, q⟩ | ⟨rfl, q⟩
  · exact Or.inl ⟨hv, (same_list cs ds).mp q⟩
  · exact Or.inr ⟨hv, fun e => q ((same_list cs ds).mpr e)⟩
end StrChars.Road
namespace StrChars.Road
open Jvm Sem ClassFile Op Lib Jvm.Stand Jvm.Free Jvm.Free.XT
open Jvm.Lib.Cold (StaticIs)
/-- what backV says of its String, as the contracts of this text ask it: cs's low bytes, coder 0 -/
theorem codOf {cs : List Int32} {n : Nat} (hn : cs.length = n) (hb : ∀ c ∈ cs, ¬ 255 < c) : CodA cs 0 (Int32.ofNat n) ((cs.map lo8).map Value.int) := Or.inl ⟨rfl, by rw [hn], by simp [List.map_map, Function.comp_def], hb⟩
end StrChars.Road
end Jvm.Pilot.@@N@@
namespace Jvm.Pilot.@@N@@
open Jvm Jvm.ClassFile Sem Op Lib Jvm.Free Jvm.Stand Jvm.LawKit Jvm.RoadKit Bundle Jvm.Pilot.@@N@@.Jvm.D
theorem own_mvMN {Z s : State} {a0 args : Array Value} {own host : String} {index : Nat} {y : MethodName} (hZ : Z.Warmed39 s.vm) (w : (Jvm.Cond.methodLinkNest own index y host).before a0 Z = true) : (Jvm.Cond.methodLinkNest own index y host).before args s = true := (Cond.methodLinkNest_wide hZ w :)
theorem own_cat1 {v : Value} (h : v.isRef = true) : v.category = 1 := by cases v <;> simp [Value.isRef] at h <;> rfl
theorem own_fit {v : Value} {t : FieldType} (h : v.isRef = true) (ht : t.isReference = true) : fits t v = true := by
  cases t <;> first | (cases ht; done) | (cases v <;> simp [Value.isRef] at h <;> rfl)
theorem own_nar {v : Value} {t : FieldType} (h : v.isRef = true) (ht : t.isReference = true) : narrow t v = v := by
  cases t <;> first | (cases ht; done) | (cases v <;> simp [Value.isRef] at h <;> rfl)
theorem own_c255 (x : Int32) : ¬ nar .char ((x &&& (255 : Int32)).toUInt32.toUInt16.toUInt32.toInt32) < 0 ∧ ¬ (255 : Int32) < nar .char ((x &&& (255 : Int32)).toUInt32.toUInt16.toUInt32.toInt32) := by
  have e : nar .char ((x &&& (255 : Int32)).toUInt32.toUInt16.toUInt32.toInt32) = x &&& (255 : Int32) := by
    simp only [nar, UInt32.toUInt32_toInt32, UInt16.toUInt16_toUInt32]
    exact i2c_mask x
  have h := c_mask x (255 : Int32) 8 (by decide) (by decide)
  rw [e]
  rw [Int32.lt_iff_toInt_lt, Int32.lt_iff_toInt_lt]
  have e1 : (0 : Int32).toInt = 0 := by decide
  have e2 : (255 : Int32).toInt = 255 := by decide
  have e3 : ((2 ^ 8 : Nat) : Int) = 256 := by decide
  rw [e3] at h
  omega
theorem own_ch {c : Int32} (h : ¬ c < 0 ∧ ¬ (255 : Int32) < c) : nar .char (c.toUInt32.toUInt16.toUInt32.toInt32) = c := by
  have h1 := c_i2c c
  have h2 := c_i2c (c.toUInt32.toUInt16.toUInt32.toInt32)
  rw [Int32.lt_iff_toInt_lt, Int32.lt_iff_toInt_lt] at h
  have e1 : (0 : Int32).toInt = 0 := by decide
  have e2 : (255 : Int32).toInt = 255 := by decide
  apply Int32.toInt_inj.mp
  show ((c.toUInt32.toUInt16.toUInt32.toInt32).toUInt32.toUInt16.toUInt32.toInt32).toInt = _
  omega
theorem own_two {c0 c1 : Int32} (h0 : ¬ c0 < 0 ∧ ¬ (255 : Int32) < c0) (h1 : ¬ c1 < 0 ∧ ¬ (255 : Int32) < c1) : ∀ c ∈ ([c0, c1] : List Int32), ¬ c < 0 ∧ ¬ (255 : Int32) < c := by
  intro c hc
  simp only [List.mem_cons, List.not_mem_nil, or_false] at hc
  rcases hc with rfl | rfl
  · exact h0
  · exact h1
theorem own_up {cs : List Int32} (h : ∀ c ∈ cs, ¬ c < 0 ∧ ¬ (255 : Int32) < c) : ∀ c ∈ cs, ¬ c < 0 ∧ ¬ (65535 : Int32) < c := fun c hc => ⟨(h c hc).1, fun q => (h c hc).2 (by rw [Int32.lt_iff_toInt_lt] at q ⊢; have e1 : (65535 : Int32).toInt = 65535 := rfl; have e2 : (255 : Int32).toInt = 255 := rfl; omega)⟩
theorem own_mask (x : Int32) : ¬ (x &&& (255 : Int32)) < 0 ∧ ¬ (255 : Int32) < (x &&& (255 : Int32)) := by
  have h := c_mask x (255 : Int32) 8 (by decide) (by decide)
  rw [Int32.lt_iff_toInt_lt, Int32.lt_iff_toInt_lt]
  have e1 : (0 : Int32).toInt = 0 := by decide
  have e2 : (255 : Int32).toInt = 255 := by decide
  have e3 : ((2 ^ 8 : Nat) : Int) = 256 := by decide
  rw [e3] at h
  omega
theorem own_m3 (x : Int32) : ((x &&& (255 : Int32)) % (3 : Int32)) = 0 ∨ ((x &&& (255 : Int32)) % (3 : Int32)) = 1 ∨ ((x &&& (255 : Int32)) % (3 : Int32)) = 2 := by
  have h := c_mask x (255 : Int32) 8 (by decide) (by decide)
  have e3 : ((2 ^ 8 : Nat) : Int) = 256 := by decide
  rw [e3] at h
  have e5 : (3 : Int32).toInt = 3 := by decide
  have h4 := (c_iremV (x &&& (255 : Int32)) (3 : Int32)).1 (by omega) (by decide)
  rcases (by omega : ((x &&& (255 : Int32)) % (3 : Int32)).toInt = 0 ∨ ((x &&& (255 : Int32)) % (3 : Int32)).toInt = 1 ∨ ((x &&& (255 : Int32)) % (3 : Int32)).toInt = 2) with q | q | q
  · exact Or.inl (Int32.toInt_inj.mp q)
  · exact Or.inr (Or.inl (Int32.toInt_inj.mp q))
  · exact Or.inr (Or.inr (Int32.toInt_inj.mp q))
theorem own_m4 (x : Int32) : (x &&& (3 : Int32)) = 0 ∨ (x &&& (3 : Int32)) = 1 ∨ (x &&& (3 : Int32)) = 2 ∨ (x &&& (3 : Int32)) = 3 := by
  have h := c_mask x (3 : Int32) 2 (by decide) (by decide)
  have e3 : ((2 ^ 2 : Nat) : Int) = 4 := by decide
  rw [e3] at h
  rcases (by omega : (x &&& (3 : Int32)).toInt = 0 ∨ (x &&& (3 : Int32)).toInt = 1 ∨ (x &&& (3 : Int32)).toInt = 2 ∨ (x &&& (3 : Int32)).toInt = 3) with q | q | q | q
  · exact Or.inl (Int32.toInt_inj.mp q)
  · exact Or.inr (Or.inl (Int32.toInt_inj.mp q))
  · exact Or.inr (Or.inr (Or.inl (Int32.toInt_inj.mp q)))
  · exact Or.inr (Or.inr (Or.inr (Int32.toInt_inj.mp q)))
def own_vs (g0 g1 g2 : Addr) (i : Int32) : Addr := if i = 0 then g0 else if i = 1 then g1 else g2
def own_rl (g0 g1 g2 : Addr) (i : Int32) : Value := if i = 0 then .ref g0 else if i = 1 then .ref g1 else if i = 2 then .ref g2 else .null
theorem own_rlr (g0 g1 g2 : Addr) (i : Int32) : (own_rl g0 g1 g2 i).isRef = true := by
  unfold own_rl
  split; · rfl
  split; · rfl
  split <;> rfl
theorem own_vsi {g0 g1 g2 : Addr} (h1 : g0 ≠ g1) (h2 : g0 ≠ g2) (h3 : g1 ≠ g2) {i j : Int32} (hi : i = 0 ∨ i = 1 ∨ i = 2) (hj : j = 0 ∨ j = 1 ∨ j = 2) : own_vs g0 g1 g2 i = own_vs g0 g1 g2 j ↔ i = j := by
  rcases hi with rfl | rfl | rfl <;> rcases hj with rfl | rfl | rfl <;> simp [own_vs, h1, h2, h3, h1.symm, h2.symm, h3.symm]
theorem own_rli {g0 g1 g2 : Addr} (h1 : g0 ≠ g1) (h2 : g0 ≠ g2) (h3 : g1 ≠ g2) {i j : Int32} (hi : i = 0 ∨ i = 1 ∨ i = 2 ∨ i = 3) (hj : j = 0 ∨ j = 1 ∨ j = 2 ∨ j = 3) : own_rl g0 g1 g2 i = own_rl g0 g1 g2 j ↔ i = j := by
  rcases hi with rfl | rfl | rfl | rfl <;> rcases hj with rfl | rfl | rfl | rfl <;> simp [own_rl, h1, h2, h3, h1.symm, h2.symm, h3.symm]

theorem pn_0 : plainName "java/lang/Record" = true := by first | (simp [plainName, overriddenIn]; done) | decide +kernel
theorem dRC_0 : decode jdk_30_method_1_code 0 = .ok (.aload_n 0, 1) := by decide +kernel
theorem dRC_1 : decode jdk_30_method_1_code 1 = .ok (.invokespecial 1, 3) := by decide +kernel
theorem dRC_4 : decode jdk_30_method_1_code 4 = .ok (.return_, 1) := by decide +kernel
theorem ef_RC (m : MethodId) (x0 : Addr) : entryFrame m #[(.ref x0)] 1 = mkF m 0 #[.val (.ref x0)] [] := by first | (simp [entryFrame, mkF, argsToLocals, Value.category, maxLocals]; done) | rfl
def QRC (Z : State) (a : Addr) (h0 : Heap) (n0 : Nat) (v : Option Value) (h : Heap) (L : List Loc) : Prop := v = none ∧ Fr n0 L ∧ h = h0
set_option maxRecDepth 65536 in
set_option maxHeartbeats 40000000 in
theorem rmRC (l : Launch) (Z : State) (a0 : Array Value) (hw : ∀ d ∈ tables_1, d.before a0 Z = true) (ws : List Jvm.Cond) (a : Addr) (h0 : Heap) (n0 : Nat) (Z0 : n0 ≤ h0.size) :
    MetFree l (⟨"java/lang/Record", "<init>", "()V"⟩ : MethodName) (head1 (Jvm.Cond.code (⟨"java/lang/Record", "<init>", "()V"⟩ : MethodName) jdk_30_method_1_code 1 none :: ws) ({ frames := 1, cells := 0, slots := 0, locals := 12 } : Room)) (fun as_ U => as_ = #[(.ref a)] ∧ Z.Warmed39 U.vm ∧ U.heap = h0) (fun _ _ _ _ _ => True) (fun _ U o U' => ∃ v L, o = .returned v ∧ QRC Z a h0 n0 v U'.heap L ∧ FrameEnd U o U' L ({ frames := 1, cells := 0, slots := 0, locals := 12 } : Room).cells ({ frames := 1, cells := 0, slots := 0, locals := 12 } : Room).slots) := by
  refine MetFree.of_bodySF (plainFor_of_name pn_0) hisR ?_
  intro p e s m args below meth c s₁ Bd hml0 hP hK
  obtain ⟨rfl, hZ, hh⟩ := hP
  have hx := Bd.exec
  have hby := Bd.bytes
  have hml : c.maxLocals = 1 := hml0
  have hown : s.vm.findClass "java/lang/Record" = some m.cls := findClass_of_methodNamed Bd.named
  have hnm := (name_of_methodNamed Bd.named Bd.method).1
  have X0 : Stand p l e ({ frames := 1, cells := 0, slots := 0, locals := 12 } : Room) s m #[(.ref a)] below meth c s₁ [] 0 0 := Stand.of_body Bd
  have e0 : s₁.heap = h0 := by rw [← hh, Bd.state]; rfl
  have N0 := Fr.nil n0
  obtain ⟨E0, hE0⟩ : ∃ z, z = s₁.setTop (entryFrame m #[(.ref a)] 1) := ⟨_, rfl⟩
  rw [← hE0]
  have go0 : ∀ tgt, Steps p.tables e below (s₁.setTop (mkF m 0 #[.val (.ref a)] [])) tgt → Steps p.tables e below E0 tgt := fun tgt kont => by rw [hE0]; exact castTop (ef_RC m a) kont
  have go1 : ∀ tgt, Steps p.tables e below (s₁.setTop (mkF m 1 #[.val (.ref a)] [(.ref a)])) tgt → Steps p.tables e below E0 tgt := fun tgt kont => go0 tgt (by
    show Steps p.tables e below (s₁.setTop (mkF m 0 #[.val (.ref a)] [])) tgt
    refine XS.aloadN X0.here hx rfl (hb hby dRC_0) rfl rfl ?_
    exact kont)
  obtain ⟨T2, X2, e2, st2⟩ := initO X0 hx hZ hown (hw _ (List.mem_of_getElem? (i := 57) rfl)) (hw _ (List.mem_of_getElem? (i := 19) rfl)) (hw _ (List.mem_of_getElem? (i := 20) rfl)) e0 (g := (mkF m 1 #[.val (.ref a)] [(.ref a)])) rfl (by rw [hml]; rfl) rfl (hb hby dRC_1) (by decide) (W := 0) (by show 2 * 0 + _ ≤ _; exact Nat.le_of_eq rfl) (by decide)
  have go2 : ∀ tgt, Steps p.tables e below (T2.setTop (mkF m 4 #[.val (.ref a)] [])) tgt → Steps p.tables e below E0 tgt := fun tgt kont => go1 tgt (st2 tgt kont)
  obtain ⟨fs, hr, hrun, hended, hW, hsame⟩ := X2.leave (v := none) (fun _ => rfl)
  refine ⟨_, _, go2 _ ?_, hrun, hended, _, _, rfl, ?_, ⟨_, rfl⟩, hW, hsame.mono (by decide) (by decide)⟩
  · show Steps p.tables e below (T2.setTop (mkF m 4 #[.val (.ref a)] [])) _
    exact X2.returnOut hx Bd.returns (hb hby dRC_4) hr
  · show QRC Z a h0 n0 _ T2.heap _
    rw [e2]
    exact ⟨rfl, N0, rfl⟩
theorem pn_1 : plainName "java/util/Objects" = true := by first | (simp [plainName, overriddenIn]; done) | decide +kernel
theorem dRN_0 : decode jdk_31_method_11_code 0 = .ok (.aload_n 0, 1) := by decide +kernel
theorem dRN_1 : decode jdk_31_method_11_code 1 = .ok (.ifnonnull 12, 3) := by decide +kernel
theorem dRN_13 : decode jdk_31_method_11_code 13 = .ok (.aload_n 0, 1) := by decide +kernel
theorem dRN_14 : decode jdk_31_method_11_code 14 = .ok (.areturn, 1) := by decide +kernel
theorem ef_RN (m : MethodId) (x0 : Addr) (x1 : Addr) : entryFrame m #[(.ref x0), (.ref x1)] 2 = mkF m 0 #[.val (.ref x0), .val (.ref x1)] [] := by first | (simp [entryFrame, mkF, argsToLocals, Value.category, maxLocals]; done) | rfl
def QRN (Z : State) (a : Addr) (b : Addr) (h0 : Heap) (n0 : Nat) (v : Option Value) (h : Heap) (L : List Loc) : Prop := v = some (.ref a) ∧ Fr n0 L ∧ h = h0
set_option maxRecDepth 65536 in
set_option maxHeartbeats 40000000 in
theorem rmRN (l : Launch) (Z : State) (a0 : Array Value) (hw : ∀ d ∈ tables_1, d.before a0 Z = true) (ws : List Jvm.Cond) (a : Addr) (b : Addr) (h0 : Heap) (n0 : Nat) (Z0 : n0 ≤ h0.size) :
    MetFree l (⟨"java/util/Objects", "requireNonNull", "(Ljava/lang/Object;Ljava/lang/String;)Ljava/lang/Object;"⟩ : MethodName) (head1 (Jvm.Cond.code (⟨"java/util/Objects", "requireNonNull", "(Ljava/lang/Object;Ljava/lang/String;)Ljava/lang/Object;"⟩ : MethodName) jdk_31_method_11_code 2 (some (.object "java/lang/Object")) :: ws) ({ frames := 0, cells := 0, slots := 0, locals := 0 } : Room)) (fun as_ U => as_ = #[(.ref a), (.ref b)] ∧ Z.Warmed39 U.vm ∧ U.heap = h0) (fun _ _ _ _ _ => True) (fun _ U o U' => ∃ v L, o = .returned v ∧ QRN Z a b h0 n0 v U'.heap L ∧ FrameEnd U o U' L ({ frames := 0, cells := 0, slots := 0, locals := 0 } : Room).cells ({ frames := 0, cells := 0, slots := 0, locals := 0 } : Room).slots) := by
  refine MetFree.of_bodySF (plainFor_of_name pn_1) hisR ?_
  intro p e s m args below meth c s₁ Bd hml0 hP hK
  obtain ⟨rfl, hZ, hh⟩ := hP
  have hx := Bd.exec
  have hby := Bd.bytes
  have hml : c.maxLocals = 2 := hml0
  have hown : s.vm.findClass "java/util/Objects" = some m.cls := findClass_of_methodNamed Bd.named
  have hnm := (name_of_methodNamed Bd.named Bd.method).1
  have X0 : Stand p l e ({ frames := 0, cells := 0, slots := 0, locals := 0 } : Room) s m #[(.ref a), (.ref b)] below meth c s₁ [] 0 0 := Stand.of_body Bd
  have e0 : s₁.heap = h0 := by rw [← hh, Bd.state]; rfl
  have N0 := Fr.nil n0
  obtain ⟨E0, hE0⟩ : ∃ z, z = s₁.setTop (entryFrame m #[(.ref a), (.ref b)] 2) := ⟨_, rfl⟩
  rw [← hE0]
  have go0 : ∀ tgt, Steps p.tables e below (s₁.setTop (mkF m 0 #[.val (.ref a), .val (.ref b)] [])) tgt → Steps p.tables e below E0 tgt := fun tgt kont => by rw [hE0]; exact castTop (ef_RN m a b) kont
  have go1 : ∀ tgt, Steps p.tables e below (s₁.setTop (mkF m 14 #[.val (.ref a), .val (.ref b)] [(.ref a)])) tgt → Steps p.tables e below E0 tgt := fun tgt kont => go0 tgt (by
    show Steps p.tables e below (s₁.setTop (mkF m 0 #[.val (.ref a), .val (.ref b)] [])) tgt
    refine XS.aloadN X0.here hx rfl (hb hby dRN_0) rfl rfl ?_
    show Steps p.tables e below (s₁.setTop (mkF m 1 #[.val (.ref a), .val (.ref b)] [(.ref a)])) tgt
    refine XS.ifnonnullYes X0.here hx rfl (pc0 := 1) (pc' := 13) rfl (hb hby dRN_1) rfl (by decide) (by decide) ?_
    show Steps p.tables e below (s₁.setTop (mkF m 13 #[.val (.ref a), .val (.ref b)] [])) tgt
    refine XS.aloadN X0.here hx rfl (hb hby dRN_13) rfl rfl ?_
    exact kont)
  obtain ⟨fs, hr, hrun, hended, hW, hsame⟩ := X0.leave (v := some (.ref a)) (fun h => by rw [Bd.returns] at h; cases h)
  refine ⟨_, _, go1 _ ?_, hrun, hended, _, _, rfl, ?_, ⟨_, rfl⟩, hW, hsame.mono (by decide) (by decide)⟩
  · show Steps p.tables e below (s₁.setTop (mkF m 14 #[.val (.ref a), .val (.ref b)] [(.ref a)])) _
    exact retOut X0 hx Bd.returns rfl (Or.inr (Or.inr (Or.inr (Or.inr ⟨rfl, rfl, rfl⟩)))) (hb hby dRN_14) hr
  · show QRN Z a b h0 n0 _ s₁.heap _
    rw [e0]
    exact ⟨rfl, N0, rfl⟩
theorem pd_2 : parseMethodDescriptor "([C)V" = some ⟨[(.array .char)], none⟩ := by decide +kernel
theorem pn_3 : plainName "bourseline/model/MemberSessionEqualsPinLaw" = true := by first | (simp [plainName, overriddenIn]; done) | decide +kernel
theorem dSR_0 : decode method_2_code 0 = .ok (.new 7, 3) := by decide +kernel
theorem dSR_3 : decode method_2_code 3 = .ok (.dup, 1) := by decide +kernel
theorem dSR_4 : decode method_2_code 4 = .ok (.iconst 2, 1) := by decide +kernel
theorem dSR_5 : decode method_2_code 5 = .ok (.newarray .char, 2) := by decide +kernel
theorem dSR_7 : decode method_2_code 7 = .ok (.dup, 1) := by decide +kernel
theorem dSR_8 : decode method_2_code 8 = .ok (.iconst 0, 1) := by decide +kernel
theorem dSR_9 : decode method_2_code 9 = .ok (.iload_n 0, 1) := by decide +kernel
theorem dSR_10 : decode method_2_code 10 = .ok (.i2c, 1) := by decide +kernel
theorem dSR_11 : decode method_2_code 11 = .ok (.castore, 1) := by decide +kernel
theorem dSR_12 : decode method_2_code 12 = .ok (.dup, 1) := by decide +kernel
theorem dSR_13 : decode method_2_code 13 = .ok (.iconst 1, 1) := by decide +kernel
theorem dSR_14 : decode method_2_code 14 = .ok (.iload_n 1, 1) := by decide +kernel
theorem dSR_15 : decode method_2_code 15 = .ok (.i2c, 1) := by decide +kernel
theorem dSR_16 : decode method_2_code 16 = .ok (.castore, 1) := by decide +kernel
theorem dSR_17 : decode method_2_code 17 = .ok (.invokespecial 9, 3) := by decide +kernel
theorem dSR_20 : decode method_2_code 20 = .ok (.areturn, 1) := by decide +kernel
theorem ef_SR (m : MethodId) (x0 : Int32) (x1 : Int32) : entryFrame m #[(.int x0), (.int x1)] 2 = mkF m 0 #[.val (.int x0), .val (.int x1)] [] := by first | (simp [entryFrame, mkF, argsToLocals, Value.category, maxLocals]; done) | rfl
def QSR (Z : State) (c0 : Int32) (c1 : Int32) (G : Int32) (h0 : Heap) (n0 : Nat) (v : Option Value) (h : Heap) (L : List Loc) : Prop := v = some (.ref h0.size) ∧ Fr n0 L ∧ Keep h0 h [] ∧ Exa Z h h0.size "java/lang/String" ∧ Fld Z h h0.size "java/lang/String" "coder" "B" (.int (0 : Int32)) ∧ ∃ (t : Addr) (kb : ClassId), h0.size < t ∧ n0 ≤ t ∧ Fld Z h h0.size "java/lang/String" "value" "[B" (.ref t) ∧ Arv Z h t kb .byte (2 : Int32) ((([c0, c1] : List Int32).map (fun c => c.toInt8.toInt32)).map Value.int) (.int (0 : Int32))
set_option maxRecDepth 65536 in
set_option maxHeartbeats 40000000 in
theorem rmSR (l : Launch) (Z : State) (a0 : Array Value) (hw : ∀ d ∈ tables_1, d.before a0 Z = true) (ws : List Jvm.Cond) (c0 : Int32) (c1 : Int32) (G : Int32) (h0 : Heap) (n0 : Nat) (Z0 : n0 ≤ h0.size) (hc0 : (¬ c0 < 0 ∧ ¬ (255 : Int32) < c0)) (hc1 : (¬ c1 < 0 ∧ ¬ (255 : Int32) < c1)) (SC : Sta Z Z.heap "java/lang/String" "COMPACT_STRINGS" "Z" (.int G)) (hG : ¬ (G = (0 : Int32))) (O0 : Old Z n0 h0) :
    MetFree l (⟨"bourseline/model/MemberSessionEqualsPinLaw", "str", "(II)Ljava/lang/String;"⟩ : MethodName) (head1 (Jvm.Cond.code (⟨"bourseline/model/MemberSessionEqualsPinLaw", "str", "(II)Ljava/lang/String;"⟩ : MethodName) method_2_code 2 (some (.object "java/lang/String")) :: ws) ({ frames := 4, cells := 3, slots := 8, locals := 66 } : Room)) (fun as_ U => as_ = #[(.int c0), (.int c1)] ∧ Z.Warmed39 U.vm ∧ U.heap = h0) (fun _ _ _ _ _ => True) (fun _ U o U' => ∃ v L, o = .returned v ∧ QSR Z c0 c1 G h0 n0 v U'.heap L ∧ FrameEnd U o U' L ({ frames := 4, cells := 3, slots := 8, locals := 66 } : Room).cells ({ frames := 4, cells := 3, slots := 8, locals := 66 } : Room).slots) := by
  refine MetFree.of_bodySF (plainFor_of_name pn_3) hisR ?_
  intro p e s m args below meth c s₁ Bd hml0 hP hK
  obtain ⟨rfl, hZ, hh⟩ := hP
  have hx := Bd.exec
  have hby := Bd.bytes
  have hml : c.maxLocals = 2 := hml0
  have hown : s.vm.findClass "bourseline/model/MemberSessionEqualsPinLaw" = some m.cls := findClass_of_methodNamed Bd.named
  have hnm := (name_of_methodNamed Bd.named Bd.method).1
  have X0 : Stand p l e ({ frames := 4, cells := 3, slots := 8, locals := 66 } : Room) s m #[(.int c0), (.int c1)] below meth c s₁ [] 0 0 := Stand.of_body Bd
  have e0 : s₁.heap = h0 := by rw [← hh, Bd.state]; rfl
  have N0 := Fr.nil n0
  obtain ⟨E0, hE0⟩ : ∃ z, z = s₁.setTop (entryFrame m #[(.int c0), (.int c1)] 2) := ⟨_, rfl⟩
  rw [← hE0]
  have go0 : ∀ tgt, Steps p.tables e below (s₁.setTop (mkF m 0 #[.val (.int c0), .val (.int c1)] [])) tgt → Steps p.tables e below E0 tgt := fun tgt kont => by rw [hE0]; exact castTop (ef_SR m c0 c1) kont
  have hws : ∀ d ∈ StrChars.Road.words, d.before a0 Z = true := fun d hd => hw d ((by decide +kernel : ∀ d ∈ StrChars.Road.words, d ∈ tables_1) d hd)
  obtain ⟨T1, h1, X1, e1, E1, A1, D1, -, st1⟩ := newO X0 hx hZ hown (hw _ (List.mem_of_getElem? (i := 7) rfl)) (hw _ (List.mem_of_getElem? (i := 8) rfl)) (hw _ (List.mem_of_getElem? (i := 9) rfl)) e0 (g := (mkF m 0 #[.val (.int c0), .val (.int c1)] [])) rfl (hb hby dSR_0) (by decide) (by decide)
  obtain ⟨st, g1⟩ : ∃ z, z = h0.size := ⟨_, rfl⟩
  rw [← g1] at A1 D1 st1
  have ge_st : n0 ≤ st := Nat.le_trans Z0 (Nat.le_of_eq g1.symm)
  have hz_st : h0.size ≤ st := Nat.le_trans (Keep.refl h0 []).1 (Nat.le_of_eq g1.symm)
  have z2 : n0 ≤ h1.size := Nat.le_trans Z0 E1.1
  have K3 : Keep h0 h1 [] := (Keep.refl h0 []).ext E1
  have Fcoder_st : Fld Z h1 st "java/lang/String" "coder" "B" (.int (0 : Int32)) := D1 (Or.inr (hw _ (List.mem_of_getElem? (i := 34) rfl))) (ty := .byte) (by decide)
  have Fvalue_st : Fld Z h1 st "java/lang/String" "value" "[B" .null := D1 (Or.inr (hw _ (List.mem_of_getElem? (i := 36) rfl))) (ty := (.array .byte)) (by decide)
  have go1 : ∀ tgt, Steps p.tables e below (T1.setTop (mkF m 3 #[.val (.int c0), .val (.int c1)] [(.ref st)])) tgt → Steps p.tables e below E0 tgt := fun tgt kont => go0 tgt (st1 tgt kont)
  have go4 : ∀ tgt, Steps p.tables e below (T1.setTop (mkF m 5 #[.val (.int c0), .val (.int c1)] [(.int (2 : Int32)), (.ref st), (.ref st)])) tgt → Steps p.tables e below E0 tgt := fun tgt kont => go1 tgt (by
    show Steps p.tables e below (T1.setTop (mkF m 3 #[.val (.int c0), .val (.int c1)] [(.ref st)])) tgt
    refine XS.dup X1.here hx rfl (hb hby dSR_3) rfl rfl ?_
    show Steps p.tables e below (T1.setTop (mkF m 4 #[.val (.int c0), .val (.int c1)] [(.ref st), (.ref st)])) tgt
    refine XS.iconst X1.here hx rfl (hb hby dSR_4) ?_
    exact kont)
  obtain ⟨T5, h5, k5, X5, e5, E5, A5, st5⟩ := newP X1 hx hZ (hw _ (List.mem_of_getElem? (i := 10) rfl)) e1 (g := (mkF m 5 #[.val (.int c0), .val (.int c1)] [(.int (2 : Int32)), (.ref st), (.ref st)])) rfl (hb hby dSR_5) rfl (by decide) (cap := 2) (by decide) (by decide) (by decide) (by decide)
  obtain ⟨ca, g5⟩ : ∃ z, z = h1.size := ⟨_, rfl⟩
  rw [← g5] at A5 st5
  have ne_st_ca : st ≠ ca := Nat.ne_of_lt (Nat.lt_of_lt_of_le A1.lt (Nat.le_of_eq g5.symm))
  have ge_ca : n0 ≤ ca := Nat.le_trans z2 (Nat.le_of_eq g5.symm)
  have hz_ca : h0.size ≤ ca := Nat.le_trans K3.1 (Nat.le_of_eq g5.symm)
  have z6 : n0 ≤ h5.size := Nat.le_trans z2 E5.1
  have K7 : Keep h0 h5 [] := K3.ext E5
  have V5 : Arv Z h5 ca k5 .char (2 : Int32) [] (.int (0 : Int32)) := Arv.new A5 (by decide)
  have go5 : ∀ tgt, Steps p.tables e below (T5.setTop (mkF m 7 #[.val (.int c0), .val (.int c1)] [(.ref ca), (.ref st), (.ref st)])) tgt → Steps p.tables e below E0 tgt := fun tgt kont => go4 tgt (st5 tgt kont)
  have go8 : ∀ tgt, Steps p.tables e below (T5.setTop (mkF m 11 #[.val (.int c0), .val (.int c1)] [(.int (c0.toUInt32.toUInt16.toUInt32.toInt32)), (.int (0 : Int32)), (.ref ca), (.ref ca), (.ref st), (.ref st)])) tgt → Steps p.tables e below E0 tgt := fun tgt kont => go5 tgt (by
    show Steps p.tables e below (T5.setTop (mkF m 7 #[.val (.int c0), .val (.int c1)] [(.ref ca), (.ref st), (.ref st)])) tgt
    refine XS.dup X5.here hx rfl (hb hby dSR_7) rfl rfl ?_
    show Steps p.tables e below (T5.setTop (mkF m 8 #[.val (.int c0), .val (.int c1)] [(.ref ca), (.ref ca), (.ref st), (.ref st)])) tgt
    refine XS.iconst X5.here hx rfl (hb hby dSR_8) ?_
    show Steps p.tables e below (T5.setTop (mkF m 9 #[.val (.int c0), .val (.int c1)] [(.int (0 : Int32)), (.ref ca), (.ref ca), (.ref st), (.ref st)])) tgt
    refine XS.iloadN X5.here hx rfl (hb hby dSR_9) rfl ?_
    show Steps p.tables e below (T5.setTop (mkF m 10 #[.val (.int c0), .val (.int c1)] [(.int c0), (.int (0 : Int32)), (.ref ca), (.ref ca), (.ref st), (.ref st)])) tgt
    refine XS.i2c X5.here hx rfl (hb hby dSR_10) rfl ?_
    exact kont)
  have p9 : Arv Z h5 ca k5 .char (2 : Int32) [(.int (0 : Int32))] (.int (0 : Int32)) := V5.pad (pad_rep [] (.int (0 : Int32)) 1)
  obtain ⟨c10, Ar10, q10, S10, M10, Hh10, G10⟩ := id p9
  obtain ⟨T10, h10, X10, e10, W10, st10⟩ := stC X5 hx hZ e5 Ar10 (j := (0 : Int32)) (inb_of S10 ⟨by decide, by decide⟩) (g := (mkF m 11 #[.val (.int c0), .val (.int c1)] [(.int (c0.toUInt32.toUInt16.toUInt32.toInt32)), (.int (0 : Int32)), (.ref ca), (.ref ca), (.ref st), (.ref st)])) rfl rfl (hb hby dSR_11)
  have z11 : n0 ≤ h10.size := Nat.le_trans z6 (Keep.of_wr W10).1
  have K12 : Keep h0 h10 [] := K7.wr W10 (Or.inr hz_ca)
  have N10 := Fr.snoc X10 N0 ge_ca
  have f13 : Arv Z h10 ca k5 .char (2 : Int32) [(.int (nar .char (c0.toUInt32.toUInt16.toUInt32.toInt32)))] (.int (0 : Int32)) := Arv.set Ar10 q10 S10 M10 Hh10 G10 (fits_nar_char _) W10 0 rfl (Nat.le_of_ble_eq_true rfl)
  have go10 : ∀ tgt, Steps p.tables e below (T10.setTop (mkF m 12 #[.val (.int c0), .val (.int c1)] [(.ref ca), (.ref st), (.ref st)])) tgt → Steps p.tables e below E0 tgt := fun tgt kont => go8 tgt (st10 tgt kont)
  have go14 : ∀ tgt, Steps p.tables e below (T10.setTop (mkF m 16 #[.val (.int c0), .val (.int c1)] [(.int (c1.toUInt32.toUInt16.toUInt32.toInt32)), (.int (1 : Int32)), (.ref ca), (.ref ca), (.ref st), (.ref st)])) tgt → Steps p.tables e below E0 tgt := fun tgt kont => go10 tgt (by
    show Steps p.tables e below (T10.setTop (mkF m 12 #[.val (.int c0), .val (.int c1)] [(.ref ca), (.ref st), (.ref st)])) tgt
    refine XS.dup X10.here hx rfl (hb hby dSR_12) rfl rfl ?_
    show Steps p.tables e below (T10.setTop (mkF m 13 #[.val (.int c0), .val (.int c1)] [(.ref ca), (.ref ca), (.ref st), (.ref st)])) tgt
    refine XS.iconst X10.here hx rfl (hb hby dSR_13) ?_
    show Steps p.tables e below (T10.setTop (mkF m 14 #[.val (.int c0), .val (.int c1)] [(.int (1 : Int32)), (.ref ca), (.ref ca), (.ref st), (.ref st)])) tgt
    refine XS.iloadN X10.here hx rfl (hb hby dSR_14) rfl ?_
    show Steps p.tables e below (T10.setTop (mkF m 15 #[.val (.int c0), .val (.int c1)] [(.int c1), (.int (1 : Int32)), (.ref ca), (.ref ca), (.ref st), (.ref st)])) tgt
    refine XS.i2c X10.here hx rfl (hb hby dSR_15) rfl ?_
    exact kont)
  have p15 : Arv Z h10 ca k5 .char (2 : Int32) [(.int (nar .char (c0.toUInt32.toUInt16.toUInt32.toInt32))), (.int (0 : Int32))] (.int (0 : Int32)) := f13.pad (pad_rep [(.int (nar .char (c0.toUInt32.toUInt16.toUInt32.toInt32)))] (.int (0 : Int32)) 1)
  obtain ⟨c16, Ar16, q16, S16, M16, Hh16, G16⟩ := id p15
  obtain ⟨T16, h16, X16, e16, W16, st16⟩ := stC X10 hx hZ e10 Ar16 (j := (1 : Int32)) (inb_of S16 ⟨by decide, by decide⟩) (g := (mkF m 16 #[.val (.int c0), .val (.int c1)] [(.int (c1.toUInt32.toUInt16.toUInt32.toInt32)), (.int (1 : Int32)), (.ref ca), (.ref ca), (.ref st), (.ref st)])) rfl rfl (hb hby dSR_16)
  have z17 : n0 ≤ h16.size := Nat.le_trans z11 (Keep.of_wr W16).1
  have K18 : Keep h0 h16 [] := K12.wr W16 (Or.inr hz_ca)
  have N16 := Fr.snoc X16 N10 ge_ca
  have f19 : Arv Z h16 ca k5 .char (2 : Int32) [(.int (nar .char (c0.toUInt32.toUInt16.toUInt32.toInt32))), (.int (nar .char (c1.toUInt32.toUInt16.toUInt32.toInt32)))] (.int (0 : Int32)) := Arv.set Ar16 q16 S16 M16 Hh16 G16 (fits_nar_char _) W16 1 rfl (Nat.le_of_ble_eq_true rfl)
  have go16 : ∀ tgt, Steps p.tables e below (T16.setTop (mkF m 17 #[.val (.int c0), .val (.int c1)] [(.ref ca), (.ref st), (.ref st)])) tgt → Steps p.tables e below E0 tgt := fun tgt kont => go14 tgt (st16 tgt kont)
  have Ax : Arv Z h16 ca k5 .char (2 : Int32) [(.int c0), (.int c1)] (.int (0 : Int32)) := by
    have q := f19
    rw [own_ch hc0, own_ch hc1] at q
    exact q
  have hp := own_two hc0 hc1
  have f20 : Old Z n0 h16 := ((((O0.ext E1).ext E5).wr W10 ge_ca).wr W16 ge_ca)
  have f21 : Exa Z h16 st "java/lang/String" := (((A1.ext E5).wr W10).wr W16)
  have f22 : Fld Z h16 st "java/lang/String" "value" "[B" .null := (((Fvalue_st.ext E5).other W10 (Or.inl ne_st_ca)).other W16 (Or.inl ne_st_ca))
  have f23 : Fld Z h16 st "java/lang/String" "coder" "B" (.int (0 : Int32)) := (((Fcoder_st.ext E5).other W10 (Or.inl ne_st_ca)).other W16 (Or.inl ne_st_ca))
  obtain ⟨_, _, ⟨T24, L24, k24, n24⟩, -, X24, ⟨Lc24, hQ24, l24, y24, z24⟩, st24⟩ := X16.specialBack hx (y := (⟨"java/lang/String", "<init>", "([C)V"⟩ : MethodName)) rfl hown (mvT hZ (hw _ (List.mem_of_getElem? (i := 11) rfl))) (mvT hZ (hw _ (List.mem_of_getElem? (i := 12) rfl))) (mvT hZ (hw _ (List.mem_of_getElem? (i := 13) rfl))) (by decide) (StrChars.Road.backV (W := 1) hZ hws (kI := 4) (hw _ (List.mem_of_getElem? (i := 8) rfl)) (cs := ([c0, c1] : List Int32)) (bs := ([c0, c1] : List Int32).map (fun c => c.toInt8.toInt32)) (n := 2) ge_st z17 f21 f22 f23 Ax (SC.ext f20.2) hG rfl rfl (by decide) (by decide) hp rfl (by decide) (by decide)) (g := (mkF m 17 #[.val (.int c0), .val (.int c1)] [(.ref ca), (.ref st), (.ref st)])) rfl (by rw [hml]; rfl) (Steps.refl _) (a := st) (argsL := [(.ref ca)]) (rest := [(.ref st)]) (lenOf pd_2 rfl) rfl (by show 2 * 0 + _ ≤ _; exact Nat.le_of_eq rfl) (hb hby dSR_17) (fun _ _ => ⟨rfl, e16, (by decide : 2 + 1 ≤ _), (by decide : 6 + 2 ≤ _)⟩)
  dsimp only [Pt.U, Pt.locs, Pt.cells, Pt.slots] at X24 l24 y24 z24 st24 hQ24
  subst l24 y24 z24
  obtain ⟨rfl, N24q, KS, ES, FcS, tS, kbS, gtS, ztS, ntS, FvS, AvS⟩ := hQ24
  have N24 := Fr.app N16 N24q
  have z25 : n0 ≤ T24.heap.size := Nat.le_trans z17 KS.1
  have K26 : Keep h0 T24.heap [] := K18.trans KS (allS (Or.inr hz_st) all0)
  have go24 : ∀ tgt, Steps p.tables e below (T24.setTop (mkF m 20 #[.val (.int c0), .val (.int c1)] [(.ref st)])) tgt → Steps p.tables e below E0 tgt := fun tgt kont => go16 tgt (st24.trans kont)
  have lt_st_tS : st < tS := Nat.lt_of_lt_of_le (Nat.lt_of_lt_of_le A1.lt (Nat.le_trans (Nat.le_trans E5.1 (Keep.of_wr W10).1) (Keep.of_wr W16).1)) ztS
  have ne_ca_tS : ca ≠ tS := Nat.ne_of_lt (Nat.lt_of_lt_of_le (Nat.lt_of_lt_of_le V5.lt (Nat.le_trans (Keep.of_wr W10).1 (Keep.of_wr W16).1)) ztS)
  subst g1
  obtain ⟨fs, hr, hrun, hended, hW, hsame⟩ := X24.leave (v := some (.ref h0.size)) (fun h => by rw [Bd.returns] at h; cases h)
  refine ⟨_, _, go24 _ ?_, hrun, hended, _, _, rfl, ?_, ⟨_, rfl⟩, hW, hsame.mono (by decide) (by decide)⟩
  · show Steps p.tables e below (T24.setTop (mkF m 20 #[.val (.int c0), .val (.int c1)] [(.ref h0.size)])) _
    exact retOut X24 hx Bd.returns rfl (Or.inr (Or.inr (Or.inr (Or.inr ⟨rfl, rfl, rfl⟩)))) (hb hby dSR_20) hr
  · show QSR Z c0 c1 G h0 n0 _ T24.heap _
    exact ⟨rfl, N24, K26, ES, FcS, tS, kbS, lt_st_tS, gtS, FvS, AvS⟩
theorem dVS_0 : decode method_3_code 0 = .ok (.iload_n 0, 1) := by decide +kernel
theorem dVS_1 : decode method_3_code 1 = .ok (.ifCond .ne 7, 3) := by decide +kernel
theorem dVS_4 : decode method_3_code 4 = .ok (.getstatic 12, 3) := by decide +kernel
theorem dVS_7 : decode method_3_code 7 = .ok (.areturn, 1) := by decide +kernel
theorem dVS_8 : decode method_3_code 8 = .ok (.iload_n 0, 1) := by decide +kernel
theorem dVS_9 : decode method_3_code 9 = .ok (.iconst 1, 1) := by decide +kernel
theorem dVS_10 : decode method_3_code 10 = .ok (.if_icmp .ne 7, 3) := by decide +kernel
theorem dVS_13 : decode method_3_code 13 = .ok (.getstatic 18, 3) := by decide +kernel
theorem dVS_16 : decode method_3_code 16 = .ok (.areturn, 1) := by decide +kernel
theorem dVS_17 : decode method_3_code 17 = .ok (.getstatic 21, 3) := by decide +kernel
theorem dVS_20 : decode method_3_code 20 = .ok (.areturn, 1) := by decide +kernel
theorem ef_VS (m : MethodId) (x0 : Int32) : entryFrame m #[(.int x0)] 1 = mkF m 0 #[.val (.int x0)] [] := by first | (simp [entryFrame, mkF, argsToLocals, Value.category, maxLocals]; done) | rfl
def QVS (Z : State) (i : Int32) (g0 : Addr) (g1 : Addr) (g2 : Addr) (h0 : Heap) (n0 : Nat) (v : Option Value) (h : Heap) (L : List Loc) : Prop := v = some (.ref (own_vs g0 g1 g2 i)) ∧ Fr n0 L ∧ h = h0
set_option maxRecDepth 65536 in
set_option maxHeartbeats 40000000 in
theorem rmVS (l : Launch) (Z : State) (a0 : Array Value) (hw : ∀ d ∈ tables_1, d.before a0 Z = true) (ws : List Jvm.Cond) (i : Int32) (g0 : Addr) (g1 : Addr) (g2 : Addr) (h0 : Heap) (n0 : Nat) (Z0 : n0 ≤ h0.size) (S0 : Sta Z h0 "bourseline/model/FixVersion" "FIX_4_2" "Lbourseline/model/FixVersion;" (.ref g0)) (S1 : Sta Z h0 "bourseline/model/FixVersion" "FIX_4_4" "Lbourseline/model/FixVersion;" (.ref g1)) (S2 : Sta Z h0 "bourseline/model/FixVersion" "FIX_5_0_SP2" "Lbourseline/model/FixVersion;" (.ref g2)) :
    MetFree l (⟨"bourseline/model/MemberSessionEqualsPinLaw", "version", "(I)Lbourseline/model/FixVersion;"⟩ : MethodName) (head1 (Jvm.Cond.code (⟨"bourseline/model/MemberSessionEqualsPinLaw", "version", "(I)Lbourseline/model/FixVersion;"⟩ : MethodName) method_3_code 1 (some (.object "bourseline/model/FixVersion")) :: ws) ({ frames := 0, cells := 0, slots := 0, locals := 0 } : Room)) (fun as_ U => as_ = #[(.int i)] ∧ Z.Warmed39 U.vm ∧ U.heap = h0) (fun _ _ _ _ _ => True) (fun _ U o U' => ∃ v L, o = .returned v ∧ QVS Z i g0 g1 g2 h0 n0 v U'.heap L ∧ FrameEnd U o U' L ({ frames := 0, cells := 0, slots := 0, locals := 0 } : Room).cells ({ frames := 0, cells := 0, slots := 0, locals := 0 } : Room).slots) := by
  refine MetFree.of_bodySF (plainFor_of_name pn_3) hisR ?_
  intro p e s m args below meth c s₁ Bd hml0 hP hK
  obtain ⟨rfl, hZ, hh⟩ := hP
  have hx := Bd.exec
  have hby := Bd.bytes
  have hml : c.maxLocals = 1 := hml0
  have hown : s.vm.findClass "bourseline/model/MemberSessionEqualsPinLaw" = some m.cls := findClass_of_methodNamed Bd.named
  have hnm := (name_of_methodNamed Bd.named Bd.method).1
  have X0 : Stand p l e ({ frames := 0, cells := 0, slots := 0, locals := 0 } : Room) s m #[(.int i)] below meth c s₁ [] 0 0 := Stand.of_body Bd
  have e0 : s₁.heap = h0 := by rw [← hh, Bd.state]; rfl
  have N0 := Fr.nil n0
  obtain ⟨E0, hE0⟩ : ∃ z, z = s₁.setTop (entryFrame m #[(.int i)] 1) := ⟨_, rfl⟩
  rw [← hE0]
  have go0 : ∀ tgt, Steps p.tables e below (s₁.setTop (mkF m 0 #[.val (.int i)] [])) tgt → Steps p.tables e below E0 tgt := fun tgt kont => by rw [hE0]; exact castTop (ef_VS m i) kont
  have go1 : ∀ tgt, Steps p.tables e below (s₁.setTop (mkF m 1 #[.val (.int i)] [(.int i)])) tgt → Steps p.tables e below E0 tgt := fun tgt kont => go0 tgt (by
    show Steps p.tables e below (s₁.setTop (mkF m 0 #[.val (.int i)] [])) tgt
    refine XS.iloadN X0.here hx rfl (hb hby dVS_0) rfl ?_
    exact kont)
  by_cases h0i : i = (0 : Int32)
  · have go2 : ∀ tgt, Steps p.tables e below (s₁.setTop (mkF m 4 #[.val (.int i)] [])) tgt → Steps p.tables e below E0 tgt := fun tgt kont => go1 tgt (by
      show Steps p.tables e below (s₁.setTop (mkF m 1 #[.val (.int i)] [(.int i)])) tgt
      refine XS.ifNo X0.here hx rfl (hb hby dVS_1) rfl ((if0 _ _).trans (teq h0i).2) ?_
      exact kont)
    obtain ⟨T3, X3, e3, st3⟩ := getS2 X0 hx hZ hown (host := "") (Or.inl (hw _ (List.mem_of_getElem? (i := 83) rfl))) Via.refl e0 S0 (g := (mkF m 4 #[.val (.int i)] [])) rfl (hb hby dVS_4)
    have go3 : ∀ tgt, Steps p.tables e below (T3.setTop (mkF m 7 #[.val (.int i)] [(.ref g0)])) tgt → Steps p.tables e below E0 tgt := fun tgt kont => go2 tgt (st3 tgt kont)
    have hv : own_vs g0 g1 g2 i = g0 := by rw [own_vs, if_pos h0i]
    obtain ⟨fs, hr, hrun, hended, hW, hsame⟩ := X3.leave (v := some (.ref g0)) (fun h => by rw [Bd.returns] at h; cases h)
    refine ⟨_, _, go3 _ ?_, hrun, hended, _, _, rfl, ?_, ⟨_, rfl⟩, hW, hsame.mono (by decide) (by decide)⟩
    · show Steps p.tables e below (T3.setTop (mkF m 7 #[.val (.int i)] [(.ref g0)])) _
      exact retOut X3 hx Bd.returns rfl (Or.inr (Or.inr (Or.inr (Or.inr ⟨rfl, rfl, rfl⟩)))) (hb hby dVS_7) hr
    · show QVS Z i g0 g1 g2 h0 n0 _ T3.heap _
      rw [e3]
      exact ⟨by rw [hv], N0, rfl⟩
  · have go4 : ∀ tgt, Steps p.tables e below (s₁.setTop (mkF m 10 #[.val (.int i)] [(.int (1 : Int32)), (.int i)])) tgt → Steps p.tables e below E0 tgt := fun tgt kont => go1 tgt (by
      show Steps p.tables e below (s₁.setTop (mkF m 1 #[.val (.int i)] [(.int i)])) tgt
      refine XS.ifYes X0.here hx rfl (pc0 := 1) (pc' := 8) rfl (hb hby dVS_1) rfl ((if0 _ _).trans (feq h0i).2) (by decide) (by decide) ?_
      show Steps p.tables e below (s₁.setTop (mkF m 8 #[.val (.int i)] [])) tgt
      refine XS.iloadN X0.here hx rfl (hb hby dVS_8) rfl ?_
      show Steps p.tables e below (s₁.setTop (mkF m 9 #[.val (.int i)] [(.int i)])) tgt
      refine XS.iconst X0.here hx rfl (hb hby dVS_9) ?_
      exact kont)
    by_cases h1i : i = (1 : Int32)
    · have go5 : ∀ tgt, Steps p.tables e below (s₁.setTop (mkF m 13 #[.val (.int i)] [])) tgt → Steps p.tables e below E0 tgt := fun tgt kont => go4 tgt (by
        show Steps p.tables e below (s₁.setTop (mkF m 10 #[.val (.int i)] [(.int (1 : Int32)), (.int i)])) tgt
        refine XS.icmpNo X0.here hx rfl (hb hby dVS_10) rfl (teq h1i).2 ?_
        exact kont)
      obtain ⟨T6, X6, e6, st6⟩ := getS2 X0 hx hZ hown (host := "") (Or.inl (hw _ (List.mem_of_getElem? (i := 40) rfl))) Via.refl e0 S1 (g := (mkF m 13 #[.val (.int i)] [])) rfl (hb hby dVS_13)
      have go6 : ∀ tgt, Steps p.tables e below (T6.setTop (mkF m 16 #[.val (.int i)] [(.ref g1)])) tgt → Steps p.tables e below E0 tgt := fun tgt kont => go5 tgt (st6 tgt kont)
      have hv : own_vs g0 g1 g2 i = g1 := by rw [own_vs, if_neg h0i, if_pos h1i]
      obtain ⟨fs, hr, hrun, hended, hW, hsame⟩ := X6.leave (v := some (.ref g1)) (fun h => by rw [Bd.returns] at h; cases h)
      refine ⟨_, _, go6 _ ?_, hrun, hended, _, _, rfl, ?_, ⟨_, rfl⟩, hW, hsame.mono (by decide) (by decide)⟩
      · show Steps p.tables e below (T6.setTop (mkF m 16 #[.val (.int i)] [(.ref g1)])) _
        exact retOut X6 hx Bd.returns rfl (Or.inr (Or.inr (Or.inr (Or.inr ⟨rfl, rfl, rfl⟩)))) (hb hby dVS_16) hr
      · show QVS Z i g0 g1 g2 h0 n0 _ T6.heap _
        rw [e6]
        exact ⟨by rw [hv], N0, rfl⟩
    · have go7 : ∀ tgt, Steps p.tables e below (s₁.setTop (mkF m 17 #[.val (.int i)] [])) tgt → Steps p.tables e below E0 tgt := fun tgt kont => go4 tgt (by
        show Steps p.tables e below (s₁.setTop (mkF m 10 #[.val (.int i)] [(.int (1 : Int32)), (.int i)])) tgt
        refine XS.icmpYes X0.here hx rfl (pc0 := 10) (pc' := 17) rfl (hb hby dVS_10) rfl (feq h1i).2 (by decide) (by decide) ?_
        exact kont)
      obtain ⟨T8, X8, e8, st8⟩ := getS2 X0 hx hZ hown (host := "") (Or.inl (hw _ (List.mem_of_getElem? (i := 85) rfl))) Via.refl e0 S2 (g := (mkF m 17 #[.val (.int i)] [])) rfl (hb hby dVS_17)
      have go8 : ∀ tgt, Steps p.tables e below (T8.setTop (mkF m 20 #[.val (.int i)] [(.ref g2)])) tgt → Steps p.tables e below E0 tgt := fun tgt kont => go7 tgt (st8 tgt kont)
      have hv : own_vs g0 g1 g2 i = g2 := by rw [own_vs, if_neg h0i, if_neg h1i]
      obtain ⟨fs, hr, hrun, hended, hW, hsame⟩ := X8.leave (v := some (.ref g2)) (fun h => by rw [Bd.returns] at h; cases h)
      refine ⟨_, _, go8 _ ?_, hrun, hended, _, _, rfl, ?_, ⟨_, rfl⟩, hW, hsame.mono (by decide) (by decide)⟩
      · show Steps p.tables e below (T8.setTop (mkF m 20 #[.val (.int i)] [(.ref g2)])) _
        exact retOut X8 hx Bd.returns rfl (Or.inr (Or.inr (Or.inr (Or.inr ⟨rfl, rfl, rfl⟩)))) (hb hby dVS_20) hr
      · show QVS Z i g0 g1 g2 h0 n0 _ T8.heap _
        rw [e8]
        exact ⟨by rw [hv], N0, rfl⟩
theorem dRL_0 : decode method_4_code 0 = .ok (.iload_n 0, 1) := by decide +kernel
theorem dRL_1 : decode method_4_code 1 = .ok (.ifCond .ne 7, 3) := by decide +kernel
theorem dRL_4 : decode method_4_code 4 = .ok (.getstatic 24, 3) := by decide +kernel
theorem dRL_7 : decode method_4_code 7 = .ok (.areturn, 1) := by decide +kernel
theorem dRL_8 : decode method_4_code 8 = .ok (.iload_n 0, 1) := by decide +kernel
theorem dRL_9 : decode method_4_code 9 = .ok (.iconst 1, 1) := by decide +kernel
theorem dRL_10 : decode method_4_code 10 = .ok (.if_icmp .ne 7, 3) := by decide +kernel
theorem dRL_13 : decode method_4_code 13 = .ok (.getstatic 30, 3) := by decide +kernel
theorem dRL_16 : decode method_4_code 16 = .ok (.areturn, 1) := by decide +kernel
theorem dRL_17 : decode method_4_code 17 = .ok (.iload_n 0, 1) := by decide +kernel
theorem dRL_18 : decode method_4_code 18 = .ok (.iconst 2, 1) := by decide +kernel
theorem dRL_19 : decode method_4_code 19 = .ok (.if_icmp .ne 7, 3) := by decide +kernel
theorem dRL_22 : decode method_4_code 22 = .ok (.getstatic 33, 3) := by decide +kernel
theorem dRL_25 : decode method_4_code 25 = .ok (.areturn, 1) := by decide +kernel
theorem dRL_26 : decode method_4_code 26 = .ok (.aconst_null, 1) := by decide +kernel
theorem dRL_27 : decode method_4_code 27 = .ok (.areturn, 1) := by decide +kernel
theorem ef_RL (m : MethodId) (x0 : Int32) : entryFrame m #[(.int x0)] 1 = mkF m 0 #[.val (.int x0)] [] := by first | (simp [entryFrame, mkF, argsToLocals, Value.category, maxLocals]; done) | rfl
def QRL (Z : State) (i : Int32) (g0 : Addr) (g1 : Addr) (g2 : Addr) (h0 : Heap) (n0 : Nat) (v : Option Value) (h : Heap) (L : List Loc) : Prop := v = some (own_rl g0 g1 g2 i) ∧ Fr n0 L ∧ h = h0
set_option maxRecDepth 65536 in
set_option maxHeartbeats 40000000 in
theorem rmRL (l : Launch) (Z : State) (a0 : Array Value) (hw : ∀ d ∈ tables_1, d.before a0 Z = true) (ws : List Jvm.Cond) (i : Int32) (g0 : Addr) (g1 : Addr) (g2 : Addr) (h0 : Heap) (n0 : Nat) (Z0 : n0 ≤ h0.size) (S0 : Sta Z h0 "bourseline/model/SelfMatchInstruction" "CANCEL_AGGRESSIVE" "Lbourseline/model/SelfMatchInstruction;" (.ref g0)) (S1 : Sta Z h0 "bourseline/model/SelfMatchInstruction" "CANCEL_PASSIVE" "Lbourseline/model/SelfMatchInstruction;" (.ref g1)) (S2 : Sta Z h0 "bourseline/model/SelfMatchInstruction" "CANCEL_BOTH" "Lbourseline/model/SelfMatchInstruction;" (.ref g2)) :
    MetFree l (⟨"bourseline/model/MemberSessionEqualsPinLaw", "rule", "(I)Lbourseline/model/SelfMatchInstruction;"⟩ : MethodName) (head1 (Jvm.Cond.code (⟨"bourseline/model/MemberSessionEqualsPinLaw", "rule", "(I)Lbourseline/model/SelfMatchInstruction;"⟩ : MethodName) method_4_code 1 (some (.object "bourseline/model/SelfMatchInstruction")) :: ws) ({ frames := 0, cells := 0, slots := 0, locals := 0 } : Room)) (fun as_ U => as_ = #[(.int i)] ∧ Z.Warmed39 U.vm ∧ U.heap = h0) (fun _ _ _ _ _ => True) (fun _ U o U' => ∃ v L, o = .returned v ∧ QRL Z i g0 g1 g2 h0 n0 v U'.heap L ∧ FrameEnd U o U' L ({ frames := 0, cells := 0, slots := 0, locals := 0 } : Room).cells ({ frames := 0, cells := 0, slots := 0, locals := 0 } : Room).slots) := by
  refine MetFree.of_bodySF (plainFor_of_name pn_3) hisR ?_
  intro p e s m args below meth c s₁ Bd hml0 hP hK
  obtain ⟨rfl, hZ, hh⟩ := hP
  have hx := Bd.exec
  have hby := Bd.bytes
  have hml : c.maxLocals = 1 := hml0
  have hown : s.vm.findClass "bourseline/model/MemberSessionEqualsPinLaw" = some m.cls := findClass_of_methodNamed Bd.named
  have hnm := (name_of_methodNamed Bd.named Bd.method).1
  have X0 : Stand p l e ({ frames := 0, cells := 0, slots := 0, locals := 0 } : Room) s m #[(.int i)] below meth c s₁ [] 0 0 := Stand.of_body Bd
  have e0 : s₁.heap = h0 := by rw [← hh, Bd.state]; rfl
  have N0 := Fr.nil n0
  obtain ⟨E0, hE0⟩ : ∃ z, z = s₁.setTop (entryFrame m #[(.int i)] 1) := ⟨_, rfl⟩
  rw [← hE0]
  have go0 : ∀ tgt, Steps p.tables e below (s₁.setTop (mkF m 0 #[.val (.int i)] [])) tgt → Steps p.tables e below E0 tgt := fun tgt kont => by rw [hE0]; exact castTop (ef_RL m i) kont
  have go1 : ∀ tgt, Steps p.tables e below (s₁.setTop (mkF m 1 #[.val (.int i)] [(.int i)])) tgt → Steps p.tables e below E0 tgt := fun tgt kont => go0 tgt (by
    show Steps p.tables e below (s₁.setTop (mkF m 0 #[.val (.int i)] [])) tgt
    refine XS.iloadN X0.here hx rfl (hb hby dRL_0) rfl ?_
    exact kont)
  by_cases h0i : i = (0 : Int32)
  · have go2 : ∀ tgt, Steps p.tables e below (s₁.setTop (mkF m 4 #[.val (.int i)] [])) tgt → Steps p.tables e below E0 tgt := fun tgt kont => go1 tgt (by
      show Steps p.tables e below (s₁.setTop (mkF m 1 #[.val (.int i)] [(.int i)])) tgt
      refine XS.ifNo X0.here hx rfl (hb hby dRL_1) rfl ((if0 _ _).trans (teq h0i).2) ?_
      exact kont)
    obtain ⟨T3, X3, e3, st3⟩ := getS2 X0 hx hZ hown (host := "") (Or.inl (hw _ (List.mem_of_getElem? (i := 46) rfl))) Via.refl e0 S0 (g := (mkF m 4 #[.val (.int i)] [])) rfl (hb hby dRL_4)
    have go3 : ∀ tgt, Steps p.tables e below (T3.setTop (mkF m 7 #[.val (.int i)] [(.ref g0)])) tgt → Steps p.tables e below E0 tgt := fun tgt kont => go2 tgt (st3 tgt kont)
    have hv : own_rl g0 g1 g2 i = .ref g0 := by rw [own_rl, if_pos h0i]
    obtain ⟨fs, hr, hrun, hended, hW, hsame⟩ := X3.leave (v := some (.ref g0)) (fun h => by rw [Bd.returns] at h; cases h)
    refine ⟨_, _, go3 _ ?_, hrun, hended, _, _, rfl, ?_, ⟨_, rfl⟩, hW, hsame.mono (by decide) (by decide)⟩
    · show Steps p.tables e below (T3.setTop (mkF m 7 #[.val (.int i)] [(.ref g0)])) _
      exact retOut X3 hx Bd.returns rfl (Or.inr (Or.inr (Or.inr (Or.inr ⟨rfl, rfl, rfl⟩)))) (hb hby dRL_7) hr
    · show QRL Z i g0 g1 g2 h0 n0 _ T3.heap _
      rw [e3]
      exact ⟨by rw [hv], N0, rfl⟩
  · have go4 : ∀ tgt, Steps p.tables e below (s₁.setTop (mkF m 10 #[.val (.int i)] [(.int (1 : Int32)), (.int i)])) tgt → Steps p.tables e below E0 tgt := fun tgt kont => go1 tgt (by
      show Steps p.tables e below (s₁.setTop (mkF m 1 #[.val (.int i)] [(.int i)])) tgt
      refine XS.ifYes X0.here hx rfl (pc0 := 1) (pc' := 8) rfl (hb hby dRL_1) rfl ((if0 _ _).trans (feq h0i).2) (by decide) (by decide) ?_
      show Steps p.tables e below (s₁.setTop (mkF m 8 #[.val (.int i)] [])) tgt
      refine XS.iloadN X0.here hx rfl (hb hby dRL_8) rfl ?_
      show Steps p.tables e below (s₁.setTop (mkF m 9 #[.val (.int i)] [(.int i)])) tgt
      refine XS.iconst X0.here hx rfl (hb hby dRL_9) ?_
      exact kont)
    by_cases h1i : i = (1 : Int32)
    · have go5 : ∀ tgt, Steps p.tables e below (s₁.setTop (mkF m 13 #[.val (.int i)] [])) tgt → Steps p.tables e below E0 tgt := fun tgt kont => go4 tgt (by
        show Steps p.tables e below (s₁.setTop (mkF m 10 #[.val (.int i)] [(.int (1 : Int32)), (.int i)])) tgt
        refine XS.icmpNo X0.here hx rfl (hb hby dRL_10) rfl (teq h1i).2 ?_
        exact kont)
      obtain ⟨T6, X6, e6, st6⟩ := getS2 X0 hx hZ hown (host := "") (Or.inl (hw _ (List.mem_of_getElem? (i := 101) rfl))) Via.refl e0 S1 (g := (mkF m 13 #[.val (.int i)] [])) rfl (hb hby dRL_13)
      have go6 : ∀ tgt, Steps p.tables e below (T6.setTop (mkF m 16 #[.val (.int i)] [(.ref g1)])) tgt → Steps p.tables e below E0 tgt := fun tgt kont => go5 tgt (st6 tgt kont)
      have hv : own_rl g0 g1 g2 i = .ref g1 := by rw [own_rl, if_neg h0i, if_pos h1i]
      obtain ⟨fs, hr, hrun, hended, hW, hsame⟩ := X6.leave (v := some (.ref g1)) (fun h => by rw [Bd.returns] at h; cases h)
      refine ⟨_, _, go6 _ ?_, hrun, hended, _, _, rfl, ?_, ⟨_, rfl⟩, hW, hsame.mono (by decide) (by decide)⟩
      · show Steps p.tables e below (T6.setTop (mkF m 16 #[.val (.int i)] [(.ref g1)])) _
        exact retOut X6 hx Bd.returns rfl (Or.inr (Or.inr (Or.inr (Or.inr ⟨rfl, rfl, rfl⟩)))) (hb hby dRL_16) hr
      · show QRL Z i g0 g1 g2 h0 n0 _ T6.heap _
        rw [e6]
        exact ⟨by rw [hv], N0, rfl⟩
    · have go7 : ∀ tgt, Steps p.tables e below (s₁.setTop (mkF m 19 #[.val (.int i)] [(.int (2 : Int32)), (.int i)])) tgt → Steps p.tables e below E0 tgt := fun tgt kont => go4 tgt (by
        show Steps p.tables e below (s₁.setTop (mkF m 10 #[.val (.int i)] [(.int (1 : Int32)), (.int i)])) tgt
        refine XS.icmpYes X0.here hx rfl (pc0 := 10) (pc' := 17) rfl (hb hby dRL_10) rfl (feq h1i).2 (by decide) (by decide) ?_
        show Steps p.tables e below (s₁.setTop (mkF m 17 #[.val (.int i)] [])) tgt
        refine XS.iloadN X0.here hx rfl (hb hby dRL_17) rfl ?_
        show Steps p.tables e below (s₁.setTop (mkF m 18 #[.val (.int i)] [(.int i)])) tgt
        refine XS.iconst X0.here hx rfl (hb hby dRL_18) ?_
        exact kont)
      by_cases h2i : i = (2 : Int32)
      · have go8 : ∀ tgt, Steps p.tables e below (s₁.setTop (mkF m 22 #[.val (.int i)] [])) tgt → Steps p.tables e below E0 tgt := fun tgt kont => go7 tgt (by
          show Steps p.tables e below (s₁.setTop (mkF m 19 #[.val (.int i)] [(.int (2 : Int32)), (.int i)])) tgt
          refine XS.icmpNo X0.here hx rfl (hb hby dRL_19) rfl (teq h2i).2 ?_
          exact kont)
        obtain ⟨T9, X9, e9, st9⟩ := getS2 X0 hx hZ hown (host := "") (Or.inl (hw _ (List.mem_of_getElem? (i := 103) rfl))) Via.refl e0 S2 (g := (mkF m 22 #[.val (.int i)] [])) rfl (hb hby dRL_22)
        have go9 : ∀ tgt, Steps p.tables e below (T9.setTop (mkF m 25 #[.val (.int i)] [(.ref g2)])) tgt → Steps p.tables e below E0 tgt := fun tgt kont => go8 tgt (st9 tgt kont)
        have hv : own_rl g0 g1 g2 i = .ref g2 := by rw [own_rl, if_neg h0i, if_neg h1i, if_pos h2i]
        obtain ⟨fs, hr, hrun, hended, hW, hsame⟩ := X9.leave (v := some (.ref g2)) (fun h => by rw [Bd.returns] at h; cases h)
        refine ⟨_, _, go9 _ ?_, hrun, hended, _, _, rfl, ?_, ⟨_, rfl⟩, hW, hsame.mono (by decide) (by decide)⟩
        · show Steps p.tables e below (T9.setTop (mkF m 25 #[.val (.int i)] [(.ref g2)])) _
          exact retOut X9 hx Bd.returns rfl (Or.inr (Or.inr (Or.inr (Or.inr ⟨rfl, rfl, rfl⟩)))) (hb hby dRL_25) hr
        · show QRL Z i g0 g1 g2 h0 n0 _ T9.heap _
          rw [e9]
          exact ⟨by rw [hv], N0, rfl⟩
      · have go10 : ∀ tgt, Steps p.tables e below (s₁.setTop (mkF m 27 #[.val (.int i)] [.null])) tgt → Steps p.tables e below E0 tgt := fun tgt kont => go7 tgt (by
          show Steps p.tables e below (s₁.setTop (mkF m 19 #[.val (.int i)] [(.int (2 : Int32)), (.int i)])) tgt
          refine XS.icmpYes X0.here hx rfl (pc0 := 19) (pc' := 26) rfl (hb hby dRL_19) rfl (feq h2i).2 (by decide) (by decide) ?_
          show Steps p.tables e below (s₁.setTop (mkF m 26 #[.val (.int i)] [])) tgt
          refine XS.aconstNull X0.here hx rfl (hb hby dRL_26) ?_
          exact kont)
        have hv : own_rl g0 g1 g2 i = .null := by rw [own_rl, if_neg h0i, if_neg h1i, if_neg h2i]
        obtain ⟨fs, hr, hrun, hended, hW, hsame⟩ := X0.leave (v := some .null) (fun h => by rw [Bd.returns] at h; cases h)
        refine ⟨_, _, go10 _ ?_, hrun, hended, _, _, rfl, ?_, ⟨_, rfl⟩, hW, hsame.mono (by decide) (by decide)⟩
        · show Steps p.tables e below (s₁.setTop (mkF m 27 #[.val (.int i)] [.null])) _
          exact retOut X0 hx Bd.returns rfl (Or.inr (Or.inr (Or.inr (Or.inr ⟨rfl, rfl, rfl⟩)))) (hb hby dRL_27) hr
        · show QRL Z i g0 g1 g2 h0 n0 _ s₁.heap _
          rw [e0]
          exact ⟨by rw [hv], N0, rfl⟩
theorem pd_4 : parseMethodDescriptor "()V" = some ⟨[], none⟩ := by decide +kernel
theorem pd_5 : parseMethodDescriptor "(Ljava/lang/Object;Ljava/lang/String;)Ljava/lang/Object;" = some ⟨[(.object "java/lang/Object"), (.object "java/lang/String")], some (.object "java/lang/Object")⟩ := by decide +kernel
theorem pn_6 : plainName "bourseline/model/MemberSession" = true := by first | (simp [plainName, overriddenIn]; done) | decide +kernel
theorem dMI_0 : decode prog_44_method_1_code 0 = .ok (.aload_n 0, 1) := by decide +kernel
theorem dMI_1 : decode prog_44_method_1_code 1 = .ok (.invokespecial 1, 3) := by decide +kernel
theorem dMI_4 : decode prog_44_method_1_code 4 = .ok (.aload_n 1, 1) := by decide +kernel
theorem dMI_5 : decode prog_44_method_1_code 5 = .ok (.ldc 7, 2) := by decide +kernel
theorem dMI_7 : decode prog_44_method_1_code 7 = .ok (.invokestatic 9, 3) := by decide +kernel
theorem dMI_10 : decode prog_44_method_1_code 10 = .ok (.pop, 1) := by decide +kernel
theorem dMI_11 : decode prog_44_method_1_code 11 = .ok (.aload_n 2, 1) := by decide +kernel
theorem dMI_12 : decode prog_44_method_1_code 12 = .ok (.ldc 15, 2) := by decide +kernel
theorem dMI_14 : decode prog_44_method_1_code 14 = .ok (.invokestatic 9, 3) := by decide +kernel
theorem dMI_17 : decode prog_44_method_1_code 17 = .ok (.pop, 1) := by decide +kernel
theorem dMI_18 : decode prog_44_method_1_code 18 = .ok (.aload_n 3, 1) := by decide +kernel
theorem dMI_19 : decode prog_44_method_1_code 19 = .ok (.ldc 17, 2) := by decide +kernel
theorem dMI_21 : decode prog_44_method_1_code 21 = .ok (.invokestatic 9, 3) := by decide +kernel
theorem dMI_24 : decode prog_44_method_1_code 24 = .ok (.pop, 1) := by decide +kernel
theorem dMI_25 : decode prog_44_method_1_code 25 = .ok (.aload 4, 2) := by decide +kernel
theorem dMI_27 : decode prog_44_method_1_code 27 = .ok (.ldc 19, 2) := by decide +kernel
theorem dMI_29 : decode prog_44_method_1_code 29 = .ok (.invokestatic 9, 3) := by decide +kernel
theorem dMI_32 : decode prog_44_method_1_code 32 = .ok (.pop, 1) := by decide +kernel
theorem dMI_33 : decode prog_44_method_1_code 33 = .ok (.aload_n 0, 1) := by decide +kernel
theorem dMI_34 : decode prog_44_method_1_code 34 = .ok (.aload_n 1, 1) := by decide +kernel
theorem dMI_35 : decode prog_44_method_1_code 35 = .ok (.putfield 21, 3) := by decide +kernel
theorem dMI_38 : decode prog_44_method_1_code 38 = .ok (.aload_n 0, 1) := by decide +kernel
theorem dMI_39 : decode prog_44_method_1_code 39 = .ok (.aload_n 2, 1) := by decide +kernel
theorem dMI_40 : decode prog_44_method_1_code 40 = .ok (.putfield 26, 3) := by decide +kernel
theorem dMI_43 : decode prog_44_method_1_code 43 = .ok (.aload_n 0, 1) := by decide +kernel
theorem dMI_44 : decode prog_44_method_1_code 44 = .ok (.aload_n 3, 1) := by decide +kernel
theorem dMI_45 : decode prog_44_method_1_code 45 = .ok (.putfield 28, 3) := by decide +kernel
theorem dMI_48 : decode prog_44_method_1_code 48 = .ok (.aload_n 0, 1) := by decide +kernel
theorem dMI_49 : decode prog_44_method_1_code 49 = .ok (.aload 4, 2) := by decide +kernel
theorem dMI_51 : decode prog_44_method_1_code 51 = .ok (.putfield 31, 3) := by decide +kernel
theorem dMI_54 : decode prog_44_method_1_code 54 = .ok (.aload_n 0, 1) := by decide +kernel
theorem dMI_55 : decode prog_44_method_1_code 55 = .ok (.aload 5, 2) := by decide +kernel
theorem dMI_57 : decode prog_44_method_1_code 57 = .ok (.putfield 33, 3) := by decide +kernel
theorem dMI_60 : decode prog_44_method_1_code 60 = .ok (.return_, 1) := by decide +kernel
theorem ef_MI (m : MethodId) (x0 : Addr) (x1 : Addr) (x2 : Addr) (x3 : Addr) (x4 : Addr) (x5 : Value) (hv5 : x5.isRef = true) : entryFrame m #[(.ref x0), (.ref x1), (.ref x2), (.ref x3), (.ref x4), x5] 6 = mkF m 0 #[.val (.ref x0), .val (.ref x1), .val (.ref x2), .val (.ref x3), .val (.ref x4), .val x5] [] := by
  rcases ref_cases hv5 with rfl | ⟨_, rfl⟩ <;> first | (simp [entryFrame, mkF, argsToLocals, Value.category, maxLocals]; done) | rfl
def QMI (Z : State) (a : Addr) (s1 : Addr) (s2 : Addr) (vr : Addr) (s3 : Addr) (rl : Value) (h0 : Heap) (n0 : Nat) (v : Option Value) (h : Heap) (L : List Loc) : Prop := v = none ∧ Fr n0 L ∧ Keep h0 h [a] ∧ Exa Z h a "bourseline/model/MemberSession" ∧ Fld Z h a "bourseline/model/MemberSession" "sender" "Ljava/lang/String;" (.ref s1) ∧ Fld Z h a "bourseline/model/MemberSession" "target" "Ljava/lang/String;" (.ref s2) ∧ Fld Z h a "bourseline/model/MemberSession" "fixVersion" "Lbourseline/model/FixVersion;" (.ref vr) ∧ Fld Z h a "bourseline/model/MemberSession" "member" "Ljava/lang/String;" (.ref s3) ∧ Fld Z h a "bourseline/model/MemberSession" "selfMatchRule" "Lbourseline/model/SelfMatchInstruction;" rl
set_option maxRecDepth 65536 in
set_option maxHeartbeats 40000000 in
theorem rmMI (l : Launch) (Z : State) (a0 : Array Value) (hw : ∀ d ∈ tables_1, d.before a0 Z = true) (ws : List Jvm.Cond) (a : Addr) (s1 : Addr) (s2 : Addr) (vr : Addr) (s3 : Addr) (rl : Value) (h0 : Heap) (n0 : Nat) (Z0 : n0 ≤ h0.size) (hrl : rl.isRef = true) (Ea : Exa Z h0 a "bourseline/model/MemberSession") (ga : n0 ≤ a) (Fsender : Fld Z h0 a "bourseline/model/MemberSession" "sender" "Ljava/lang/String;" .null) (Ftarget : Fld Z h0 a "bourseline/model/MemberSession" "target" "Ljava/lang/String;" .null) (FfixVersion : Fld Z h0 a "bourseline/model/MemberSession" "fixVersion" "Lbourseline/model/FixVersion;" .null) (Fmember : Fld Z h0 a "bourseline/model/MemberSession" "member" "Ljava/lang/String;" .null) (FselfMatchRule : Fld Z h0 a "bourseline/model/MemberSession" "selfMatchRule" "Lbourseline/model/SelfMatchInstruction;" .null) :
    MetFree l (⟨"bourseline/model/MemberSession", "<init>", "(Ljava/lang/String;Ljava/lang/String;Lbourseline/model/FixVersion;Ljava/lang/String;Lbourseline/model/SelfMatchInstruction;)V"⟩ : MethodName) (head1 (Jvm.Cond.code (⟨"bourseline/model/MemberSession", "<init>", "(Ljava/lang/String;Ljava/lang/String;Lbourseline/model/FixVersion;Ljava/lang/String;Lbourseline/model/SelfMatchInstruction;)V"⟩ : MethodName) prog_44_method_1_code 6 none :: ws) ({ frames := 2, cells := 8, slots := 128, locals := 24 } : Room)) (fun as_ U => as_ = #[(.ref a), (.ref s1), (.ref s2), (.ref vr), (.ref s3), rl] ∧ Z.Warmed39 U.vm ∧ U.heap = h0) (fun _ _ _ _ _ => True) (fun _ U o U' => ∃ v L, o = .returned v ∧ QMI Z a s1 s2 vr s3 rl h0 n0 v U'.heap L ∧ ReturnedEndW U o U' L ({ frames := 2, cells := 8, slots := 128, locals := 24 } : Room).cells ({ frames := 2, cells := 8, slots := 128, locals := 24 } : Room).slots) := by
  refine MetFree.of_bodySF (plainFor_of_name pn_6) hisR ?_
  intro p e s m args below meth c s₁ Bd hml0 hP hK
  obtain ⟨rfl, hZ, hh⟩ := hP
  have hx := Bd.exec
  have hby := Bd.bytes
  have hml : c.maxLocals = 6 := hml0
  have hown : s.vm.findClass "bourseline/model/MemberSession" = some m.cls := findClass_of_methodNamed Bd.named
  have hnm := (name_of_methodNamed Bd.named Bd.method).1
  have X0 : Stand p l e ({ frames := 2, cells := 8, slots := 128, locals := 24 } : Room) (s.setVm s.vm) m #[(.ref a), (.ref s1), (.ref s2), (.ref vr), (.ref s3), rl] below meth c s₁ [] 0 0 := Stand.of_body Bd
  have e0 : s₁.heap = h0 := by rw [← hh, Bd.state]; rfl
  have N0 := Fr.nil n0
  obtain ⟨E0, hE0⟩ : ∃ z, z = s₁.setTop (entryFrame m #[(.ref a), (.ref s1), (.ref s2), (.ref vr), (.ref s3), rl] 6) := ⟨_, rfl⟩
  rw [← hE0]
  have go0 : ∀ tgt, Steps p.tables e below (s₁.setTop (mkF m 0 #[.val (.ref a), .val (.ref s1), .val (.ref s2), .val (.ref vr), .val (.ref s3), .val rl] [])) tgt → Steps p.tables e below E0 tgt := fun tgt kont => by rw [hE0]; exact castTop (ef_MI m a s1 s2 vr s3 rl hrl) kont
  have hS0 : s.Since s.vm h0.size := (State.WarmedH.refl s).since _
  have hk0 : h0.size ≤ h0.size := Nat.le_refl _
  have hwS : ∀ a ∈ Bundle.stringAtoms, a.before a0 Z = true := fun d hd => hw d ((by decide +kernel : ∀ d ∈ Bundle.stringAtoms, d ∈ tables_1) d hd)
  have go1 : ∀ tgt, Steps p.tables e below (s₁.setTop (mkF m 1 #[.val (.ref a), .val (.ref s1), .val (.ref s2), .val (.ref vr), .val (.ref s3), .val rl] [(.ref a)])) tgt → Steps p.tables e below E0 tgt := fun tgt kont => go0 tgt (by
    show Steps p.tables e below (s₁.setTop (mkF m 0 #[.val (.ref a), .val (.ref s1), .val (.ref s2), .val (.ref vr), .val (.ref s3), .val rl] [])) tgt
    refine XS.aloadN X0.here hx rfl (hb hby dMI_0) rfl rfl ?_
    exact kont)
  obtain ⟨_, _, ⟨T2, L2, k2, n2⟩, -, X2, ⟨Lc2, hQ2, l2, y2, z2⟩, st2⟩ := X0.specialBack hx (y := (⟨"java/lang/Record", "<init>", "()V"⟩ : MethodName)) rfl hown (mvT hZ (hw _ (List.mem_of_getElem? (i := 52) rfl))) (mvT hZ (hw _ (List.mem_of_getElem? (i := 53) rfl))) (mvT hZ (hw _ (List.mem_of_getElem? (i := 56) rfl))) (by decide) (backOf (W := 0) (rmRC l Z a0 hw [] a h0 n0 Z0 ) hZ (hw _ (List.mem_of_getElem? (i := 56) rfl)) (hw _ (List.mem_of_getElem? (i := 55) rfl)) (by decide) (by decide)) (g := (mkF m 1 #[.val (.ref a), .val (.ref s1), .val (.ref s2), .val (.ref vr), .val (.ref s3), .val rl] [(.ref a)])) rfl (by rw [hml]; rfl) (Steps.refl _) (a := a) (argsL := []) (rest := []) (lenOf pd_4 rfl) rfl (by show 2 * 0 + _ ≤ _; exact Nat.le_of_eq rfl) (hb hby dMI_1) (fun _ _ => ⟨rfl, e0, (by decide : 0 + 0 ≤ _), (by decide : 0 + 0 ≤ _)⟩)
  dsimp only [Pt.U, Pt.locs, Pt.cells, Pt.slots] at X2 l2 y2 z2 st2 hQ2
  subst l2 y2 z2
  obtain ⟨rfl, N2q, e2⟩ := hQ2
  have N2 := Fr.app N0 N2q
  have go2 : ∀ tgt, Steps p.tables e below (T2.setTop (mkF m 4 #[.val (.ref a), .val (.ref s1), .val (.ref s2), .val (.ref vr), .val (.ref s3), .val rl] [])) tgt → Steps p.tables e below E0 tgt := fun tgt kont => go1 tgt (st2.trans kont)
  have go3 : ∀ tgt, Steps p.tables e below (T2.setTop (mkF m 5 #[.val (.ref a), .val (.ref s1), .val (.ref s2), .val (.ref vr), .val (.ref s3), .val rl] [(.ref s1)])) tgt → Steps p.tables e below E0 tgt := fun tgt kont => go2 tgt (by
    show Steps p.tables e below (T2.setTop (mkF m 4 #[.val (.ref a), .val (.ref s1), .val (.ref s2), .val (.ref vr), .val (.ref s3), .val rl] [])) tgt
    refine XS.aloadN X2.here hx rfl (hb hby dMI_4) rfl rfl ?_
    exact kont)
  obtain ⟨a4, T4, h4, k4, X4, e4, E4, hS4, hk4, hZ4, hown4, st4⟩ := ldcS X2 hx hZ hown (hw _ (List.mem_of_getElem? (i := 58) rfl)) hwS e2 hS0 hk0 (g := (mkF m 5 #[.val (.ref a), .val (.ref s1), .val (.ref s2), .val (.ref vr), .val (.ref s3), .val rl] [(.ref s1)])) rfl (hb hby dMI_5) (n := 24) (by decide) (by decide) (by decide) (by decide)
  have z5 : n0 ≤ h4.size := Nat.le_trans Z0 E4.1
  have K6 : Keep h0 h4 [a] := (Keep.refl h0 [a]).ext E4
  have go4 : ∀ tgt, Steps p.tables e below (T4.setTop (mkF m 7 #[.val (.ref a), .val (.ref s1), .val (.ref s2), .val (.ref vr), .val (.ref s3), .val rl] [(.ref a4), (.ref s1)])) tgt → Steps p.tables e below E0 tgt := fun tgt kont => go3 tgt (st4 tgt kont)
  obtain ⟨_, _, ⟨T7, L7, k7, n7⟩, -, X7, ⟨Lc7, hQ7, l7, y7, z7⟩, st7⟩ := Jvm.LawKit.callS X4 hx (y := (⟨"java/util/Objects", "requireNonNull", "(Ljava/lang/Object;Ljava/lang/String;)Ljava/lang/Object;"⟩ : MethodName)) hown4 (mvT hZ4 (hw _ (List.mem_of_getElem? (i := 61) rfl))) (mvT hZ4 (hw _ (List.mem_of_getElem? (i := 62) rfl))) (mvT hZ4 (hw _ (List.mem_of_getElem? (i := 63) rfl))) (mvT hZ4 (hw _ (List.mem_of_getElem? (i := 64) rfl))) (by decide) (backOf (W := 0) (rmRN l Z a0 hw [] s1 a4 h4 n0 z5 ) hZ4 (hw _ (List.mem_of_getElem? (i := 64) rfl)) (hw _ (List.mem_of_getElem? (i := 63) rfl)) (by decide) (by decide)) (g := (mkF m 7 #[.val (.ref a), .val (.ref s1), .val (.ref s2), .val (.ref vr), .val (.ref s3), .val rl] [(.ref a4), (.ref s1)])) rfl (by rw [hml]; rfl) (argsL := [(.ref s1), (.ref a4)]) (rest := []) (lenOf pd_5 rfl) rfl (by show 2 * 0 + _ ≤ _; exact Nat.le_of_eq rfl) (hb hby dMI_7) (fun _ _ => ⟨rfl, e4, (by decide : 2 + 0 ≤ _), (by decide : 28 + 0 ≤ _)⟩)
  dsimp only [Pt.U, Pt.locs, Pt.cells, Pt.slots] at X7 l7 y7 z7 st7 hQ7
  subst l7 y7 z7
  obtain ⟨rfl, N7q, e7⟩ := hQ7
  have N7 := Fr.app N2 N7q
  have go7 : ∀ tgt, Steps p.tables e below (T7.setTop (mkF m 10 #[.val (.ref a), .val (.ref s1), .val (.ref s2), .val (.ref vr), .val (.ref s3), .val rl] [(.ref s1)])) tgt → Steps p.tables e below E0 tgt := fun tgt kont => go4 tgt (st7 tgt kont)
  have go8 : ∀ tgt, Steps p.tables e below (T7.setTop (mkF m 12 #[.val (.ref a), .val (.ref s1), .val (.ref s2), .val (.ref vr), .val (.ref s3), .val rl] [(.ref s2)])) tgt → Steps p.tables e below E0 tgt := fun tgt kont => go7 tgt (by
    show Steps p.tables e below (T7.setTop (mkF m 10 #[.val (.ref a), .val (.ref s1), .val (.ref s2), .val (.ref vr), .val (.ref s3), .val rl] [(.ref s1)])) tgt
    refine XS.pop X7.here hx rfl (hb hby dMI_10) rfl rfl ?_
    show Steps p.tables e below (T7.setTop (mkF m 11 #[.val (.ref a), .val (.ref s1), .val (.ref s2), .val (.ref vr), .val (.ref s3), .val rl] [])) tgt
    refine XS.aloadN X7.here hx rfl (hb hby dMI_11) rfl rfl ?_
    exact kont)
  obtain ⟨a9, T9, h9, k9, X9, e9, E9, hS9, hk9, hZ9, hown9, st9⟩ := ldcS X7 hx hZ4 hown4 (hw _ (List.mem_of_getElem? (i := 65) rfl)) hwS e7 hS4 hk4 (g := (mkF m 12 #[.val (.ref a), .val (.ref s1), .val (.ref s2), .val (.ref vr), .val (.ref s3), .val rl] [(.ref s2)])) rfl (hb hby dMI_12) (n := 24) (by decide) (by decide) (by decide) (by decide)
  have z10 : n0 ≤ h9.size := Nat.le_trans z5 E9.1
  have K11 : Keep h0 h9 [a] := K6.ext E9
  have go9 : ∀ tgt, Steps p.tables e below (T9.setTop (mkF m 14 #[.val (.ref a), .val (.ref s1), .val (.ref s2), .val (.ref vr), .val (.ref s3), .val rl] [(.ref a9), (.ref s2)])) tgt → Steps p.tables e below E0 tgt := fun tgt kont => go8 tgt (st9 tgt kont)
  obtain ⟨_, _, ⟨T12, L12, k12, n12⟩, -, X12, ⟨Lc12, hQ12, l12, y12, z12⟩, st12⟩ := Jvm.LawKit.callS X9 hx (y := (⟨"java/util/Objects", "requireNonNull", "(Ljava/lang/Object;Ljava/lang/String;)Ljava/lang/Object;"⟩ : MethodName)) hown9 (mvT hZ9 (hw _ (List.mem_of_getElem? (i := 61) rfl))) (mvT hZ9 (hw _ (List.mem_of_getElem? (i := 62) rfl))) (mvT hZ9 (hw _ (List.mem_of_getElem? (i := 63) rfl))) (mvT hZ9 (hw _ (List.mem_of_getElem? (i := 64) rfl))) (by decide) (backOf (W := 0) (rmRN l Z a0 hw [] s2 a9 h9 n0 z10 ) hZ9 (hw _ (List.mem_of_getElem? (i := 64) rfl)) (hw _ (List.mem_of_getElem? (i := 63) rfl)) (by decide) (by decide)) (g := (mkF m 14 #[.val (.ref a), .val (.ref s1), .val (.ref s2), .val (.ref vr), .val (.ref s3), .val rl] [(.ref a9), (.ref s2)])) rfl (by rw [hml]; rfl) (argsL := [(.ref s2), (.ref a9)]) (rest := []) (lenOf pd_5 rfl) rfl (by show 2 * 0 + _ ≤ _; exact Nat.le_of_eq rfl) (hb hby dMI_14) (fun _ _ => ⟨rfl, e9, (by decide : 4 + 0 ≤ _), (by decide : 56 + 0 ≤ _)⟩)
  dsimp only [Pt.U, Pt.locs, Pt.cells, Pt.slots] at X12 l12 y12 z12 st12 hQ12
  subst l12 y12 z12
  obtain ⟨rfl, N12q, e12⟩ := hQ12
  have N12 := Fr.app N7 N12q
  have go12 : ∀ tgt, Steps p.tables e below (T12.setTop (mkF m 17 #[.val (.ref a), .val (.ref s1), .val (.ref s2), .val (.ref vr), .val (.ref s3), .val rl] [(.ref s2)])) tgt → Steps p.tables e below E0 tgt := fun tgt kont => go9 tgt (st12 tgt kont)
  have go13 : ∀ tgt, Steps p.tables e below (T12.setTop (mkF m 19 #[.val (.ref a), .val (.ref s1), .val (.ref s2), .val (.ref vr), .val (.ref s3), .val rl] [(.ref vr)])) tgt → Steps p.tables e below E0 tgt := fun tgt kont => go12 tgt (by
    show Steps p.tables e below (T12.setTop (mkF m 17 #[.val (.ref a), .val (.ref s1), .val (.ref s2), .val (.ref vr), .val (.ref s3), .val rl] [(.ref s2)])) tgt
    refine XS.pop X12.here hx rfl (hb hby dMI_17) rfl rfl ?_
    show Steps p.tables e below (T12.setTop (mkF m 18 #[.val (.ref a), .val (.ref s1), .val (.ref s2), .val (.ref vr), .val (.ref s3), .val rl] [])) tgt
    refine XS.aloadN X12.here hx rfl (hb hby dMI_18) rfl rfl ?_
    exact kont)
  obtain ⟨a14, T14, h14, k14, X14, e14, E14, hS14, hk14, hZ14, hown14, st14⟩ := ldcS X12 hx hZ9 hown9 (hw _ (List.mem_of_getElem? (i := 66) rfl)) hwS e12 hS9 hk9 (g := (mkF m 19 #[.val (.ref a), .val (.ref s1), .val (.ref s2), .val (.ref vr), .val (.ref s3), .val rl] [(.ref vr)])) rfl (hb hby dMI_19) (n := 40) (by decide) (by decide) (by decide) (by decide)
  have z15 : n0 ≤ h14.size := Nat.le_trans z10 E14.1
  have K16 : Keep h0 h14 [a] := K11.ext E14
  have go14 : ∀ tgt, Steps p.tables e below (T14.setTop (mkF m 21 #[.val (.ref a), .val (.ref s1), .val (.ref s2), .val (.ref vr), .val (.ref s3), .val rl] [(.ref a14), (.ref vr)])) tgt → Steps p.tables e below E0 tgt := fun tgt kont => go13 tgt (st14 tgt kont)
  obtain ⟨_, _, ⟨T17, L17, k17, n17⟩, -, X17, ⟨Lc17, hQ17, l17, y17, z17⟩, st17⟩ := Jvm.LawKit.callS X14 hx (y := (⟨"java/util/Objects", "requireNonNull", "(Ljava/lang/Object;Ljava/lang/String;)Ljava/lang/Object;"⟩ : MethodName)) hown14 (mvT hZ14 (hw _ (List.mem_of_getElem? (i := 61) rfl))) (mvT hZ14 (hw _ (List.mem_of_getElem? (i := 62) rfl))) (mvT hZ14 (hw _ (List.mem_of_getElem? (i := 63) rfl))) (mvT hZ14 (hw _ (List.mem_of_getElem? (i := 64) rfl))) (by decide) (backOf (W := 0) (rmRN l Z a0 hw [] vr a14 h14 n0 z15 ) hZ14 (hw _ (List.mem_of_getElem? (i := 64) rfl)) (hw _ (List.mem_of_getElem? (i := 63) rfl)) (by decide) (by decide)) (g := (mkF m 21 #[.val (.ref a), .val (.ref s1), .val (.ref s2), .val (.ref vr), .val (.ref s3), .val rl] [(.ref a14), (.ref vr)])) rfl (by rw [hml]; rfl) (argsL := [(.ref vr), (.ref a14)]) (rest := []) (lenOf pd_5 rfl) rfl (by show 2 * 0 + _ ≤ _; exact Nat.le_of_eq rfl) (hb hby dMI_21) (fun _ _ => ⟨rfl, e14, (by decide : 6 + 0 ≤ _), (by decide : 100 + 0 ≤ _)⟩)
  dsimp only [Pt.U, Pt.locs, Pt.cells, Pt.slots] at X17 l17 y17 z17 st17 hQ17
  subst l17 y17 z17
  obtain ⟨rfl, N17q, e17⟩ := hQ17
  have N17 := Fr.app N12 N17q
  have go17 : ∀ tgt, Steps p.tables e below (T17.setTop (mkF m 24 #[.val (.ref a), .val (.ref s1), .val (.ref s2), .val (.ref vr), .val (.ref s3), .val rl] [(.ref vr)])) tgt → Steps p.tables e below E0 tgt := fun tgt kont => go14 tgt (st17 tgt kont)
  have go18 : ∀ tgt, Steps p.tables e below (T17.setTop (mkF m 27 #[.val (.ref a), .val (.ref s1), .val (.ref s2), .val (.ref vr), .val (.ref s3), .val rl] [(.ref s3)])) tgt → Steps p.tables e below E0 tgt := fun tgt kont => go17 tgt (by
    show Steps p.tables e below (T17.setTop (mkF m 24 #[.val (.ref a), .val (.ref s1), .val (.ref s2), .val (.ref vr), .val (.ref s3), .val rl] [(.ref vr)])) tgt
    refine XS.pop X17.here hx rfl (hb hby dMI_24) rfl rfl ?_
    show Steps p.tables e below (T17.setTop (mkF m 25 #[.val (.ref a), .val (.ref s1), .val (.ref s2), .val (.ref vr), .val (.ref s3), .val rl] [])) tgt
    refine XS.aload X17.here hx rfl (hb hby dMI_25) rfl rfl ?_
    exact kont)
  obtain ⟨a19, T19, h19, k19, X19, e19, E19, hS19, hk19, hZ19, hown19, st19⟩ := ldcS X17 hx hZ14 hown14 (hw _ (List.mem_of_getElem? (i := 67) rfl)) hwS e17 hS14 hk14 (g := (mkF m 27 #[.val (.ref a), .val (.ref s1), .val (.ref s2), .val (.ref vr), .val (.ref s3), .val rl] [(.ref s3)])) rfl (hb hby dMI_27) (n := 24) (by decide) (by decide) (by decide) (by decide)
  have z20 : n0 ≤ h19.size := Nat.le_trans z15 E19.1
  have K21 : Keep h0 h19 [a] := K16.ext E19
  have go19 : ∀ tgt, Steps p.tables e below (T19.setTop (mkF m 29 #[.val (.ref a), .val (.ref s1), .val (.ref s2), .val (.ref vr), .val (.ref s3), .val rl] [(.ref a19), (.ref s3)])) tgt → Steps p.tables e below E0 tgt := fun tgt kont => go18 tgt (st19 tgt kont)
  obtain ⟨_, _, ⟨T22, L22, k22, n22⟩, -, X22, ⟨Lc22, hQ22, l22, y22, z22⟩, st22⟩ := Jvm.LawKit.callS X19 hx (y := (⟨"java/util/Objects", "requireNonNull", "(Ljava/lang/Object;Ljava/lang/String;)Ljava/lang/Object;"⟩ : MethodName)) hown19 (mvT hZ19 (hw _ (List.mem_of_getElem? (i := 61) rfl))) (mvT hZ19 (hw _ (List.mem_of_getElem? (i := 62) rfl))) (mvT hZ19 (hw _ (List.mem_of_getElem? (i := 63) rfl))) (mvT hZ19 (hw _ (List.mem_of_getElem? (i := 64) rfl))) (by decide) (backOf (W := 0) (rmRN l Z a0 hw [] s3 a19 h19 n0 z20 ) hZ19 (hw _ (List.mem_of_getElem? (i := 64) rfl)) (hw _ (List.mem_of_getElem? (i := 63) rfl)) (by decide) (by decide)) (g := (mkF m 29 #[.val (.ref a), .val (.ref s1), .val (.ref s2), .val (.ref vr), .val (.ref s3), .val rl] [(.ref a19), (.ref s3)])) rfl (by rw [hml]; rfl) (argsL := [(.ref s3), (.ref a19)]) (rest := []) (lenOf pd_5 rfl) rfl (by show 2 * 0 + _ ≤ _; exact Nat.le_of_eq rfl) (hb hby dMI_29) (fun _ _ => ⟨rfl, e19, (by decide : 8 + 0 ≤ _), (by decide : 128 + 0 ≤ _)⟩)
  dsimp only [Pt.U, Pt.locs, Pt.cells, Pt.slots] at X22 l22 y22 z22 st22 hQ22
  subst l22 y22 z22
  obtain ⟨rfl, N22q, e22⟩ := hQ22
  have N22 := Fr.app N17 N22q
  have go22 : ∀ tgt, Steps p.tables e below (T22.setTop (mkF m 32 #[.val (.ref a), .val (.ref s1), .val (.ref s2), .val (.ref vr), .val (.ref s3), .val rl] [(.ref s3)])) tgt → Steps p.tables e below E0 tgt := fun tgt kont => go19 tgt (st22 tgt kont)
  have go23 : ∀ tgt, Steps p.tables e below (T22.setTop (mkF m 35 #[.val (.ref a), .val (.ref s1), .val (.ref s2), .val (.ref vr), .val (.ref s3), .val rl] [(.ref s1), (.ref a)])) tgt → Steps p.tables e below E0 tgt := fun tgt kont => go22 tgt (by
    show Steps p.tables e below (T22.setTop (mkF m 32 #[.val (.ref a), .val (.ref s1), .val (.ref s2), .val (.ref vr), .val (.ref s3), .val rl] [(.ref s3)])) tgt
    refine XS.pop X22.here hx rfl (hb hby dMI_32) rfl rfl ?_
    show Steps p.tables e below (T22.setTop (mkF m 33 #[.val (.ref a), .val (.ref s1), .val (.ref s2), .val (.ref vr), .val (.ref s3), .val rl] [])) tgt
    refine XS.aloadN X22.here hx rfl (hb hby dMI_33) rfl rfl ?_
    show Steps p.tables e below (T22.setTop (mkF m 34 #[.val (.ref a), .val (.ref s1), .val (.ref s2), .val (.ref vr), .val (.ref s3), .val rl] [(.ref a)])) tgt
    refine XS.aloadN X22.here hx rfl (hb hby dMI_34) rfl rfl ?_
    exact kont)
  have f24 : Fld Z h19 a "bourseline/model/MemberSession" "sender" "Ljava/lang/String;" .null := ((((Fsender.ext E4).ext E9).ext E14).ext E19)
  have f25 : Exa Z h19 a "bourseline/model/MemberSession" := ((((Ea.ext E4).ext E9).ext E14).ext E19)
  obtain ⟨T26, h26, X26, e26, W26, st26⟩ := putF X22 hx hZ19 hown19 (host := "") (Or.inl (hw _ (List.mem_of_getElem? (i := 68) rfl))) Via.refl e22 f24 f25 (Or.inr ⟨(hw _ (List.mem_of_getElem? (i := 69) rfl)), rfl, hnm⟩) (hw _ (List.mem_of_getElem? (i := 1) rfl)) (ty := (.object "java/lang/String")) (by decide) rfl rfl (g := (mkF m 35 #[.val (.ref a), .val (.ref s1), .val (.ref s2), .val (.ref vr), .val (.ref s3), .val rl] [(.ref s1), (.ref a)])) rfl rfl (hb hby dMI_35)
  have z27 : n0 ≤ h26.size := Nat.le_trans z20 (Keep.of_wr W26).1
  have K28 : Keep h0 h26 [a] := K21.wr W26 (Or.inl (List.mem_of_getElem? (i := 0) rfl))
  have N26 := Fr.snoc X26 N22 ga
  have f29 : Fld Z h26 a "bourseline/model/MemberSession" "sender" "Ljava/lang/String;" (.ref s1) := (f24.same W26)
  have go26 : ∀ tgt, Steps p.tables e below (T26.setTop (mkF m 38 #[.val (.ref a), .val (.ref s1), .val (.ref s2), .val (.ref vr), .val (.ref s3), .val rl] [])) tgt → Steps p.tables e below E0 tgt := fun tgt kont => go23 tgt (st26 tgt kont)
  have go30 : ∀ tgt, Steps p.tables e below (T26.setTop (mkF m 40 #[.val (.ref a), .val (.ref s1), .val (.ref s2), .val (.ref vr), .val (.ref s3), .val rl] [(.ref s2), (.ref a)])) tgt → Steps p.tables e below E0 tgt := fun tgt kont => go26 tgt (by
    show Steps p.tables e below (T26.setTop (mkF m 38 #[.val (.ref a), .val (.ref s1), .val (.ref s2), .val (.ref vr), .val (.ref s3), .val rl] [])) tgt
    refine XS.aloadN X26.here hx rfl (hb hby dMI_38) rfl rfl ?_
    show Steps p.tables e below (T26.setTop (mkF m 39 #[.val (.ref a), .val (.ref s1), .val (.ref s2), .val (.ref vr), .val (.ref s3), .val rl] [(.ref a)])) tgt
    refine XS.aloadN X26.here hx rfl (hb hby dMI_39) rfl rfl ?_
    exact kont)
  have f31 : Fld Z h26 a "bourseline/model/MemberSession" "target" "Ljava/lang/String;" .null := (((((Ftarget.ext E4).ext E9).ext E14).ext E19).other W26 (Or.inr (slot_ne (Or.inr (hw _ (List.mem_of_getElem? (i := 71) rfl))) (Or.inr (hw _ (List.mem_of_getElem? (i := 69) rfl))) (by decide) (t := (.object "java/lang/String")) (t' := (.object "java/lang/String")) (by decide) (by decide))))
  have f32 : Exa Z h26 a "bourseline/model/MemberSession" := (f25.wr W26)
  obtain ⟨T33, h33, X33, e33, W33, st33⟩ := putF X26 hx hZ19 hown19 (host := "") (Or.inl (hw _ (List.mem_of_getElem? (i := 70) rfl))) Via.refl e26 f31 f32 (Or.inr ⟨(hw _ (List.mem_of_getElem? (i := 71) rfl)), rfl, hnm⟩) (hw _ (List.mem_of_getElem? (i := 1) rfl)) (ty := (.object "java/lang/String")) (by decide) rfl rfl (g := (mkF m 40 #[.val (.ref a), .val (.ref s1), .val (.ref s2), .val (.ref vr), .val (.ref s3), .val rl] [(.ref s2), (.ref a)])) rfl rfl (hb hby dMI_40)
  have z34 : n0 ≤ h33.size := Nat.le_trans z27 (Keep.of_wr W33).1
  have K35 : Keep h0 h33 [a] := K28.wr W33 (Or.inl (List.mem_of_getElem? (i := 0) rfl))
  have N33 := Fr.snoc X33 N26 ga
  have f36 : Fld Z h33 a "bourseline/model/MemberSession" "target" "Ljava/lang/String;" (.ref s2) := (f31.same W33)
  have go33 : ∀ tgt, Steps p.tables e below (T33.setTop (mkF m 43 #[.val (.ref a), .val (.ref s1), .val (.ref s2), .val (.ref vr), .val (.ref s3), .val rl] [])) tgt → Steps p.tables e below E0 tgt := fun tgt kont => go30 tgt (st33 tgt kont)
  have go37 : ∀ tgt, Steps p.tables e below (T33.setTop (mkF m 45 #[.val (.ref a), .val (.ref s1), .val (.ref s2), .val (.ref vr), .val (.ref s3), .val rl] [(.ref vr), (.ref a)])) tgt → Steps p.tables e below E0 tgt := fun tgt kont => go33 tgt (by
    show Steps p.tables e below (T33.setTop (mkF m 43 #[.val (.ref a), .val (.ref s1), .val (.ref s2), .val (.ref vr), .val (.ref s3), .val rl] [])) tgt
    refine XS.aloadN X33.here hx rfl (hb hby dMI_43) rfl rfl ?_
    show Steps p.tables e below (T33.setTop (mkF m 44 #[.val (.ref a), .val (.ref s1), .val (.ref s2), .val (.ref vr), .val (.ref s3), .val rl] [(.ref a)])) tgt
    refine XS.aloadN X33.here hx rfl (hb hby dMI_44) rfl rfl ?_
    exact kont)
  have f38 : Fld Z h33 a "bourseline/model/MemberSession" "fixVersion" "Lbourseline/model/FixVersion;" .null := ((((((FfixVersion.ext E4).ext E9).ext E14).ext E19).other W26 (Or.inr (slot_ne (Or.inr (hw _ (List.mem_of_getElem? (i := 73) rfl))) (Or.inr (hw _ (List.mem_of_getElem? (i := 69) rfl))) (by decide) (t := (.object "bourseline/model/FixVersion")) (t' := (.object "java/lang/String")) (by decide) (by decide)))).other W33 (Or.inr (slot_ne (Or.inr (hw _ (List.mem_of_getElem? (i := 73) rfl))) (Or.inr (hw _ (List.mem_of_getElem? (i := 71) rfl))) (by decide) (t := (.object "bourseline/model/FixVersion")) (t' := (.object "java/lang/String")) (by decide) (by decide))))
  have f39 : Exa Z h33 a "bourseline/model/MemberSession" := (f32.wr W33)
  obtain ⟨T40, h40, X40, e40, W40, st40⟩ := putF X33 hx hZ19 hown19 (host := "") (Or.inl (hw _ (List.mem_of_getElem? (i := 72) rfl))) Via.refl e33 f38 f39 (Or.inr ⟨(hw _ (List.mem_of_getElem? (i := 73) rfl)), rfl, hnm⟩) (hw _ (List.mem_of_getElem? (i := 1) rfl)) (ty := (.object "bourseline/model/FixVersion")) (by decide) rfl rfl (g := (mkF m 45 #[.val (.ref a), .val (.ref s1), .val (.ref s2), .val (.ref vr), .val (.ref s3), .val rl] [(.ref vr), (.ref a)])) rfl rfl (hb hby dMI_45)
  have z41 : n0 ≤ h40.size := Nat.le_trans z34 (Keep.of_wr W40).1
  have K42 : Keep h0 h40 [a] := K35.wr W40 (Or.inl (List.mem_of_getElem? (i := 0) rfl))
  have N40 := Fr.snoc X40 N33 ga
  have f43 : Fld Z h40 a "bourseline/model/MemberSession" "fixVersion" "Lbourseline/model/FixVersion;" (.ref vr) := (f38.same W40)
  have go40 : ∀ tgt, Steps p.tables e below (T40.setTop (mkF m 48 #[.val (.ref a), .val (.ref s1), .val (.ref s2), .val (.ref vr), .val (.ref s3), .val rl] [])) tgt → Steps p.tables e below E0 tgt := fun tgt kont => go37 tgt (st40 tgt kont)
  have go44 : ∀ tgt, Steps p.tables e below (T40.setTop (mkF m 51 #[.val (.ref a), .val (.ref s1), .val (.ref s2), .val (.ref vr), .val (.ref s3), .val rl] [(.ref s3), (.ref a)])) tgt → Steps p.tables e below E0 tgt := fun tgt kont => go40 tgt (by
    show Steps p.tables e below (T40.setTop (mkF m 48 #[.val (.ref a), .val (.ref s1), .val (.ref s2), .val (.ref vr), .val (.ref s3), .val rl] [])) tgt
    refine XS.aloadN X40.here hx rfl (hb hby dMI_48) rfl rfl ?_
    show Steps p.tables e below (T40.setTop (mkF m 49 #[.val (.ref a), .val (.ref s1), .val (.ref s2), .val (.ref vr), .val (.ref s3), .val rl] [(.ref a)])) tgt
    refine XS.aload X40.here hx rfl (hb hby dMI_49) rfl rfl ?_
    exact kont)
  have f45 : Fld Z h40 a "bourseline/model/MemberSession" "member" "Ljava/lang/String;" .null := (((((((Fmember.ext E4).ext E9).ext E14).ext E19).other W26 (Or.inr (slot_ne (Or.inr (hw _ (List.mem_of_getElem? (i := 75) rfl))) (Or.inr (hw _ (List.mem_of_getElem? (i := 69) rfl))) (by decide) (t := (.object "java/lang/String")) (t' := (.object "java/lang/String")) (by decide) (by decide)))).other W33 (Or.inr (slot_ne (Or.inr (hw _ (List.mem_of_getElem? (i := 75) rfl))) (Or.inr (hw _ (List.mem_of_getElem? (i := 71) rfl))) (by decide) (t := (.object "java/lang/String")) (t' := (.object "java/lang/String")) (by decide) (by decide)))).other W40 (Or.inr (slot_ne (Or.inr (hw _ (List.mem_of_getElem? (i := 75) rfl))) (Or.inr (hw _ (List.mem_of_getElem? (i := 73) rfl))) (by decide) (t := (.object "java/lang/String")) (t' := (.object "bourseline/model/FixVersion")) (by decide) (by decide))))
  have f46 : Exa Z h40 a "bourseline/model/MemberSession" := (f39.wr W40)
  obtain ⟨T47, h47, X47, e47, W47, st47⟩ := putF X40 hx hZ19 hown19 (host := "") (Or.inl (hw _ (List.mem_of_getElem? (i := 74) rfl))) Via.refl e40 f45 f46 (Or.inr ⟨(hw _ (List.mem_of_getElem? (i := 75) rfl)), rfl, hnm⟩) (hw _ (List.mem_of_getElem? (i := 1) rfl)) (ty := (.object "java/lang/String")) (by decide) rfl rfl (g := (mkF m 51 #[.val (.ref a), .val (.ref s1), .val (.ref s2), .val (.ref vr), .val (.ref s3), .val rl] [(.ref s3), (.ref a)])) rfl rfl (hb hby dMI_51)
  have z48 : n0 ≤ h47.size := Nat.le_trans z41 (Keep.of_wr W47).1
  have K49 : Keep h0 h47 [a] := K42.wr W47 (Or.inl (List.mem_of_getElem? (i := 0) rfl))
  have N47 := Fr.snoc X47 N40 ga
  have f50 : Fld Z h47 a "bourseline/model/MemberSession" "member" "Ljava/lang/String;" (.ref s3) := (f45.same W47)
  have go47 : ∀ tgt, Steps p.tables e below (T47.setTop (mkF m 54 #[.val (.ref a), .val (.ref s1), .val (.ref s2), .val (.ref vr), .val (.ref s3), .val rl] [])) tgt → Steps p.tables e below E0 tgt := fun tgt kont => go44 tgt (st47 tgt kont)
  have go51 : ∀ tgt, Steps p.tables e below (T47.setTop (mkF m 57 #[.val (.ref a), .val (.ref s1), .val (.ref s2), .val (.ref vr), .val (.ref s3), .val rl] [rl, (.ref a)])) tgt → Steps p.tables e below E0 tgt := fun tgt kont => go47 tgt (by
    show Steps p.tables e below (T47.setTop (mkF m 54 #[.val (.ref a), .val (.ref s1), .val (.ref s2), .val (.ref vr), .val (.ref s3), .val rl] [])) tgt
    refine XS.aloadN X47.here hx rfl (hb hby dMI_54) rfl rfl ?_
    show Steps p.tables e below (T47.setTop (mkF m 55 #[.val (.ref a), .val (.ref s1), .val (.ref s2), .val (.ref vr), .val (.ref s3), .val rl] [(.ref a)])) tgt
    refine XS.aload X47.here hx rfl (hb hby dMI_55) rfl hrl ?_
    exact kont)
  have f52 : Fld Z h47 a "bourseline/model/MemberSession" "selfMatchRule" "Lbourseline/model/SelfMatchInstruction;" .null := ((((((((FselfMatchRule.ext E4).ext E9).ext E14).ext E19).other W26 (Or.inr (slot_ne (Or.inr (hw _ (List.mem_of_getElem? (i := 77) rfl))) (Or.inr (hw _ (List.mem_of_getElem? (i := 69) rfl))) (by decide) (t := (.object "bourseline/model/SelfMatchInstruction")) (t' := (.object "java/lang/String")) (by decide) (by decide)))).other W33 (Or.inr (slot_ne (Or.inr (hw _ (List.mem_of_getElem? (i := 77) rfl))) (Or.inr (hw _ (List.mem_of_getElem? (i := 71) rfl))) (by decide) (t := (.object "bourseline/model/SelfMatchInstruction")) (t' := (.object "java/lang/String")) (by decide) (by decide)))).other W40 (Or.inr (slot_ne (Or.inr (hw _ (List.mem_of_getElem? (i := 77) rfl))) (Or.inr (hw _ (List.mem_of_getElem? (i := 73) rfl))) (by decide) (t := (.object "bourseline/model/SelfMatchInstruction")) (t' := (.object "bourseline/model/FixVersion")) (by decide) (by decide)))).other W47 (Or.inr (slot_ne (Or.inr (hw _ (List.mem_of_getElem? (i := 77) rfl))) (Or.inr (hw _ (List.mem_of_getElem? (i := 75) rfl))) (by decide) (t := (.object "bourseline/model/SelfMatchInstruction")) (t' := (.object "java/lang/String")) (by decide) (by decide))))
  have f53 : Exa Z h47 a "bourseline/model/MemberSession" := (f46.wr W47)
  obtain ⟨T54, h54, X54, e54, W54, st54⟩ := putF X47 hx hZ19 hown19 (host := "") (Or.inl (hw _ (List.mem_of_getElem? (i := 76) rfl))) Via.refl e47 f52 f53 (Or.inr ⟨(hw _ (List.mem_of_getElem? (i := 77) rfl)), rfl, hnm⟩) (hw _ (List.mem_of_getElem? (i := 1) rfl)) (ty := (.object "bourseline/model/SelfMatchInstruction")) (by decide) (own_nar hrl rfl) (own_fit hrl rfl) (g := (mkF m 57 #[.val (.ref a), .val (.ref s1), .val (.ref s2), .val (.ref vr), .val (.ref s3), .val rl] [rl, (.ref a)])) rfl rfl (hb hby dMI_57)
  have z55 : n0 ≤ h54.size := Nat.le_trans z48 (Keep.of_wr W54).1
  have K56 : Keep h0 h54 [a] := K49.wr W54 (Or.inl (List.mem_of_getElem? (i := 0) rfl))
  have N54 := Fr.snoc X54 N47 ga
  have f57 : Fld Z h54 a "bourseline/model/MemberSession" "selfMatchRule" "Lbourseline/model/SelfMatchInstruction;" rl := (f52.same W54)
  have go54 : ∀ tgt, Steps p.tables e below (T54.setTop (mkF m 60 #[.val (.ref a), .val (.ref s1), .val (.ref s2), .val (.ref vr), .val (.ref s3), .val rl] [])) tgt → Steps p.tables e below E0 tgt := fun tgt kont => go51 tgt (st54 tgt kont)
  have f58 : Exa Z h54 a "bourseline/model/MemberSession" := (f53.wr W54)
  have f59 : Fld Z h54 a "bourseline/model/MemberSession" "sender" "Ljava/lang/String;" (.ref s1) := ((((f29.other W33 (Or.inr (slot_ne (Or.inr (hw _ (List.mem_of_getElem? (i := 69) rfl))) (Or.inr (hw _ (List.mem_of_getElem? (i := 71) rfl))) (by decide) (t := (.object "java/lang/String")) (t' := (.object "java/lang/String")) (by decide) (by decide)))).other W40 (Or.inr (slot_ne (Or.inr (hw _ (List.mem_of_getElem? (i := 69) rfl))) (Or.inr (hw _ (List.mem_of_getElem? (i := 73) rfl))) (by decide) (t := (.object "java/lang/String")) (t' := (.object "bourseline/model/FixVersion")) (by decide) (by decide)))).other W47 (Or.inr (slot_ne (Or.inr (hw _ (List.mem_of_getElem? (i := 69) rfl))) (Or.inr (hw _ (List.mem_of_getElem? (i := 75) rfl))) (by decide) (t := (.object "java/lang/String")) (t' := (.object "java/lang/String")) (by decide) (by decide)))).other W54 (Or.inr (slot_ne (Or.inr (hw _ (List.mem_of_getElem? (i := 69) rfl))) (Or.inr (hw _ (List.mem_of_getElem? (i := 77) rfl))) (by decide) (t := (.object "java/lang/String")) (t' := (.object "bourseline/model/SelfMatchInstruction")) (by decide) (by decide))))
  have f60 : Fld Z h54 a "bourseline/model/MemberSession" "target" "Ljava/lang/String;" (.ref s2) := (((f36.other W40 (Or.inr (slot_ne (Or.inr (hw _ (List.mem_of_getElem? (i := 71) rfl))) (Or.inr (hw _ (List.mem_of_getElem? (i := 73) rfl))) (by decide) (t := (.object "java/lang/String")) (t' := (.object "bourseline/model/FixVersion")) (by decide) (by decide)))).other W47 (Or.inr (slot_ne (Or.inr (hw _ (List.mem_of_getElem? (i := 71) rfl))) (Or.inr (hw _ (List.mem_of_getElem? (i := 75) rfl))) (by decide) (t := (.object "java/lang/String")) (t' := (.object "java/lang/String")) (by decide) (by decide)))).other W54 (Or.inr (slot_ne (Or.inr (hw _ (List.mem_of_getElem? (i := 71) rfl))) (Or.inr (hw _ (List.mem_of_getElem? (i := 77) rfl))) (by decide) (t := (.object "java/lang/String")) (t' := (.object "bourseline/model/SelfMatchInstruction")) (by decide) (by decide))))
  have f61 : Fld Z h54 a "bourseline/model/MemberSession" "fixVersion" "Lbourseline/model/FixVersion;" (.ref vr) := ((f43.other W47 (Or.inr (slot_ne (Or.inr (hw _ (List.mem_of_getElem? (i := 73) rfl))) (Or.inr (hw _ (List.mem_of_getElem? (i := 75) rfl))) (by decide) (t := (.object "bourseline/model/FixVersion")) (t' := (.object "java/lang/String")) (by decide) (by decide)))).other W54 (Or.inr (slot_ne (Or.inr (hw _ (List.mem_of_getElem? (i := 73) rfl))) (Or.inr (hw _ (List.mem_of_getElem? (i := 77) rfl))) (by decide) (t := (.object "bourseline/model/FixVersion")) (t' := (.object "bourseline/model/SelfMatchInstruction")) (by decide) (by decide))))
  have f62 : Fld Z h54 a "bourseline/model/MemberSession" "member" "Ljava/lang/String;" (.ref s3) := (f50.other W54 (Or.inr (slot_ne (Or.inr (hw _ (List.mem_of_getElem? (i := 75) rfl))) (Or.inr (hw _ (List.mem_of_getElem? (i := 77) rfl))) (by decide) (t := (.object "java/lang/String")) (t' := (.object "bourseline/model/SelfMatchInstruction")) (by decide) (by decide))))
  obtain ⟨fs, hr, hrun, hended, hW⟩ := X54.leaveW hS19 (by rw [e54]; exact (Nat.le_trans hk19 (Nat.le_trans (Nat.le_trans (Nat.le_trans (Nat.le_trans (Keep.of_wr W26).1 (Keep.of_wr W33).1) (Keep.of_wr W40).1) (Keep.of_wr W47).1) (Keep.of_wr W54).1))) (v := none) (fun _ => rfl)
  refine ⟨_, _, go54 _ ?_, hrun, hended, _, _, rfl, ?_, hW.1, hW.2.1, hW.2.2.1, hW.2.2.2.mono (by decide) (by decide)⟩
  · show Steps p.tables e below (T54.setTop (mkF m 60 #[.val (.ref a), .val (.ref s1), .val (.ref s2), .val (.ref vr), .val (.ref s3), .val rl] [])) _
    exact X54.returnOut hx Bd.returns (hb hby dMI_60) hr
  · show QMI Z a s1 s2 vr s3 rl h0 n0 _ T54.heap _
    rw [e54]
    exact ⟨rfl, N54, K56, f58, f59, f60, f61, f62, f57⟩
theorem pd_7 : parseMethodDescriptor "(Ljava/lang/Object;)Z" = some ⟨[(.object "java/lang/Object")], some .boolean⟩ := by decide +kernel
theorem dEM_0 : decode prog_44_method_2_code 0 = .ok (.aload_n 1, 1) := by decide +kernel
theorem dEM_1 : decode prog_44_method_2_code 1 = .ok (.instanceof 22, 3) := by decide +kernel
theorem dEM_4 : decode prog_44_method_2_code 4 = .ok (.ifCond .eq 76, 3) := by decide +kernel
theorem dEM_7 : decode prog_44_method_2_code 7 = .ok (.aload_n 1, 1) := by decide +kernel
theorem dEM_8 : decode prog_44_method_2_code 8 = .ok (.checkcast 22, 3) := by decide +kernel
theorem dEM_11 : decode prog_44_method_2_code 11 = .ok (.astore_n 2, 1) := by decide +kernel
theorem dEM_12 : decode prog_44_method_2_code 12 = .ok (.aload_n 0, 1) := by decide +kernel
theorem dEM_13 : decode prog_44_method_2_code 13 = .ok (.getfield 21, 3) := by decide +kernel
theorem dEM_16 : decode prog_44_method_2_code 16 = .ok (.aload_n 2, 1) := by decide +kernel
theorem dEM_17 : decode prog_44_method_2_code 17 = .ok (.getfield 21, 3) := by decide +kernel
theorem dEM_20 : decode prog_44_method_2_code 20 = .ok (.invokevirtual 37, 3) := by decide +kernel
theorem dEM_23 : decode prog_44_method_2_code 23 = .ok (.ifCond .eq 57, 3) := by decide +kernel
theorem dEM_26 : decode prog_44_method_2_code 26 = .ok (.aload_n 0, 1) := by decide +kernel
theorem dEM_27 : decode prog_44_method_2_code 27 = .ok (.getfield 26, 3) := by decide +kernel
theorem dEM_30 : decode prog_44_method_2_code 30 = .ok (.aload_n 2, 1) := by decide +kernel
theorem dEM_31 : decode prog_44_method_2_code 31 = .ok (.getfield 26, 3) := by decide +kernel
theorem dEM_34 : decode prog_44_method_2_code 34 = .ok (.invokevirtual 37, 3) := by decide +kernel
theorem dEM_37 : decode prog_44_method_2_code 37 = .ok (.ifCond .eq 43, 3) := by decide +kernel
theorem dEM_40 : decode prog_44_method_2_code 40 = .ok (.aload_n 0, 1) := by decide +kernel
theorem dEM_41 : decode prog_44_method_2_code 41 = .ok (.getfield 28, 3) := by decide +kernel
theorem dEM_44 : decode prog_44_method_2_code 44 = .ok (.aload_n 2, 1) := by decide +kernel
theorem dEM_45 : decode prog_44_method_2_code 45 = .ok (.getfield 28, 3) := by decide +kernel
theorem dEM_48 : decode prog_44_method_2_code 48 = .ok (.if_acmp .ne 32, 3) := by decide +kernel
theorem dEM_51 : decode prog_44_method_2_code 51 = .ok (.aload_n 0, 1) := by decide +kernel
theorem dEM_52 : decode prog_44_method_2_code 52 = .ok (.getfield 31, 3) := by decide +kernel
theorem dEM_55 : decode prog_44_method_2_code 55 = .ok (.aload_n 2, 1) := by decide +kernel
theorem dEM_56 : decode prog_44_method_2_code 56 = .ok (.getfield 31, 3) := by decide +kernel
theorem dEM_59 : decode prog_44_method_2_code 59 = .ok (.invokevirtual 37, 3) := by decide +kernel
theorem dEM_62 : decode prog_44_method_2_code 62 = .ok (.ifCond .eq 18, 3) := by decide +kernel
theorem dEM_65 : decode prog_44_method_2_code 65 = .ok (.aload_n 0, 1) := by decide +kernel
theorem dEM_66 : decode prog_44_method_2_code 66 = .ok (.getfield 33, 3) := by decide +kernel
theorem dEM_69 : decode prog_44_method_2_code 69 = .ok (.aload_n 2, 1) := by decide +kernel
theorem dEM_70 : decode prog_44_method_2_code 70 = .ok (.getfield 33, 3) := by decide +kernel
theorem dEM_73 : decode prog_44_method_2_code 73 = .ok (.if_acmp .ne 7, 3) := by decide +kernel
theorem dEM_76 : decode prog_44_method_2_code 76 = .ok (.iconst 1, 1) := by decide +kernel
theorem dEM_77 : decode prog_44_method_2_code 77 = .ok (.goto 4, 3) := by decide +kernel
theorem dEM_80 : decode prog_44_method_2_code 80 = .ok (.iconst 0, 1) := by decide +kernel
theorem dEM_81 : decode prog_44_method_2_code 81 = .ok (.ireturn, 1) := by decide +kernel
theorem ef_EM (m : MethodId) (x0 : Addr) (x1 : Addr) : entryFrame m #[(.ref x0), (.ref x1)] 3 = mkF m 0 #[.val (.ref x0), .val (.ref x1), .unset] [] := by first | (simp [entryFrame, mkF, argsToLocals, Value.category, maxLocals]; done) | rfl
def QEM (Z : State) (a : Addr) (b : Addr) (s1 : Addr) (t1 : Addr) (k1 : ClassId) (c1 : Int32) (d1 : Int32) (s2 : Addr) (t2 : Addr) (k2 : ClassId) (c2 : Int32) (d2 : Int32) (s3 : Addr) (t3 : Addr) (k3 : ClassId) (c3 : Int32) (d3 : Int32) (s4 : Addr) (t4 : Addr) (k4 : ClassId) (c4 : Int32) (d4 : Int32) (s5 : Addr) (t5 : Addr) (k5 : ClassId) (c5 : Int32) (d5 : Int32) (s6 : Addr) (t6 : Addr) (k6 : ClassId) (c6 : Int32) (d6 : Int32) (vx : Addr) (vy : Addr) (rx : Value) (ry : Value) (G : Int32) (h0 : Heap) (n0 : Nat) (v : Option Value) (h : Heap) (L : List Loc) : Prop := ((v = some (.int 1) ∧ (([c1, d1] : List Int32) = [c4, d4] ∧ ([c2, d2] : List Int32) = [c5, d5] ∧ vx = vy ∧ ([c3, d3] : List Int32) = [c6, d6] ∧ rx = ry)) ∨ (v = some (.int 0) ∧ ¬ (([c1, d1] : List Int32) = [c4, d4] ∧ ([c2, d2] : List Int32) = [c5, d5] ∧ vx = vy ∧ ([c3, d3] : List Int32) = [c6, d6] ∧ rx = ry))) ∧ Fr n0 L ∧ h = h0
set_option maxRecDepth 65536 in
set_option maxHeartbeats 40000000 in
theorem rmEM (l : Launch) (Z : State) (a0 : Array Value) (hw : ∀ d ∈ tables_1, d.before a0 Z = true) (ws : List Jvm.Cond) (a : Addr) (b : Addr) (s1 : Addr) (t1 : Addr) (k1 : ClassId) (c1 : Int32) (d1 : Int32) (s2 : Addr) (t2 : Addr) (k2 : ClassId) (c2 : Int32) (d2 : Int32) (s3 : Addr) (t3 : Addr) (k3 : ClassId) (c3 : Int32) (d3 : Int32) (s4 : Addr) (t4 : Addr) (k4 : ClassId) (c4 : Int32) (d4 : Int32) (s5 : Addr) (t5 : Addr) (k5 : ClassId) (c5 : Int32) (d5 : Int32) (s6 : Addr) (t6 : Addr) (k6 : ClassId) (c6 : Int32) (d6 : Int32) (vx : Addr) (vy : Addr) (rx : Value) (ry : Value) (G : Int32) (h0 : Heap) (n0 : Nat) (Z0 : n0 ≤ h0.size) (hrx : rx.isRef = true) (hry : ry.isRef = true) (Ea : Exa Z h0 a "bourseline/model/MemberSession") (Eb : Exa Z h0 b "bourseline/model/MemberSession") (FA0 : Fld Z h0 a "bourseline/model/MemberSession" "sender" "Ljava/lang/String;" (.ref s1)) (FA1 : Fld Z h0 a "bourseline/model/MemberSession" "target" "Ljava/lang/String;" (.ref s2)) (FA2 : Fld Z h0 a "bourseline/model/MemberSession" "fixVersion" "Lbourseline/model/FixVersion;" (.ref vx)) (FA3 : Fld Z h0 a "bourseline/model/MemberSession" "member" "Ljava/lang/String;" (.ref s3)) (FA4 : Fld Z h0 a "bourseline/model/MemberSession" "selfMatchRule" "Lbourseline/model/SelfMatchInstruction;" rx) (FB0 : Fld Z h0 b "bourseline/model/MemberSession" "sender" "Ljava/lang/String;" (.ref s4)) (FB1 : Fld Z h0 b "bourseline/model/MemberSession" "target" "Ljava/lang/String;" (.ref s5)) (FB2 : Fld Z h0 b "bourseline/model/MemberSession" "fixVersion" "Lbourseline/model/FixVersion;" (.ref vy)) (FB3 : Fld Z h0 b "bourseline/model/MemberSession" "member" "Ljava/lang/String;" (.ref s6)) (FB4 : Fld Z h0 b "bourseline/model/MemberSession" "selfMatchRule" "Lbourseline/model/SelfMatchInstruction;" ry) (E1 : Exa Z h0 s1 "java/lang/String") (V1 : Fld Z h0 s1 "java/lang/String" "value" "[B" (.ref t1)) (C1 : Fld Z h0 s1 "java/lang/String" "coder" "B" (.int (0 : Int32))) (A1 : Arv Z h0 t1 k1 .byte (2 : Int32) ((([c1, d1] : List Int32).map (fun c => c.toInt8.toInt32)).map Value.int) (.int (0 : Int32))) (hp1 : ∀ c ∈ ([c1, d1] : List Int32), ¬ c < 0 ∧ ¬ (255 : Int32) < c) (E2 : Exa Z h0 s2 "java/lang/String") (V2 : Fld Z h0 s2 "java/lang/String" "value" "[B" (.ref t2)) (C2 : Fld Z h0 s2 "java/lang/String" "coder" "B" (.int (0 : Int32))) (A2 : Arv Z h0 t2 k2 .byte (2 : Int32) ((([c2, d2] : List Int32).map (fun c => c.toInt8.toInt32)).map Value.int) (.int (0 : Int32))) (hp2 : ∀ c ∈ ([c2, d2] : List Int32), ¬ c < 0 ∧ ¬ (255 : Int32) < c) (E3 : Exa Z h0 s3 "java/lang/String") (V3 : Fld Z h0 s3 "java/lang/String" "value" "[B" (.ref t3)) (C3 : Fld Z h0 s3 "java/lang/String" "coder" "B" (.int (0 : Int32))) (A3 : Arv Z h0 t3 k3 .byte (2 : Int32) ((([c3, d3] : List Int32).map (fun c => c.toInt8.toInt32)).map Value.int) (.int (0 : Int32))) (hp3 : ∀ c ∈ ([c3, d3] : List Int32), ¬ c < 0 ∧ ¬ (255 : Int32) < c) (E4 : Exa Z h0 s4 "java/lang/String") (V4 : Fld Z h0 s4 "java/lang/String" "value" "[B" (.ref t4)) (C4 : Fld Z h0 s4 "java/lang/String" "coder" "B" (.int (0 : Int32))) (A4 : Arv Z h0 t4 k4 .byte (2 : Int32) ((([c4, d4] : List Int32).map (fun c => c.toInt8.toInt32)).map Value.int) (.int (0 : Int32))) (hp4 : ∀ c ∈ ([c4, d4] : List Int32), ¬ c < 0 ∧ ¬ (255 : Int32) < c) (E5 : Exa Z h0 s5 "java/lang/String") (V5 : Fld Z h0 s5 "java/lang/String" "value" "[B" (.ref t5)) (C5 : Fld Z h0 s5 "java/lang/String" "coder" "B" (.int (0 : Int32))) (A5 : Arv Z h0 t5 k5 .byte (2 : Int32) ((([c5, d5] : List Int32).map (fun c => c.toInt8.toInt32)).map Value.int) (.int (0 : Int32))) (hp5 : ∀ c ∈ ([c5, d5] : List Int32), ¬ c < 0 ∧ ¬ (255 : Int32) < c) (E6 : Exa Z h0 s6 "java/lang/String") (V6 : Fld Z h0 s6 "java/lang/String" "value" "[B" (.ref t6)) (C6 : Fld Z h0 s6 "java/lang/String" "coder" "B" (.int (0 : Int32))) (A6 : Arv Z h0 t6 k6 .byte (2 : Int32) ((([c6, d6] : List Int32).map (fun c => c.toInt8.toInt32)).map Value.int) (.int (0 : Int32))) (hp6 : ∀ c ∈ ([c6, d6] : List Int32), ¬ c < 0 ∧ ¬ (255 : Int32) < c) (SC : Sta Z h0 "java/lang/String" "COMPACT_STRINGS" "Z" (.int G)) (hG : ¬ (G = (0 : Int32))) :
    MetFree l (⟨"bourseline/model/MemberSession", "equals", "(Ljava/lang/Object;)Z"⟩ : MethodName) (head1 (Jvm.Cond.code (⟨"bourseline/model/MemberSession", "equals", "(Ljava/lang/Object;)Z"⟩ : MethodName) prog_44_method_2_code 3 (some .boolean) :: ws) ({ frames := 2, cells := 0, slots := 0, locals := 28 } : Room)) (fun as_ U => as_ = #[(.ref a), (.ref b)] ∧ Z.Warmed39 U.vm ∧ U.heap = h0) (fun _ _ _ _ _ => True) (fun _ U o U' => ∃ v L, o = .returned v ∧ QEM Z a b s1 t1 k1 c1 d1 s2 t2 k2 c2 d2 s3 t3 k3 c3 d3 s4 t4 k4 c4 d4 s5 t5 k5 c5 d5 s6 t6 k6 c6 d6 vx vy rx ry G h0 n0 v U'.heap L ∧ FrameEnd U o U' L ({ frames := 2, cells := 0, slots := 0, locals := 28 } : Room).cells ({ frames := 2, cells := 0, slots := 0, locals := 28 } : Room).slots) := by
  refine MetFree.of_bodySF (plainFor_of_name pn_6) hisR ?_
  intro p e s m args below meth c s₁ Bd hml0 hP hK
  obtain ⟨rfl, hZ, hh⟩ := hP
  have hx := Bd.exec
  have hby := Bd.bytes
  have hml : c.maxLocals = 3 := hml0
  have hown : s.vm.findClass "bourseline/model/MemberSession" = some m.cls := findClass_of_methodNamed Bd.named
  have hnm := (name_of_methodNamed Bd.named Bd.method).1
  have X0 : Stand p l e ({ frames := 2, cells := 0, slots := 0, locals := 28 } : Room) s m #[(.ref a), (.ref b)] below meth c s₁ [] 0 0 := Stand.of_body Bd
  have e0 : s₁.heap = h0 := by rw [← hh, Bd.state]; rfl
  have N0 := Fr.nil n0
  obtain ⟨E0, hE0⟩ : ∃ z, z = s₁.setTop (entryFrame m #[(.ref a), (.ref b)] 3) := ⟨_, rfl⟩
  rw [← hE0]
  have go0 : ∀ tgt, Steps p.tables e below (s₁.setTop (mkF m 0 #[.val (.ref a), .val (.ref b), .unset] [])) tgt → Steps p.tables e below E0 tgt := fun tgt kont => by rw [hE0]; exact castTop (ef_EM m a b) kont
  have heq : ∀ d ∈ StrChars.Road.wordsEq, d.before a0 Z = true := fun d hd => hw d ((by decide +kernel : ∀ d ∈ StrChars.Road.wordsEq, d ∈ tables_1) d hd)
  have hcd1 : StrChars.Road.CodA ([c1, d1] : List Int32) 0 (2 : Int32) ((([c1, d1] : List Int32).map (fun c => c.toInt8.toInt32)).map Value.int) := StrChars.Road.codOf (n := 2) rfl (fun x hx => (hp1 x hx).2)
  have hbd1 := own_up hp1
  have hcd2 : StrChars.Road.CodA ([c2, d2] : List Int32) 0 (2 : Int32) ((([c2, d2] : List Int32).map (fun c => c.toInt8.toInt32)).map Value.int) := StrChars.Road.codOf (n := 2) rfl (fun x hx => (hp2 x hx).2)
  have hbd2 := own_up hp2
  have hcd3 : StrChars.Road.CodA ([c3, d3] : List Int32) 0 (2 : Int32) ((([c3, d3] : List Int32).map (fun c => c.toInt8.toInt32)).map Value.int) := StrChars.Road.codOf (n := 2) rfl (fun x hx => (hp3 x hx).2)
  have hbd3 := own_up hp3
  have hcd4 : StrChars.Road.CodA ([c4, d4] : List Int32) 0 (2 : Int32) ((([c4, d4] : List Int32).map (fun c => c.toInt8.toInt32)).map Value.int) := StrChars.Road.codOf (n := 2) rfl (fun x hx => (hp4 x hx).2)
  have hbd4 := own_up hp4
  have hcd5 : StrChars.Road.CodA ([c5, d5] : List Int32) 0 (2 : Int32) ((([c5, d5] : List Int32).map (fun c => c.toInt8.toInt32)).map Value.int) := StrChars.Road.codOf (n := 2) rfl (fun x hx => (hp5 x hx).2)
  have hbd5 := own_up hp5
  have hcd6 : StrChars.Road.CodA ([c6, d6] : List Int32) 0 (2 : Int32) ((([c6, d6] : List Int32).map (fun c => c.toInt8.toInt32)).map Value.int) := StrChars.Road.codOf (n := 2) rfl (fun x hx => (hp6 x hx).2)
  have hbd6 := own_up hp6
  have go1 : ∀ tgt, Steps p.tables e below (s₁.setTop (mkF m 1 #[.val (.ref a), .val (.ref b), .unset] [(.ref b)])) tgt → Steps p.tables e below E0 tgt := fun tgt kont => go0 tgt (by
    show Steps p.tables e below (s₁.setTop (mkF m 0 #[.val (.ref a), .val (.ref b), .unset] [])) tgt
    refine XS.aloadN X0.here hx rfl (hb hby dEM_0) rfl rfl ?_
    exact kont)
  obtain ⟨T2, X2, e2, st2⟩ := instY X0 hx hZ hown (hw _ (List.mem_of_getElem? (i := 87) rfl)) e0 (Ins.self Eb) (g := (mkF m 1 #[.val (.ref a), .val (.ref b), .unset] [(.ref b)])) rfl rfl (hb hby dEM_1)
  have go2 : ∀ tgt, Steps p.tables e below (T2.setTop (mkF m 4 #[.val (.ref a), .val (.ref b), .unset] [(.int (1 : Int32))])) tgt → Steps p.tables e below E0 tgt := fun tgt kont => go1 tgt (st2 tgt kont)
  have go3 : ∀ tgt, Steps p.tables e below (T2.setTop (mkF m 8 #[.val (.ref a), .val (.ref b), .unset] [(.ref b)])) tgt → Steps p.tables e below E0 tgt := fun tgt kont => go2 tgt (by
    show Steps p.tables e below (T2.setTop (mkF m 4 #[.val (.ref a), .val (.ref b), .unset] [(.int (1 : Int32))])) tgt
    refine XS.ifNo X2.here hx rfl (hb hby dEM_4) rfl ((if0 _ _).trans (feq (by decide)).1) ?_
    show Steps p.tables e below (T2.setTop (mkF m 7 #[.val (.ref a), .val (.ref b), .unset] [])) tgt
    refine XS.aloadN X2.here hx rfl (hb hby dEM_7) rfl rfl ?_
    exact kont)
  obtain ⟨T4, X4, e4, st4⟩ := castY X2 hx hZ hown (hw _ (List.mem_of_getElem? (i := 87) rfl)) e2 (Ins.self Eb) (g := (mkF m 8 #[.val (.ref a), .val (.ref b), .unset] [(.ref b)])) rfl rfl (hb hby dEM_8)
  have go4 : ∀ tgt, Steps p.tables e below (T4.setTop (mkF m 11 #[.val (.ref a), .val (.ref b), .unset] [(.ref b)])) tgt → Steps p.tables e below E0 tgt := fun tgt kont => go3 tgt (st4 tgt kont)
  have go5 : ∀ tgt, Steps p.tables e below (T4.setTop (mkF m 13 #[.val (.ref a), .val (.ref b), .val (.ref b)] [(.ref a)])) tgt → Steps p.tables e below E0 tgt := fun tgt kont => go4 tgt (by
    show Steps p.tables e below (T4.setTop (mkF m 11 #[.val (.ref a), .val (.ref b), .unset] [(.ref b)])) tgt
    refine XS.astoreN X4.here hx rfl (hb hby dEM_11) rfl rfl (l' := #[.val (.ref a), .val (.ref b), .val (.ref b)]) rfl ?_
    show Steps p.tables e below (T4.setTop (mkF m 12 #[.val (.ref a), .val (.ref b), .val (.ref b)] [])) tgt
    refine XS.aloadN X4.here hx rfl (hb hby dEM_12) rfl rfl ?_
    exact kont)
  obtain ⟨T6, X6, e6, st6⟩ := getF X4 hx hZ hown (host := "") (Or.inl (hw _ (List.mem_of_getElem? (i := 68) rfl))) Via.refl e4 FA0 (g := (mkF m 13 #[.val (.ref a), .val (.ref b), .val (.ref b)] [(.ref a)])) rfl rfl (hb hby dEM_13)
  have go6 : ∀ tgt, Steps p.tables e below (T6.setTop (mkF m 16 #[.val (.ref a), .val (.ref b), .val (.ref b)] [(.ref s1)])) tgt → Steps p.tables e below E0 tgt := fun tgt kont => go5 tgt (st6 tgt kont)
  have go7 : ∀ tgt, Steps p.tables e below (T6.setTop (mkF m 17 #[.val (.ref a), .val (.ref b), .val (.ref b)] [(.ref b), (.ref s1)])) tgt → Steps p.tables e below E0 tgt := fun tgt kont => go6 tgt (by
    show Steps p.tables e below (T6.setTop (mkF m 16 #[.val (.ref a), .val (.ref b), .val (.ref b)] [(.ref s1)])) tgt
    refine XS.aloadN X6.here hx rfl (hb hby dEM_16) rfl rfl ?_
    exact kont)
  obtain ⟨T8, X8, e8, st8⟩ := getF X6 hx hZ hown (host := "") (Or.inl (hw _ (List.mem_of_getElem? (i := 68) rfl))) Via.refl e6 FB0 (g := (mkF m 17 #[.val (.ref a), .val (.ref b), .val (.ref b)] [(.ref b), (.ref s1)])) rfl rfl (hb hby dEM_17)
  have go8 : ∀ tgt, Steps p.tables e below (T8.setTop (mkF m 20 #[.val (.ref a), .val (.ref b), .val (.ref b)] [(.ref s4), (.ref s1)])) tgt → Steps p.tables e below E0 tgt := fun tgt kont => go7 tgt (st8 tgt kont)
  obtain ⟨cq9, kq9, q9a, q9b, q9c⟩ := isOf hZ e8 E1
  obtain ⟨vv9, _, ⟨T9, L9, k9, n9⟩, -, X9, ⟨Lc9, hQ9, l9, y9, z9⟩, st9⟩ := X8.virtualBack hx (y := (⟨"java/lang/String", "equals", "(Ljava/lang/Object;)Z"⟩ : MethodName)) (z := (⟨"java/lang/String", "equals", "(Ljava/lang/Object;)Z"⟩ : MethodName)) hown (mvT hZ (hw _ (List.mem_of_getElem? (i := 91) rfl))) (mvT hZ (hw _ (List.mem_of_getElem? (i := 92) rfl))) (notFace_of_selects (args := #[]) (mvT hZ (hw _ (List.mem_of_getElem? (i := 94) rfl)))) (mvT hZ (hw _ (List.mem_of_getElem? (i := 94) rfl))) (mvT hZ (hw _ (List.mem_of_getElem? (i := 93) rfl))) (by decide) (StrChars.Road.eqW (W := 0) hZ heq (kI := 4) (hw _ (List.mem_of_getElem? (i := 8) rfl)) E1 V1 C1 A1 hcd1 hbd1 (Nat.le_of_ble_eq_true rfl) E4 V4 C4 A4 hcd4 hbd4 (Nat.le_of_ble_eq_true rfl) SC hG (by decide) (by decide)) q9a q9c (g := (mkF m 20 #[.val (.ref a), .val (.ref b), .val (.ref b)] [(.ref s4), (.ref s1)])) rfl (by rw [hml]; rfl) (Steps.refl _) (argsL := [(.ref s4)]) (rest := []) (lenOf pd_7 rfl) rfl (by show 2 * 0 + _ ≤ _; exact Nat.le_of_eq rfl) (hb hby dEM_20) (fun _ _ => ⟨rfl, e8, (by decide : 0 + 0 ≤ _), (by decide : 0 + 0 ≤ _)⟩)
  dsimp only [Pt.U, Pt.locs, Pt.cells, Pt.slots] at X9 l9 y9 z9 st9 hQ9
  subst l9 y9 z9
  obtain ⟨hv9, rfl, e9⟩ := hQ9
  have N9q : Fr n0 ([] : List Loc) := Fr.nil n0
  obtain ⟨r1, rfl, hr1⟩ : ∃ r : Int32, vv9 = some (.int r) ∧ ((r = 1 ∧ ([c1, d1] : List Int32) = [c4, d4]) ∨ (r = 0 ∧ ¬ (([c1, d1] : List Int32) = [c4, d4]))) := by
    rcases hv9 with ⟨q, u⟩ | ⟨q, u⟩
    · exact ⟨1, q, Or.inl ⟨rfl, u⟩⟩
    · exact ⟨0, q, Or.inr ⟨rfl, u⟩⟩
  have N9 := Fr.app N0 N9q
  have go9 : ∀ tgt, Steps p.tables e below (T9.setTop (mkF m 23 #[.val (.ref a), .val (.ref b), .val (.ref b)] [(.int r1)])) tgt → Steps p.tables e below E0 tgt := fun tgt kont => go8 tgt (st9.trans kont)
  by_cases q1 : r1 = (0 : Int32)
  · have go10 : ∀ tgt, Steps p.tables e below (T9.setTop (mkF m 81 #[.val (.ref a), .val (.ref b), .val (.ref b)] [(.int (0 : Int32))])) tgt → Steps p.tables e below E0 tgt := fun tgt kont => go9 tgt (by
      show Steps p.tables e below (T9.setTop (mkF m 23 #[.val (.ref a), .val (.ref b), .val (.ref b)] [(.int r1)])) tgt
      refine XS.ifYes X9.here hx rfl (pc0 := 23) (pc' := 80) rfl (hb hby dEM_23) rfl ((if0 _ _).trans (teq q1).1) (by decide) (by decide) ?_
      show Steps p.tables e below (T9.setTop (mkF m 80 #[.val (.ref a), .val (.ref b), .val (.ref b)] [])) tgt
      refine XS.iconst X9.here hx rfl (hb hby dEM_80) ?_
      exact kont)
    obtain ⟨fs, hr, hrun, hended, hW, hsame⟩ := X9.leave (v := some (.int (0 : Int32))) (fun h => by rw [Bd.returns] at h; cases h)
    refine ⟨_, _, go10 _ ?_, hrun, hended, _, _, rfl, ?_, ⟨_, rfl⟩, hW, hsame.mono (by decide) (by decide)⟩
    · show Steps p.tables e below (T9.setTop (mkF m 81 #[.val (.ref a), .val (.ref b), .val (.ref b)] [(.int (0 : Int32))])) _
      exact retN X9 hx (t := .boolean) Bd.returns (by simp) (hb hby dEM_81) hr
    · show QEM Z a b s1 t1 k1 c1 d1 s2 t2 k2 c2 d2 s3 t3 k3 c3 d3 s4 t4 k4 c4 d4 s5 t5 k5 c5 d5 s6 t6 k6 c6 d6 vx vy rx ry G h0 n0 _ T9.heap _
      rw [e9]
      exact ⟨Or.inr ⟨rfl, fun q => (hr1.elim (fun u => absurd (u.1.symm.trans q1) (by decide)) (fun u => u.2 q.1))⟩, N9, rfl⟩
  · have y1 : ([c1, d1] : List Int32) = [c4, d4] := hr1.elim (fun u => u.2) (fun u => absurd u.1 q1)
    have go11 : ∀ tgt, Steps p.tables e below (T9.setTop (mkF m 27 #[.val (.ref a), .val (.ref b), .val (.ref b)] [(.ref a)])) tgt → Steps p.tables e below E0 tgt := fun tgt kont => go9 tgt (by
      show Steps p.tables e below (T9.setTop (mkF m 23 #[.val (.ref a), .val (.ref b), .val (.ref b)] [(.int r1)])) tgt
      refine XS.ifNo X9.here hx rfl (hb hby dEM_23) rfl ((if0 _ _).trans (feq q1).1) ?_
      show Steps p.tables e below (T9.setTop (mkF m 26 #[.val (.ref a), .val (.ref b), .val (.ref b)] [])) tgt
      refine XS.aloadN X9.here hx rfl (hb hby dEM_26) rfl rfl ?_
      exact kont)
    obtain ⟨T12, X12, e12, st12⟩ := getF X9 hx hZ hown (host := "") (Or.inl (hw _ (List.mem_of_getElem? (i := 70) rfl))) Via.refl e9 FA1 (g := (mkF m 27 #[.val (.ref a), .val (.ref b), .val (.ref b)] [(.ref a)])) rfl rfl (hb hby dEM_27)
    have go12 : ∀ tgt, Steps p.tables e below (T12.setTop (mkF m 30 #[.val (.ref a), .val (.ref b), .val (.ref b)] [(.ref s2)])) tgt → Steps p.tables e below E0 tgt := fun tgt kont => go11 tgt (st12 tgt kont)
    have go13 : ∀ tgt, Steps p.tables e below (T12.setTop (mkF m 31 #[.val (.ref a), .val (.ref b), .val (.ref b)] [(.ref b), (.ref s2)])) tgt → Steps p.tables e below E0 tgt := fun tgt kont => go12 tgt (by
      show Steps p.tables e below (T12.setTop (mkF m 30 #[.val (.ref a), .val (.ref b), .val (.ref b)] [(.ref s2)])) tgt
      refine XS.aloadN X12.here hx rfl (hb hby dEM_30) rfl rfl ?_
      exact kont)
    obtain ⟨T14, X14, e14, st14⟩ := getF X12 hx hZ hown (host := "") (Or.inl (hw _ (List.mem_of_getElem? (i := 70) rfl))) Via.refl e12 FB1 (g := (mkF m 31 #[.val (.ref a), .val (.ref b), .val (.ref b)] [(.ref b), (.ref s2)])) rfl rfl (hb hby dEM_31)
    have go14 : ∀ tgt, Steps p.tables e below (T14.setTop (mkF m 34 #[.val (.ref a), .val (.ref b), .val (.ref b)] [(.ref s5), (.ref s2)])) tgt → Steps p.tables e below E0 tgt := fun tgt kont => go13 tgt (st14 tgt kont)
    obtain ⟨cq15, kq15, q15a, q15b, q15c⟩ := isOf hZ e14 E2
    obtain ⟨vv15, _, ⟨T15, L15, k15, n15⟩, -, X15, ⟨Lc15, hQ15, l15, y15, z15⟩, st15⟩ := X14.virtualBack hx (y := (⟨"java/lang/String", "equals", "(Ljava/lang/Object;)Z"⟩ : MethodName)) (z := (⟨"java/lang/String", "equals", "(Ljava/lang/Object;)Z"⟩ : MethodName)) hown (mvT hZ (hw _ (List.mem_of_getElem? (i := 91) rfl))) (mvT hZ (hw _ (List.mem_of_getElem? (i := 92) rfl))) (notFace_of_selects (args := #[]) (mvT hZ (hw _ (List.mem_of_getElem? (i := 94) rfl)))) (mvT hZ (hw _ (List.mem_of_getElem? (i := 94) rfl))) (mvT hZ (hw _ (List.mem_of_getElem? (i := 93) rfl))) (by decide) (StrChars.Road.eqW (W := 0) hZ heq (kI := 4) (hw _ (List.mem_of_getElem? (i := 8) rfl)) E2 V2 C2 A2 hcd2 hbd2 (Nat.le_of_ble_eq_true rfl) E5 V5 C5 A5 hcd5 hbd5 (Nat.le_of_ble_eq_true rfl) SC hG (by decide) (by decide)) q15a q15c (g := (mkF m 34 #[.val (.ref a), .val (.ref b), .val (.ref b)] [(.ref s5), (.ref s2)])) rfl (by rw [hml]; rfl) (Steps.refl _) (argsL := [(.ref s5)]) (rest := []) (lenOf pd_7 rfl) rfl (by show 2 * 0 + _ ≤ _; exact Nat.le_of_eq rfl) (hb hby dEM_34) (fun _ _ => ⟨rfl, e14, (by decide : 0 + 0 ≤ _), (by decide : 0 + 0 ≤ _)⟩)
    dsimp only [Pt.U, Pt.locs, Pt.cells, Pt.slots] at X15 l15 y15 z15 st15 hQ15
    subst l15 y15 z15
    obtain ⟨hv15, rfl, e15⟩ := hQ15
    have N15q : Fr n0 ([] : List Loc) := Fr.nil n0
    obtain ⟨r2, rfl, hr2⟩ : ∃ r : Int32, vv15 = some (.int r) ∧ ((r = 1 ∧ ([c2, d2] : List Int32) = [c5, d5]) ∨ (r = 0 ∧ ¬ (([c2, d2] : List Int32) = [c5, d5]))) := by
      rcases hv15 with ⟨q, u⟩ | ⟨q, u⟩
      · exact ⟨1, q, Or.inl ⟨rfl, u⟩⟩
      · exact ⟨0, q, Or.inr ⟨rfl, u⟩⟩
    have N15 := Fr.app N9 N15q
    have go15 : ∀ tgt, Steps p.tables e below (T15.setTop (mkF m 37 #[.val (.ref a), .val (.ref b), .val (.ref b)] [(.int r2)])) tgt → Steps p.tables e below E0 tgt := fun tgt kont => go14 tgt (st15.trans kont)
    by_cases q2 : r2 = (0 : Int32)
    · have go16 : ∀ tgt, Steps p.tables e below (T15.setTop (mkF m 81 #[.val (.ref a), .val (.ref b), .val (.ref b)] [(.int (0 : Int32))])) tgt → Steps p.tables e below E0 tgt := fun tgt kont => go15 tgt (by
        show Steps p.tables e below (T15.setTop (mkF m 37 #[.val (.ref a), .val (.ref b), .val (.ref b)] [(.int r2)])) tgt
        refine XS.ifYes X15.here hx rfl (pc0 := 37) (pc' := 80) rfl (hb hby dEM_37) rfl ((if0 _ _).trans (teq q2).1) (by decide) (by decide) ?_
        show Steps p.tables e below (T15.setTop (mkF m 80 #[.val (.ref a), .val (.ref b), .val (.ref b)] [])) tgt
        refine XS.iconst X15.here hx rfl (hb hby dEM_80) ?_
        exact kont)
      obtain ⟨fs, hr, hrun, hended, hW, hsame⟩ := X15.leave (v := some (.int (0 : Int32))) (fun h => by rw [Bd.returns] at h; cases h)
      refine ⟨_, _, go16 _ ?_, hrun, hended, _, _, rfl, ?_, ⟨_, rfl⟩, hW, hsame.mono (by decide) (by decide)⟩
      · show Steps p.tables e below (T15.setTop (mkF m 81 #[.val (.ref a), .val (.ref b), .val (.ref b)] [(.int (0 : Int32))])) _
        exact retN X15 hx (t := .boolean) Bd.returns (by simp) (hb hby dEM_81) hr
      · show QEM Z a b s1 t1 k1 c1 d1 s2 t2 k2 c2 d2 s3 t3 k3 c3 d3 s4 t4 k4 c4 d4 s5 t5 k5 c5 d5 s6 t6 k6 c6 d6 vx vy rx ry G h0 n0 _ T15.heap _
        rw [e15]
        exact ⟨Or.inr ⟨rfl, fun q => (hr2.elim (fun u => absurd (u.1.symm.trans q2) (by decide)) (fun u => u.2 q.2.1))⟩, N15, rfl⟩
    · have y2 : ([c2, d2] : List Int32) = [c5, d5] := hr2.elim (fun u => u.2) (fun u => absurd u.1 q2)
      have go17 : ∀ tgt, Steps p.tables e below (T15.setTop (mkF m 41 #[.val (.ref a), .val (.ref b), .val (.ref b)] [(.ref a)])) tgt → Steps p.tables e below E0 tgt := fun tgt kont => go15 tgt (by
        show Steps p.tables e below (T15.setTop (mkF m 37 #[.val (.ref a), .val (.ref b), .val (.ref b)] [(.int r2)])) tgt
        refine XS.ifNo X15.here hx rfl (hb hby dEM_37) rfl ((if0 _ _).trans (feq q2).1) ?_
        show Steps p.tables e below (T15.setTop (mkF m 40 #[.val (.ref a), .val (.ref b), .val (.ref b)] [])) tgt
        refine XS.aloadN X15.here hx rfl (hb hby dEM_40) rfl rfl ?_
        exact kont)
      obtain ⟨T18, X18, e18, st18⟩ := getF X15 hx hZ hown (host := "") (Or.inl (hw _ (List.mem_of_getElem? (i := 72) rfl))) Via.refl e15 FA2 (g := (mkF m 41 #[.val (.ref a), .val (.ref b), .val (.ref b)] [(.ref a)])) rfl rfl (hb hby dEM_41)
      have go18 : ∀ tgt, Steps p.tables e below (T18.setTop (mkF m 44 #[.val (.ref a), .val (.ref b), .val (.ref b)] [(.ref vx)])) tgt → Steps p.tables e below E0 tgt := fun tgt kont => go17 tgt (st18 tgt kont)
      have go19 : ∀ tgt, Steps p.tables e below (T18.setTop (mkF m 45 #[.val (.ref a), .val (.ref b), .val (.ref b)] [(.ref b), (.ref vx)])) tgt → Steps p.tables e below E0 tgt := fun tgt kont => go18 tgt (by
        show Steps p.tables e below (T18.setTop (mkF m 44 #[.val (.ref a), .val (.ref b), .val (.ref b)] [(.ref vx)])) tgt
        refine XS.aloadN X18.here hx rfl (hb hby dEM_44) rfl rfl ?_
        exact kont)
      obtain ⟨T20, X20, e20, st20⟩ := getF X18 hx hZ hown (host := "") (Or.inl (hw _ (List.mem_of_getElem? (i := 72) rfl))) Via.refl e18 FB2 (g := (mkF m 45 #[.val (.ref a), .val (.ref b), .val (.ref b)] [(.ref b), (.ref vx)])) rfl rfl (hb hby dEM_45)
      have go20 : ∀ tgt, Steps p.tables e below (T20.setTop (mkF m 48 #[.val (.ref a), .val (.ref b), .val (.ref b)] [(.ref vy), (.ref vx)])) tgt → Steps p.tables e below E0 tgt := fun tgt kont => go19 tgt (st20 tgt kont)
      by_cases q3 : vx = vy
      · have go21 : ∀ tgt, Steps p.tables e below (T20.setTop (mkF m 52 #[.val (.ref a), .val (.ref b), .val (.ref b)] [(.ref a)])) tgt → Steps p.tables e below E0 tgt := fun tgt kont => go20 tgt (by
          show Steps p.tables e below (T20.setTop (mkF m 48 #[.val (.ref a), .val (.ref b), .val (.ref b)] [(.ref vy), (.ref vx)])) tgt
          refine Jvm.RoadKit.acmp (g := (mkF m 48 #[.val (.ref a), .val (.ref b), .val (.ref b)] [(.ref vy), (.ref vx)])) X20 hx rfl rfl rfl (pc0 := 48) (pc' := 51) (same := true) rfl (hb hby dEM_48) rfl (decide_eq_true (congrArg Value.ref q3)) (by decide) (by decide) ?_
          show Steps p.tables e below (T20.setTop (mkF m 51 #[.val (.ref a), .val (.ref b), .val (.ref b)] [])) tgt
          refine XS.aloadN X20.here hx rfl (hb hby dEM_51) rfl rfl ?_
          exact kont)
        obtain ⟨T22, X22, e22, st22⟩ := getF X20 hx hZ hown (host := "") (Or.inl (hw _ (List.mem_of_getElem? (i := 74) rfl))) Via.refl e20 FA3 (g := (mkF m 52 #[.val (.ref a), .val (.ref b), .val (.ref b)] [(.ref a)])) rfl rfl (hb hby dEM_52)
        have go22 : ∀ tgt, Steps p.tables e below (T22.setTop (mkF m 55 #[.val (.ref a), .val (.ref b), .val (.ref b)] [(.ref s3)])) tgt → Steps p.tables e below E0 tgt := fun tgt kont => go21 tgt (st22 tgt kont)
        have go23 : ∀ tgt, Steps p.tables e below (T22.setTop (mkF m 56 #[.val (.ref a), .val (.ref b), .val (.ref b)] [(.ref b), (.ref s3)])) tgt → Steps p.tables e below E0 tgt := fun tgt kont => go22 tgt (by
          show Steps p.tables e below (T22.setTop (mkF m 55 #[.val (.ref a), .val (.ref b), .val (.ref b)] [(.ref s3)])) tgt
          refine XS.aloadN X22.here hx rfl (hb hby dEM_55) rfl rfl ?_
          exact kont)
        obtain ⟨T24, X24, e24, st24⟩ := getF X22 hx hZ hown (host := "") (Or.inl (hw _ (List.mem_of_getElem? (i := 74) rfl))) Via.refl e22 FB3 (g := (mkF m 56 #[.val (.ref a), .val (.ref b), .val (.ref b)] [(.ref b), (.ref s3)])) rfl rfl (hb hby dEM_56)
        have go24 : ∀ tgt, Steps p.tables e below (T24.setTop (mkF m 59 #[.val (.ref a), .val (.ref b), .val (.ref b)] [(.ref s6), (.ref s3)])) tgt → Steps p.tables e below E0 tgt := fun tgt kont => go23 tgt (st24 tgt kont)
        obtain ⟨cq25, kq25, q25a, q25b, q25c⟩ := isOf hZ e24 E3
        obtain ⟨vv25, _, ⟨T25, L25, k25, n25⟩, -, X25, ⟨Lc25, hQ25, l25, y25, z25⟩, st25⟩ := X24.virtualBack hx (y := (⟨"java/lang/String", "equals", "(Ljava/lang/Object;)Z"⟩ : MethodName)) (z := (⟨"java/lang/String", "equals", "(Ljava/lang/Object;)Z"⟩ : MethodName)) hown (mvT hZ (hw _ (List.mem_of_getElem? (i := 91) rfl))) (mvT hZ (hw _ (List.mem_of_getElem? (i := 92) rfl))) (notFace_of_selects (args := #[]) (mvT hZ (hw _ (List.mem_of_getElem? (i := 94) rfl)))) (mvT hZ (hw _ (List.mem_of_getElem? (i := 94) rfl))) (mvT hZ (hw _ (List.mem_of_getElem? (i := 93) rfl))) (by decide) (StrChars.Road.eqW (W := 0) hZ heq (kI := 4) (hw _ (List.mem_of_getElem? (i := 8) rfl)) E3 V3 C3 A3 hcd3 hbd3 (Nat.le_of_ble_eq_true rfl) E6 V6 C6 A6 hcd6 hbd6 (Nat.le_of_ble_eq_true rfl) SC hG (by decide) (by decide)) q25a q25c (g := (mkF m 59 #[.val (.ref a), .val (.ref b), .val (.ref b)] [(.ref s6), (.ref s3)])) rfl (by rw [hml]; rfl) (Steps.refl _) (argsL := [(.ref s6)]) (rest := []) (lenOf pd_7 rfl) rfl (by show 2 * 0 + _ ≤ _; exact Nat.le_of_eq rfl) (hb hby dEM_59) (fun _ _ => ⟨rfl, e24, (by decide : 0 + 0 ≤ _), (by decide : 0 + 0 ≤ _)⟩)
        dsimp only [Pt.U, Pt.locs, Pt.cells, Pt.slots] at X25 l25 y25 z25 st25 hQ25
        subst l25 y25 z25
        obtain ⟨hv25, rfl, e25⟩ := hQ25
        have N25q : Fr n0 ([] : List Loc) := Fr.nil n0
        obtain ⟨r3, rfl, hr3⟩ : ∃ r : Int32, vv25 = some (.int r) ∧ ((r = 1 ∧ ([c3, d3] : List Int32) = [c6, d6]) ∨ (r = 0 ∧ ¬ (([c3, d3] : List Int32) = [c6, d6]))) := by
          rcases hv25 with ⟨q, u⟩ | ⟨q, u⟩
          · exact ⟨1, q, Or.inl ⟨rfl, u⟩⟩
          · exact ⟨0, q, Or.inr ⟨rfl, u⟩⟩
        have N25 := Fr.app N15 N25q
        have go25 : ∀ tgt, Steps p.tables e below (T25.setTop (mkF m 62 #[.val (.ref a), .val (.ref b), .val (.ref b)] [(.int r3)])) tgt → Steps p.tables e below E0 tgt := fun tgt kont => go24 tgt (st25.trans kont)
        by_cases q4 : r3 = (0 : Int32)
        · have go26 : ∀ tgt, Steps p.tables e below (T25.setTop (mkF m 81 #[.val (.ref a), .val (.ref b), .val (.ref b)] [(.int (0 : Int32))])) tgt → Steps p.tables e below E0 tgt := fun tgt kont => go25 tgt (by
            show Steps p.tables e below (T25.setTop (mkF m 62 #[.val (.ref a), .val (.ref b), .val (.ref b)] [(.int r3)])) tgt
            refine XS.ifYes X25.here hx rfl (pc0 := 62) (pc' := 80) rfl (hb hby dEM_62) rfl ((if0 _ _).trans (teq q4).1) (by decide) (by decide) ?_
            show Steps p.tables e below (T25.setTop (mkF m 80 #[.val (.ref a), .val (.ref b), .val (.ref b)] [])) tgt
            refine XS.iconst X25.here hx rfl (hb hby dEM_80) ?_
            exact kont)
          obtain ⟨fs, hr, hrun, hended, hW, hsame⟩ := X25.leave (v := some (.int (0 : Int32))) (fun h => by rw [Bd.returns] at h; cases h)
          refine ⟨_, _, go26 _ ?_, hrun, hended, _, _, rfl, ?_, ⟨_, rfl⟩, hW, hsame.mono (by decide) (by decide)⟩
          · show Steps p.tables e below (T25.setTop (mkF m 81 #[.val (.ref a), .val (.ref b), .val (.ref b)] [(.int (0 : Int32))])) _
            exact retN X25 hx (t := .boolean) Bd.returns (by simp) (hb hby dEM_81) hr
          · show QEM Z a b s1 t1 k1 c1 d1 s2 t2 k2 c2 d2 s3 t3 k3 c3 d3 s4 t4 k4 c4 d4 s5 t5 k5 c5 d5 s6 t6 k6 c6 d6 vx vy rx ry G h0 n0 _ T25.heap _
            rw [e25]
            exact ⟨Or.inr ⟨rfl, fun q => (hr3.elim (fun u => absurd (u.1.symm.trans q4) (by decide)) (fun u => u.2 q.2.2.2.1))⟩, N25, rfl⟩
        · have y4 : ([c3, d3] : List Int32) = [c6, d6] := hr3.elim (fun u => u.2) (fun u => absurd u.1 q4)
          have go27 : ∀ tgt, Steps p.tables e below (T25.setTop (mkF m 66 #[.val (.ref a), .val (.ref b), .val (.ref b)] [(.ref a)])) tgt → Steps p.tables e below E0 tgt := fun tgt kont => go25 tgt (by
            show Steps p.tables e below (T25.setTop (mkF m 62 #[.val (.ref a), .val (.ref b), .val (.ref b)] [(.int r3)])) tgt
            refine XS.ifNo X25.here hx rfl (hb hby dEM_62) rfl ((if0 _ _).trans (feq q4).1) ?_
            show Steps p.tables e below (T25.setTop (mkF m 65 #[.val (.ref a), .val (.ref b), .val (.ref b)] [])) tgt
            refine XS.aloadN X25.here hx rfl (hb hby dEM_65) rfl rfl ?_
            exact kont)
          obtain ⟨T28, X28, e28, st28⟩ := getF X25 hx hZ hown (host := "") (Or.inl (hw _ (List.mem_of_getElem? (i := 76) rfl))) Via.refl e25 FA4 (g := (mkF m 66 #[.val (.ref a), .val (.ref b), .val (.ref b)] [(.ref a)])) rfl rfl (hb hby dEM_66)
          have go28 : ∀ tgt, Steps p.tables e below (T28.setTop (mkF m 69 #[.val (.ref a), .val (.ref b), .val (.ref b)] [rx])) tgt → Steps p.tables e below E0 tgt := fun tgt kont => go27 tgt (st28 tgt kont)
          have go29 : ∀ tgt, Steps p.tables e below (T28.setTop (mkF m 70 #[.val (.ref a), .val (.ref b), .val (.ref b)] [(.ref b), rx])) tgt → Steps p.tables e below E0 tgt := fun tgt kont => go28 tgt (by
            show Steps p.tables e below (T28.setTop (mkF m 69 #[.val (.ref a), .val (.ref b), .val (.ref b)] [rx])) tgt
            refine XS.aloadN X28.here hx rfl (hb hby dEM_69) rfl rfl ?_
            exact kont)
          obtain ⟨T30, X30, e30, st30⟩ := getF X28 hx hZ hown (host := "") (Or.inl (hw _ (List.mem_of_getElem? (i := 76) rfl))) Via.refl e28 FB4 (g := (mkF m 70 #[.val (.ref a), .val (.ref b), .val (.ref b)] [(.ref b), rx])) rfl rfl (hb hby dEM_70)
          have go30 : ∀ tgt, Steps p.tables e below (T30.setTop (mkF m 73 #[.val (.ref a), .val (.ref b), .val (.ref b)] [ry, rx])) tgt → Steps p.tables e below E0 tgt := fun tgt kont => go29 tgt (st30 tgt kont)
          by_cases q5 : rx = ry
          · have go31 : ∀ tgt, Steps p.tables e below (T30.setTop (mkF m 81 #[.val (.ref a), .val (.ref b), .val (.ref b)] [(.int (1 : Int32))])) tgt → Steps p.tables e below E0 tgt := fun tgt kont => go30 tgt (by
              show Steps p.tables e below (T30.setTop (mkF m 73 #[.val (.ref a), .val (.ref b), .val (.ref b)] [ry, rx])) tgt
              refine Jvm.RoadKit.acmp (g := (mkF m 73 #[.val (.ref a), .val (.ref b), .val (.ref b)] [ry, rx])) X30 hx rfl hrx hry (pc0 := 73) (pc' := 76) (same := true) rfl (hb hby dEM_73) rfl (decide_eq_true q5) (by decide) (by decide) ?_
              show Steps p.tables e below (T30.setTop (mkF m 76 #[.val (.ref a), .val (.ref b), .val (.ref b)] [])) tgt
              refine XS.iconst X30.here hx rfl (hb hby dEM_76) ?_
              show Steps p.tables e below (T30.setTop (mkF m 77 #[.val (.ref a), .val (.ref b), .val (.ref b)] [(.int (1 : Int32))])) tgt
              refine XS.goto X30.here hx rfl (pc0 := 77) (pc' := 81) rfl (hb hby dEM_77) (by decide) (by decide) ?_
              exact kont)
            obtain ⟨fs, hr, hrun, hended, hW, hsame⟩ := X30.leave (v := some (.int (1 : Int32))) (fun h => by rw [Bd.returns] at h; cases h)
            refine ⟨_, _, go31 _ ?_, hrun, hended, _, _, rfl, ?_, ⟨_, rfl⟩, hW, hsame.mono (by decide) (by decide)⟩
            · show Steps p.tables e below (T30.setTop (mkF m 81 #[.val (.ref a), .val (.ref b), .val (.ref b)] [(.int (1 : Int32))])) _
              exact retN X30 hx (t := .boolean) Bd.returns (by simp) (hb hby dEM_81) hr
            · show QEM Z a b s1 t1 k1 c1 d1 s2 t2 k2 c2 d2 s3 t3 k3 c3 d3 s4 t4 k4 c4 d4 s5 t5 k5 c5 d5 s6 t6 k6 c6 d6 vx vy rx ry G h0 n0 _ T30.heap _
              rw [e30]
              exact ⟨Or.inl ⟨rfl, y1, y2, q3, y4, q5⟩, N25, rfl⟩
          · have go32 : ∀ tgt, Steps p.tables e below (T30.setTop (mkF m 81 #[.val (.ref a), .val (.ref b), .val (.ref b)] [(.int (0 : Int32))])) tgt → Steps p.tables e below E0 tgt := fun tgt kont => go30 tgt (by
              show Steps p.tables e below (T30.setTop (mkF m 73 #[.val (.ref a), .val (.ref b), .val (.ref b)] [ry, rx])) tgt
              refine Jvm.RoadKit.acmp (g := (mkF m 73 #[.val (.ref a), .val (.ref b), .val (.ref b)] [ry, rx])) X30 hx rfl hrx hry (pc0 := 73) (pc' := 80) (same := false) rfl (hb hby dEM_73) rfl (decide_eq_false q5) (by decide) (by decide) ?_
              show Steps p.tables e below (T30.setTop (mkF m 80 #[.val (.ref a), .val (.ref b), .val (.ref b)] [])) tgt
              refine XS.iconst X30.here hx rfl (hb hby dEM_80) ?_
              exact kont)
            obtain ⟨fs, hr, hrun, hended, hW, hsame⟩ := X30.leave (v := some (.int (0 : Int32))) (fun h => by rw [Bd.returns] at h; cases h)
            refine ⟨_, _, go32 _ ?_, hrun, hended, _, _, rfl, ?_, ⟨_, rfl⟩, hW, hsame.mono (by decide) (by decide)⟩
            · show Steps p.tables e below (T30.setTop (mkF m 81 #[.val (.ref a), .val (.ref b), .val (.ref b)] [(.int (0 : Int32))])) _
              exact retN X30 hx (t := .boolean) Bd.returns (by simp) (hb hby dEM_81) hr
            · show QEM Z a b s1 t1 k1 c1 d1 s2 t2 k2 c2 d2 s3 t3 k3 c3 d3 s4 t4 k4 c4 d4 s5 t5 k5 c5 d5 s6 t6 k6 c6 d6 vx vy rx ry G h0 n0 _ T30.heap _
              rw [e30]
              exact ⟨Or.inr ⟨rfl, fun q => q5 q.2.2.2.2⟩, N25, rfl⟩
      · have go33 : ∀ tgt, Steps p.tables e below (T20.setTop (mkF m 81 #[.val (.ref a), .val (.ref b), .val (.ref b)] [(.int (0 : Int32))])) tgt → Steps p.tables e below E0 tgt := fun tgt kont => go20 tgt (by
          show Steps p.tables e below (T20.setTop (mkF m 48 #[.val (.ref a), .val (.ref b), .val (.ref b)] [(.ref vy), (.ref vx)])) tgt
          refine Jvm.RoadKit.acmp (g := (mkF m 48 #[.val (.ref a), .val (.ref b), .val (.ref b)] [(.ref vy), (.ref vx)])) X20 hx rfl rfl rfl (pc0 := 48) (pc' := 80) (same := false) rfl (hb hby dEM_48) rfl (decide_eq_false fun u => q3 (Value.ref.inj u)) (by decide) (by decide) ?_
          show Steps p.tables e below (T20.setTop (mkF m 80 #[.val (.ref a), .val (.ref b), .val (.ref b)] [])) tgt
          refine XS.iconst X20.here hx rfl (hb hby dEM_80) ?_
          exact kont)
        obtain ⟨fs, hr, hrun, hended, hW, hsame⟩ := X20.leave (v := some (.int (0 : Int32))) (fun h => by rw [Bd.returns] at h; cases h)
        refine ⟨_, _, go33 _ ?_, hrun, hended, _, _, rfl, ?_, ⟨_, rfl⟩, hW, hsame.mono (by decide) (by decide)⟩
        · show Steps p.tables e below (T20.setTop (mkF m 81 #[.val (.ref a), .val (.ref b), .val (.ref b)] [(.int (0 : Int32))])) _
          exact retN X20 hx (t := .boolean) Bd.returns (by simp) (hb hby dEM_81) hr
        · show QEM Z a b s1 t1 k1 c1 d1 s2 t2 k2 c2 d2 s3 t3 k3 c3 d3 s4 t4 k4 c4 d4 s5 t5 k5 c5 d5 s6 t6 k6 c6 d6 vx vy rx ry G h0 n0 _ T20.heap _
          rw [e20]
          exact ⟨Or.inr ⟨rfl, fun q => q3 q.2.2.1⟩, N15, rfl⟩
theorem dEN_0 : decode prog_44_method_2_code 0 = .ok (.aload_n 1, 1) := by decide +kernel
theorem dEN_1 : decode prog_44_method_2_code 1 = .ok (.instanceof 22, 3) := by decide +kernel
theorem dEN_4 : decode prog_44_method_2_code 4 = .ok (.ifCond .eq 76, 3) := by decide +kernel
theorem dEN_80 : decode prog_44_method_2_code 80 = .ok (.iconst 0, 1) := by decide +kernel
theorem dEN_81 : decode prog_44_method_2_code 81 = .ok (.ireturn, 1) := by decide +kernel
theorem ef_EN (m : MethodId) (x0 : Addr) : entryFrame m #[(.ref x0), .null] 3 = mkF m 0 #[.val (.ref x0), .val .null, .unset] [] := by first | (simp [entryFrame, mkF, argsToLocals, Value.category, maxLocals]; done) | rfl
def QEN (Z : State) (a : Addr) (h0 : Heap) (n0 : Nat) (v : Option Value) (h : Heap) (L : List Loc) : Prop := v = some (.int (0 : Int32)) ∧ Fr n0 L ∧ h = h0
set_option maxRecDepth 65536 in
set_option maxHeartbeats 40000000 in
theorem rmEN (l : Launch) (Z : State) (a0 : Array Value) (hw : ∀ d ∈ tables_1, d.before a0 Z = true) (ws : List Jvm.Cond) (a : Addr) (h0 : Heap) (n0 : Nat) (Z0 : n0 ≤ h0.size) :
    MetFree l (⟨"bourseline/model/MemberSession", "equals", "(Ljava/lang/Object;)Z"⟩ : MethodName) (head1 (Jvm.Cond.code (⟨"bourseline/model/MemberSession", "equals", "(Ljava/lang/Object;)Z"⟩ : MethodName) prog_44_method_2_code 3 (some .boolean) :: ws) ({ frames := 0, cells := 0, slots := 0, locals := 0 } : Room)) (fun as_ U => as_ = #[(.ref a), .null] ∧ Z.Warmed39 U.vm ∧ U.heap = h0) (fun _ _ _ _ _ => True) (fun _ U o U' => ∃ v L, o = .returned v ∧ QEN Z a h0 n0 v U'.heap L ∧ FrameEnd U o U' L ({ frames := 0, cells := 0, slots := 0, locals := 0 } : Room).cells ({ frames := 0, cells := 0, slots := 0, locals := 0 } : Room).slots) := by
  refine MetFree.of_bodySF (plainFor_of_name pn_6) hisR ?_
  intro p e s m args below meth c s₁ Bd hml0 hP hK
  obtain ⟨rfl, hZ, hh⟩ := hP
  have hx := Bd.exec
  have hby := Bd.bytes
  have hml : c.maxLocals = 3 := hml0
  have hown : s.vm.findClass "bourseline/model/MemberSession" = some m.cls := findClass_of_methodNamed Bd.named
  have hnm := (name_of_methodNamed Bd.named Bd.method).1
  have X0 : Stand p l e ({ frames := 0, cells := 0, slots := 0, locals := 0 } : Room) s m #[(.ref a), .null] below meth c s₁ [] 0 0 := Stand.of_body Bd
  have e0 : s₁.heap = h0 := by rw [← hh, Bd.state]; rfl
  have N0 := Fr.nil n0
  obtain ⟨E0, hE0⟩ : ∃ z, z = s₁.setTop (entryFrame m #[(.ref a), .null] 3) := ⟨_, rfl⟩
  rw [← hE0]
  have go0 : ∀ tgt, Steps p.tables e below (s₁.setTop (mkF m 0 #[.val (.ref a), .val .null, .unset] [])) tgt → Steps p.tables e below E0 tgt := fun tgt kont => by rw [hE0]; exact castTop (ef_EN m a) kont
  have go1 : ∀ tgt, Steps p.tables e below (s₁.setTop (mkF m 1 #[.val (.ref a), .val .null, .unset] [.null])) tgt → Steps p.tables e below E0 tgt := fun tgt kont => go0 tgt (by
    show Steps p.tables e below (s₁.setTop (mkF m 0 #[.val (.ref a), .val .null, .unset] [])) tgt
    refine XS.aloadN X0.here hx rfl (hb hby dEN_0) rfl rfl ?_
    exact kont)
  have go2 : ∀ tgt, Steps p.tables e below (s₁.setTop (mkF m 81 #[.val (.ref a), .val .null, .unset] [(.int (0 : Int32))])) tgt → Steps p.tables e below E0 tgt := fun tgt kont => go1 tgt (by
    show Steps p.tables e below (s₁.setTop (mkF m 1 #[.val (.ref a), .val .null, .unset] [.null])) tgt
    refine X0.instanceofNull hx (g := (mkF m 1 #[.val (.ref a), .val .null, .unset] [.null])) rfl rfl (hb hby dEN_1) _ ?_
    show Steps p.tables e below (s₁.setTop (mkF m 4 #[.val (.ref a), .val .null, .unset] [(.int (0 : Int32))])) tgt
    refine XS.ifYes X0.here hx rfl (pc0 := 4) (pc' := 80) rfl (hb hby dEN_4) rfl ((if0 _ _).trans (teq rfl).1) (by decide) (by decide) ?_
    show Steps p.tables e below (s₁.setTop (mkF m 80 #[.val (.ref a), .val .null, .unset] [])) tgt
    refine XS.iconst X0.here hx rfl (hb hby dEN_80) ?_
    exact kont)
  obtain ⟨fs, hr, hrun, hended, hW, hsame⟩ := X0.leave (v := some (.int (0 : Int32))) (fun h => by rw [Bd.returns] at h; cases h)
  refine ⟨_, _, go2 _ ?_, hrun, hended, _, _, rfl, ?_, ⟨_, rfl⟩, hW, hsame.mono (by decide) (by decide)⟩
  · show Steps p.tables e below (s₁.setTop (mkF m 81 #[.val (.ref a), .val .null, .unset] [(.int (0 : Int32))])) _
    exact retN X0 hx (t := .boolean) Bd.returns (by simp) (hb hby dEN_81) hr
  · show QEN Z a h0 n0 _ s₁.heap _
    rw [e0]
    exact ⟨rfl, N0, rfl⟩
theorem own_NSno {Z : State} {a0 : Array Value} {C S K : String} {n : Nat} (w : (Jvm.Cond.superclass C S).before a0 Z = true) (w0 : (Jvm.Cond.noSuperclass S).before a0 Z = true) (wk : (Jvm.Cond.instantiable K n).before a0 Z = true) (h1 : C ≠ K) (h2 : S ≠ K) : ∃ c t, Z.vm.findClass C = some c ∧ Z.vm.findClass K = some t ∧ Z.vm.assignable c t = false := by
  obtain ⟨t, kt, g0, g2, g5, g6, -, -⟩ := Cond.instantiable_spec wk
  have g7 : kt.isInterface = false := by
    cases hi : kt.isInterface with
    | false => rfl
    | true => rw [hi] at g6; simp at g6
  obtain ⟨c, h0⟩ := found_sup w
  obtain ⟨p, k, kp, e1, e2, e3, e4, e5, -, e7⟩ := Cond.superclass_spec h0 w
  obtain ⟨p', kp', f1, f2, f3, -, -⟩ := Cond.noSuperclass_spec w0
  cases e1.symm.trans f1
  have ne1 := ids_ne h0 g0 h1
  have ne2 := ids_ne e1 g0 h2
  have n2 : ∀ fuel, Z.vm.isSubclassAux fuel p t = false := fun fuel => by
    cases fuel with
    | zero => rfl
    | succ f => simp [Vm.isSubclassAux, ne2, f2, f3]
  have n3 : ∀ fuel, Z.vm.isSubclassAux fuel c t = false := fun fuel => by
    cases fuel with
    | zero => rfl
    | succ f => simp [Vm.isSubclassAux, ne1, e2, e4, n2]
  refine ⟨c, t, h0, g0, ?_⟩
  show Z.vm.assignableAux (255 + 1) c t = false
  simp [Vm.assignableAux, ne1, e2, g2, e5, g5, g7, Vm.isSubclass, n3]

theorem dES_0 : decode prog_44_method_2_code 0 = .ok (.aload_n 1, 1) := by decide +kernel
theorem dES_1 : decode prog_44_method_2_code 1 = .ok (.instanceof 22, 3) := by decide +kernel
theorem dES_4 : decode prog_44_method_2_code 4 = .ok (.ifCond .eq 76, 3) := by decide +kernel
theorem dES_80 : decode prog_44_method_2_code 80 = .ok (.iconst 0, 1) := by decide +kernel
theorem dES_81 : decode prog_44_method_2_code 81 = .ok (.ireturn, 1) := by decide +kernel
theorem ef_ES (m : MethodId) (x0 : Addr) (x1 : Addr) : entryFrame m #[(.ref x0), (.ref x1)] 3 = mkF m 0 #[.val (.ref x0), .val (.ref x1), .unset] [] := by first | (simp [entryFrame, mkF, argsToLocals, Value.category, maxLocals]; done) | rfl
def QES (Z : State) (a : Addr) (b : Addr) (h0 : Heap) (n0 : Nat) (v : Option Value) (h : Heap) (L : List Loc) : Prop := v = some (.int (0 : Int32)) ∧ Fr n0 L ∧ h = h0
set_option maxRecDepth 65536 in
set_option maxHeartbeats 40000000 in
theorem rmES (l : Launch) (Z : State) (a0 : Array Value) (hw : ∀ d ∈ tables_1, d.before a0 Z = true) (ws : List Jvm.Cond) (a : Addr) (b : Addr) (h0 : Heap) (n0 : Nat) (Z0 : n0 ≤ h0.size) (Eb : Exa Z h0 b "java/lang/String") :
    MetFree l (⟨"bourseline/model/MemberSession", "equals", "(Ljava/lang/Object;)Z"⟩ : MethodName) (head1 (Jvm.Cond.code (⟨"bourseline/model/MemberSession", "equals", "(Ljava/lang/Object;)Z"⟩ : MethodName) prog_44_method_2_code 3 (some .boolean) :: ws) ({ frames := 0, cells := 0, slots := 0, locals := 0 } : Room)) (fun as_ U => as_ = #[(.ref a), (.ref b)] ∧ Z.Warmed39 U.vm ∧ U.heap = h0) (fun _ _ _ _ _ => True) (fun _ U o U' => ∃ v L, o = .returned v ∧ QES Z a b h0 n0 v U'.heap L ∧ FrameEnd U o U' L ({ frames := 0, cells := 0, slots := 0, locals := 0 } : Room).cells ({ frames := 0, cells := 0, slots := 0, locals := 0 } : Room).slots) := by
  refine MetFree.of_bodySF (plainFor_of_name pn_6) hisR ?_
  intro p e s m args below meth c s₁ Bd hml0 hP hK
  obtain ⟨rfl, hZ, hh⟩ := hP
  have hx := Bd.exec
  have hby := Bd.bytes
  have hml : c.maxLocals = 3 := hml0
  have hown : s.vm.findClass "bourseline/model/MemberSession" = some m.cls := findClass_of_methodNamed Bd.named
  have hnm := (name_of_methodNamed Bd.named Bd.method).1
  have X0 : Stand p l e ({ frames := 0, cells := 0, slots := 0, locals := 0 } : Room) s m #[(.ref a), (.ref b)] below meth c s₁ [] 0 0 := Stand.of_body Bd
  have e0 : s₁.heap = h0 := by rw [← hh, Bd.state]; rfl
  have N0 := Fr.nil n0
  obtain ⟨E0, hE0⟩ : ∃ z, z = s₁.setTop (entryFrame m #[(.ref a), (.ref b)] 3) := ⟨_, rfl⟩
  rw [← hE0]
  have go0 : ∀ tgt, Steps p.tables e below (s₁.setTop (mkF m 0 #[.val (.ref a), .val (.ref b), .unset] [])) tgt → Steps p.tables e below E0 tgt := fun tgt kont => by rw [hE0]; exact castTop (ef_ES m a b) kont
  have go1 : ∀ tgt, Steps p.tables e below (s₁.setTop (mkF m 1 #[.val (.ref a), .val (.ref b), .unset] [(.ref b)])) tgt → Steps p.tables e below E0 tgt := fun tgt kont => go0 tgt (by
    show Steps p.tables e below (s₁.setTop (mkF m 0 #[.val (.ref a), .val (.ref b), .unset] [])) tgt
    refine XS.aloadN X0.here hx rfl (hb hby dES_0) rfl rfl ?_
    exact kont)
  obtain ⟨T2, X2, e2, st2⟩ := instNo X0 hx hZ hown (hw _ (List.mem_of_getElem? (i := 87) rfl)) e0 Eb (own_NSno (hw _ (List.mem_of_getElem? (i := 88) rfl)) (hw _ (List.mem_of_getElem? (i := 89) rfl)) (hw _ (List.mem_of_getElem? (i := 1) rfl)) (by decide) (by decide)) (g := (mkF m 1 #[.val (.ref a), .val (.ref b), .unset] [(.ref b)])) rfl rfl (hb hby dES_1)
  have go2 : ∀ tgt, Steps p.tables e below (T2.setTop (mkF m 4 #[.val (.ref a), .val (.ref b), .unset] [(.int (0 : Int32))])) tgt → Steps p.tables e below E0 tgt := fun tgt kont => go1 tgt (st2 tgt kont)
  have go3 : ∀ tgt, Steps p.tables e below (T2.setTop (mkF m 81 #[.val (.ref a), .val (.ref b), .unset] [(.int (0 : Int32))])) tgt → Steps p.tables e below E0 tgt := fun tgt kont => go2 tgt (by
    show Steps p.tables e below (T2.setTop (mkF m 4 #[.val (.ref a), .val (.ref b), .unset] [(.int (0 : Int32))])) tgt
    refine XS.ifYes X2.here hx rfl (pc0 := 4) (pc' := 80) rfl (hb hby dES_4) rfl ((if0 _ _).trans (teq rfl).1) (by decide) (by decide) ?_
    show Steps p.tables e below (T2.setTop (mkF m 80 #[.val (.ref a), .val (.ref b), .unset] [])) tgt
    refine XS.iconst X2.here hx rfl (hb hby dES_80) ?_
    exact kont)
  obtain ⟨fs, hr, hrun, hended, hW, hsame⟩ := X2.leave (v := some (.int (0 : Int32))) (fun h => by rw [Bd.returns] at h; cases h)
  refine ⟨_, _, go3 _ ?_, hrun, hended, _, _, rfl, ?_, ⟨_, rfl⟩, hW, hsame.mono (by decide) (by decide)⟩
  · show Steps p.tables e below (T2.setTop (mkF m 81 #[.val (.ref a), .val (.ref b), .unset] [(.int (0 : Int32))])) _
    exact retN X2 hx (t := .boolean) Bd.returns (by simp) (hb hby dES_81) hr
  · show QES Z a b h0 n0 _ T2.heap _
    rw [e2]
    exact ⟨rfl, N0, rfl⟩
theorem pd_8 : parseMethodDescriptor "(II)Ljava/lang/String;" = some ⟨[.int, .int], some (.object "java/lang/String")⟩ := by decide +kernel
theorem pd_9 : parseMethodDescriptor "(I)Lbourseline/model/FixVersion;" = some ⟨[.int], some (.object "bourseline/model/FixVersion")⟩ := by decide +kernel
theorem pd_10 : parseMethodDescriptor "(I)Lbourseline/model/SelfMatchInstruction;" = some ⟨[.int], some (.object "bourseline/model/SelfMatchInstruction")⟩ := by decide +kernel
theorem pd_11 : parseMethodDescriptor "(Ljava/lang/String;Ljava/lang/String;Lbourseline/model/FixVersion;Ljava/lang/String;Lbourseline/model/SelfMatchInstruction;)V" = some ⟨[(.object "java/lang/String"), (.object "java/lang/String"), (.object "bourseline/model/FixVersion"), (.object "java/lang/String"), (.object "bourseline/model/SelfMatchInstruction")], none⟩ := by decide +kernel
theorem ef_L (m : MethodId) (x0 : Int32) (x1 : Int32) (x2 : Int32) (x3 : Int32) (x4 : Int32) : entryFrame m #[(.int x0), (.int x1), (.int x2), (.int x3), (.int x4)] maxLocals = mkF m 0 #[.val (.int x0), .val (.int x1), .val (.int x2), .val (.int x3), .val (.int x4), .unset, .unset, .unset, .unset, .unset, .unset, .unset, .unset, .unset, .unset, .unset, .unset, .unset, .unset, .unset, .unset, .unset, .unset, .unset, .unset, .unset, .unset, .unset, .unset, .unset] [] := by first | (simp [entryFrame, mkF, argsToLocals, Value.category, maxLocals]; done) | rfl
def QL (Z : State) (p0 : Int32) (p1 : Int32) (p2 : Int32) (p3 : Int32) (p4 : Int32) (G : Int32) (g0 : Addr) (g1 : Addr) (g2 : Addr) (r0 : Addr) (r1 : Addr) (r2 : Addr) (h0 : Heap) (n0 : Nat) (v : Option Value) (h : Heap) (L : List Loc) : Prop := v = some (.int 1) ∧ Fr n0 L
set_option maxRecDepth 65536 in
set_option maxHeartbeats 40000000 in
theorem rmL (l : Launch) (Z : State) (a0 : Array Value) (hw : ∀ d ∈ tables_1, d.before a0 Z = true) (ws : List Jvm.Cond) (p0 : Int32) (p1 : Int32) (p2 : Int32) (p3 : Int32) (p4 : Int32) (G : Int32) (g0 : Addr) (g1 : Addr) (g2 : Addr) (r0 : Addr) (r1 : Addr) (r2 : Addr) (h0 : Heap) (n0 : Nat) (Z0 : n0 ≤ h0.size) (SC : Sta Z Z.heap "java/lang/String" "COMPACT_STRINGS" "Z" (.int G)) (hG : ¬ (G = (0 : Int32))) (Sg0 : Sta Z Z.heap "bourseline/model/FixVersion" "FIX_4_2" "Lbourseline/model/FixVersion;" (.ref g0)) (Sg1 : Sta Z Z.heap "bourseline/model/FixVersion" "FIX_4_4" "Lbourseline/model/FixVersion;" (.ref g1)) (Sg2 : Sta Z Z.heap "bourseline/model/FixVersion" "FIX_5_0_SP2" "Lbourseline/model/FixVersion;" (.ref g2)) (Sr0 : Sta Z Z.heap "bourseline/model/SelfMatchInstruction" "CANCEL_AGGRESSIVE" "Lbourseline/model/SelfMatchInstruction;" (.ref r0)) (Sr1 : Sta Z Z.heap "bourseline/model/SelfMatchInstruction" "CANCEL_PASSIVE" "Lbourseline/model/SelfMatchInstruction;" (.ref r1)) (Sr2 : Sta Z Z.heap "bourseline/model/SelfMatchInstruction" "CANCEL_BOTH" "Lbourseline/model/SelfMatchInstruction;" (.ref r2)) (O0 : Old Z n0 h0) (ng1 : g0 ≠ g1) (ng2 : g0 ≠ g2) (ng3 : g1 ≠ g2) (nr1 : r0 ≠ r1) (nr2 : r0 ≠ r2) (nr3 : r1 ≠ r2) :
    MetFree l x (head1 (Jvm.Cond.code x code maxLocals ret :: ws) room_1) (fun as_ U => as_ = #[(.int p0), (.int p1), (.int p2), (.int p3), (.int p4)] ∧ Z.Warmed39 U.vm ∧ U.heap = h0) (fun _ _ _ _ _ => True) (fun _ U o U' => ∃ v L, o = .returned v ∧ QL Z p0 p1 p2 p3 p4 G g0 g1 g2 r0 r1 r2 h0 n0 v U'.heap L ∧ ReturnedEndW U o U' L 36 314) := by
  refine MetFree.of_bodySF (plainFor_of_name pn_3) hisR ?_
  intro p e s m args below meth c s₁ Bd hml0 hP hK
  obtain ⟨rfl, hZ, hh⟩ := hP
  have hx := Bd.exec
  have hby := Bd.bytes
  have hml : c.maxLocals = 30 := hml0
  have hown : s.vm.findClass "bourseline/model/MemberSessionEqualsPinLaw" = some m.cls := findClass_of_methodNamed Bd.named
  have hnm := (name_of_methodNamed Bd.named Bd.method).1
  have X0 : Stand p l e room_1 (s.setVm s.vm) m #[(.int p0), (.int p1), (.int p2), (.int p3), (.int p4)] below meth c s₁ [] 0 0 := Stand.of_body Bd
  have e0 : s₁.heap = h0 := by rw [← hh, Bd.state]; rfl
  have N0 := Fr.nil n0
  obtain ⟨E0, hE0⟩ : ∃ z, z = s₁.setTop (entryFrame m #[(.int p0), (.int p1), (.int p2), (.int p3), (.int p4)] maxLocals) := ⟨_, rfl⟩
  rw [← hE0]
  have go0 : ∀ tgt, Steps p.tables e below (s₁.setTop (mkF m 0 #[.val (.int p0), .val (.int p1), .val (.int p2), .val (.int p3), .val (.int p4), .unset, .unset, .unset, .unset, .unset, .unset, .unset, .unset, .unset, .unset, .unset, .unset, .unset, .unset, .unset, .unset, .unset, .unset, .unset, .unset, .unset, .unset, .unset, .unset, .unset] [])) tgt → Steps p.tables e below E0 tgt := fun tgt kont => by rw [hE0]; exact castTop (ef_L m p0 p1 p2 p3 p4) kont
  have hS0 : s.Since s.vm h0.size := (State.WarmedH.refl s).since _
  have hk0 : h0.size ≤ h0.size := Nat.le_refl _
  have hwS : ∀ a ∈ Bundle.stringAtoms, a.before a0 Z = true := fun d hd => hw d ((by decide +kernel : ∀ d ∈ Bundle.stringAtoms, d ∈ tables_1) d hd)
  obtain ⟨b5, hb5, go1⟩ : ∃ b5 : Int32, (True) ∧ ∀ tgt, Steps p.tables e below (s₁.setTop (mkF m 14 #[.val (.int p0), .val (.int p1), .val (.int p2), .val (.int p3), .val (.int p4), .val (.int b5), .unset, .unset, .unset, .unset, .unset, .unset, .unset, .unset, .unset, .unset, .unset, .unset, .unset, .unset, .unset, .unset, .unset, .unset, .unset, .unset, .unset, .unset, .unset, .unset] [])) tgt → Steps p.tables e below E0 tgt := by
    by_cases hc : (p4 &&& (1 : Int32)) = (0 : Int32)
    · exact ⟨(0 : Int32), trivial, fun tgt kont => go0 tgt (by
        show Steps p.tables e below (s₁.setTop (mkF m 0 #[.val (.int p0), .val (.int p1), .val (.int p2), .val (.int p3), .val (.int p4), .unset, .unset, .unset, .unset, .unset, .unset, .unset, .unset, .unset, .unset, .unset, .unset, .unset, .unset, .unset, .unset, .unset, .unset, .unset, .unset, .unset, .unset, .unset, .unset, .unset] [])) tgt
        refine XS.iload X0.here hx rfl (hb hby at_0) rfl ?_
        show Steps p.tables e below (s₁.setTop (mkF m 2 #[.val (.int p0), .val (.int p1), .val (.int p2), .val (.int p3), .val (.int p4), .unset, .unset, .unset, .unset, .unset, .unset, .unset, .unset, .unset, .unset, .unset, .unset, .unset, .unset, .unset, .unset, .unset, .unset, .unset, .unset, .unset, .unset, .unset, .unset, .unset] [(.int p4)])) tgt
        refine XS.iconst X0.here hx rfl (hb hby at_2) ?_
        show Steps p.tables e below (s₁.setTop (mkF m 3 #[.val (.int p0), .val (.int p1), .val (.int p2), .val (.int p3), .val (.int p4), .unset, .unset, .unset, .unset, .unset, .unset, .unset, .unset, .unset, .unset, .unset, .unset, .unset, .unset, .unset, .unset, .unset, .unset, .unset, .unset, .unset, .unset, .unset, .unset, .unset] [(.int (1 : Int32)), (.int p4)])) tgt
        refine XS.iand X0.here hx rfl (hb hby at_3) rfl ?_
        show Steps p.tables e below (s₁.setTop (mkF m 4 #[.val (.int p0), .val (.int p1), .val (.int p2), .val (.int p3), .val (.int p4), .unset, .unset, .unset, .unset, .unset, .unset, .unset, .unset, .unset, .unset, .unset, .unset, .unset, .unset, .unset, .unset, .unset, .unset, .unset, .unset, .unset, .unset, .unset, .unset, .unset] [(.int (p4 &&& (1 : Int32)))])) tgt
        refine XS.ifYes X0.here hx rfl (pc0 := 4) (pc' := 11) rfl (hb hby at_4) rfl ((if0 _ _).trans (teq hc).1) (by decide) (by decide) ?_
        show Steps p.tables e below (s₁.setTop (mkF m 11 #[.val (.int p0), .val (.int p1), .val (.int p2), .val (.int p3), .val (.int p4), .unset, .unset, .unset, .unset, .unset, .unset, .unset, .unset, .unset, .unset, .unset, .unset, .unset, .unset, .unset, .unset, .unset, .unset, .unset, .unset, .unset, .unset, .unset, .unset, .unset] [])) tgt
        refine XS.iconst X0.here hx rfl (hb hby at_11) ?_
        show Steps p.tables e below (s₁.setTop (mkF m 12 #[.val (.int p0), .val (.int p1), .val (.int p2), .val (.int p3), .val (.int p4), .unset, .unset, .unset, .unset, .unset, .unset, .unset, .unset, .unset, .unset, .unset, .unset, .unset, .unset, .unset, .unset, .unset, .unset, .unset, .unset, .unset, .unset, .unset, .unset, .unset] [(.int (0 : Int32))])) tgt
        refine XS.istore X0.here hx rfl (hb hby at_12) rfl (l' := #[.val (.int p0), .val (.int p1), .val (.int p2), .val (.int p3), .val (.int p4), .val (.int (0 : Int32)), .unset, .unset, .unset, .unset, .unset, .unset, .unset, .unset, .unset, .unset, .unset, .unset, .unset, .unset, .unset, .unset, .unset, .unset, .unset, .unset, .unset, .unset, .unset, .unset]) rfl ?_
        exact kont)⟩
    · exact ⟨(1 : Int32), trivial, fun tgt kont => go0 tgt (by
        show Steps p.tables e below (s₁.setTop (mkF m 0 #[.val (.int p0), .val (.int p1), .val (.int p2), .val (.int p3), .val (.int p4), .unset, .unset, .unset, .unset, .unset, .unset, .unset, .unset, .unset, .unset, .unset, .unset, .unset, .unset, .unset, .unset, .unset, .unset, .unset, .unset, .unset, .unset, .unset, .unset, .unset] [])) tgt
        refine XS.iload X0.here hx rfl (hb hby at_0) rfl ?_
        show Steps p.tables e below (s₁.setTop (mkF m 2 #[.val (.int p0), .val (.int p1), .val (.int p2), .val (.int p3), .val (.int p4), .unset, .unset, .unset, .unset, .unset, .unset, .unset, .unset, .unset, .unset, .unset, .unset, .unset, .unset, .unset, .unset, .unset, .unset, .unset, .unset, .unset, .unset, .unset, .unset, .unset] [(.int p4)])) tgt
        refine XS.iconst X0.here hx rfl (hb hby at_2) ?_
        show Steps p.tables e below (s₁.setTop (mkF m 3 #[.val (.int p0), .val (.int p1), .val (.int p2), .val (.int p3), .val (.int p4), .unset, .unset, .unset, .unset, .unset, .unset, .unset, .unset, .unset, .unset, .unset, .unset, .unset, .unset, .unset, .unset, .unset, .unset, .unset, .unset, .unset, .unset, .unset, .unset, .unset] [(.int (1 : Int32)), (.int p4)])) tgt
        refine XS.iand X0.here hx rfl (hb hby at_3) rfl ?_
        show Steps p.tables e below (s₁.setTop (mkF m 4 #[.val (.int p0), .val (.int p1), .val (.int p2), .val (.int p3), .val (.int p4), .unset, .unset, .unset, .unset, .unset, .unset, .unset, .unset, .unset, .unset, .unset, .unset, .unset, .unset, .unset, .unset, .unset, .unset, .unset, .unset, .unset, .unset, .unset, .unset, .unset] [(.int (p4 &&& (1 : Int32)))])) tgt
        refine XS.ifNo X0.here hx rfl (hb hby at_4) rfl ((if0 _ _).trans (feq hc).1) ?_
        show Steps p.tables e below (s₁.setTop (mkF m 7 #[.val (.int p0), .val (.int p1), .val (.int p2), .val (.int p3), .val (.int p4), .unset, .unset, .unset, .unset, .unset, .unset, .unset, .unset, .unset, .unset, .unset, .unset, .unset, .unset, .unset, .unset, .unset, .unset, .unset, .unset, .unset, .unset, .unset, .unset, .unset] [])) tgt
        refine XS.iconst X0.here hx rfl (hb hby at_7) ?_
        show Steps p.tables e below (s₁.setTop (mkF m 8 #[.val (.int p0), .val (.int p1), .val (.int p2), .val (.int p3), .val (.int p4), .unset, .unset, .unset, .unset, .unset, .unset, .unset, .unset, .unset, .unset, .unset, .unset, .unset, .unset, .unset, .unset, .unset, .unset, .unset, .unset, .unset, .unset, .unset, .unset, .unset] [(.int (1 : Int32))])) tgt
        refine XS.goto X0.here hx rfl (pc0 := 8) (pc' := 12) rfl (hb hby at_8) (by decide) (by decide) ?_
        show Steps p.tables e below (s₁.setTop (mkF m 12 #[.val (.int p0), .val (.int p1), .val (.int p2), .val (.int p3), .val (.int p4), .unset, .unset, .unset, .unset, .unset, .unset, .unset, .unset, .unset, .unset, .unset, .unset, .unset, .unset, .unset, .unset, .unset, .unset, .unset, .unset, .unset, .unset, .unset, .unset, .unset] [(.int (1 : Int32))])) tgt
        refine XS.istore X0.here hx rfl (hb hby at_12) rfl (l' := #[.val (.int p0), .val (.int p1), .val (.int p2), .val (.int p3), .val (.int p4), .val (.int (1 : Int32)), .unset, .unset, .unset, .unset, .unset, .unset, .unset, .unset, .unset, .unset, .unset, .unset, .unset, .unset, .unset, .unset, .unset, .unset, .unset, .unset, .unset, .unset, .unset, .unset]) rfl ?_
        exact kont)⟩
  obtain ⟨b6, hb6, go2⟩ : ∃ b6 : Int32, (True) ∧ ∀ tgt, Steps p.tables e below (s₁.setTop (mkF m 28 #[.val (.int p0), .val (.int p1), .val (.int p2), .val (.int p3), .val (.int p4), .val (.int b5), .val (.int b6), .unset, .unset, .unset, .unset, .unset, .unset, .unset, .unset, .unset, .unset, .unset, .unset, .unset, .unset, .unset, .unset, .unset, .unset, .unset, .unset, .unset, .unset, .unset] [])) tgt → Steps p.tables e below E0 tgt := by
    by_cases hc : (p4 &&& (2 : Int32)) = (0 : Int32)
    · exact ⟨(0 : Int32), trivial, fun tgt kont => go1 tgt (by
        show Steps p.tables e below (s₁.setTop (mkF m 14 #[.val (.int p0), .val (.int p1), .val (.int p2), .val (.int p3), .val (.int p4), .val (.int b5), .unset, .unset, .unset, .unset, .unset, .unset, .unset, .unset, .unset, .unset, .unset, .unset, .unset, .unset, .unset, .unset, .unset, .unset, .unset, .unset, .unset, .unset, .unset, .unset] [])) tgt
        refine XS.iload X0.here hx rfl (hb hby at_14) rfl ?_
        show Steps p.tables e below (s₁.setTop (mkF m 16 #[.val (.int p0), .val (.int p1), .val (.int p2), .val (.int p3), .val (.int p4), .val (.int b5), .unset, .unset, .unset, .unset, .unset, .unset, .unset, .unset, .unset, .unset, .unset, .unset, .unset, .unset, .unset, .unset, .unset, .unset, .unset, .unset, .unset, .unset, .unset, .unset] [(.int p4)])) tgt
        refine XS.iconst X0.here hx rfl (hb hby at_16) ?_
        show Steps p.tables e below (s₁.setTop (mkF m 17 #[.val (.int p0), .val (.int p1), .val (.int p2), .val (.int p3), .val (.int p4), .val (.int b5), .unset, .unset, .unset, .unset, .unset, .unset, .unset, .unset, .unset, .unset, .unset, .unset, .unset, .unset, .unset, .unset, .unset, .unset, .unset, .unset, .unset, .unset, .unset, .unset] [(.int (2 : Int32)), (.int p4)])) tgt
        refine XS.iand X0.here hx rfl (hb hby at_17) rfl ?_
        show Steps p.tables e below (s₁.setTop (mkF m 18 #[.val (.int p0), .val (.int p1), .val (.int p2), .val (.int p3), .val (.int p4), .val (.int b5), .unset, .unset, .unset, .unset, .unset, .unset, .unset, .unset, .unset, .unset, .unset, .unset, .unset, .unset, .unset, .unset, .unset, .unset, .unset, .unset, .unset, .unset, .unset, .unset] [(.int (p4 &&& (2 : Int32)))])) tgt
        refine XS.ifYes X0.here hx rfl (pc0 := 18) (pc' := 25) rfl (hb hby at_18) rfl ((if0 _ _).trans (teq hc).1) (by decide) (by decide) ?_
        show Steps p.tables e below (s₁.setTop (mkF m 25 #[.val (.int p0), .val (.int p1), .val (.int p2), .val (.int p3), .val (.int p4), .val (.int b5), .unset, .unset, .unset, .unset, .unset, .unset, .unset, .unset, .unset, .unset, .unset, .unset, .unset, .unset, .unset, .unset, .unset, .unset, .unset, .unset, .unset, .unset, .unset, .unset] [])) tgt
        refine XS.iconst X0.here hx rfl (hb hby at_25) ?_
        show Steps p.tables e below (s₁.setTop (mkF m 26 #[.val (.int p0), .val (.int p1), .val (.int p2), .val (.int p3), .val (.int p4), .val (.int b5), .unset, .unset, .unset, .unset, .unset, .unset, .unset, .unset, .unset, .unset, .unset, .unset, .unset, .unset, .unset, .unset, .unset, .unset, .unset, .unset, .unset, .unset, .unset, .unset] [(.int (0 : Int32))])) tgt
        refine XS.istore X0.here hx rfl (hb hby at_26) rfl (l' := #[.val (.int p0), .val (.int p1), .val (.int p2), .val (.int p3), .val (.int p4), .val (.int b5), .val (.int (0 : Int32)), .unset, .unset, .unset, .unset, .unset, .unset, .unset, .unset, .unset, .unset, .unset, .unset, .unset, .unset, .unset, .unset, .unset, .unset, .unset, .unset, .unset, .unset, .unset]) rfl ?_
        exact kont)⟩
    · exact ⟨(1 : Int32), trivial, fun tgt kont => go1 tgt (by
        show Steps p.tables e below (s₁.setTop (mkF m 14 #[.val (.int p0), .val (.int p1), .val (.int p2), .val (.int p3), .val (.int p4), .val (.int b5), .unset, .unset, .unset, .unset, .unset, .unset, .unset, .unset, .unset, .unset, .unset, .unset, .unset, .unset, .unset, .unset, .unset, .unset, .unset, .unset, .unset, .unset, .unset, .unset] [])) tgt
        refine XS.iload X0.here hx rfl (hb hby at_14) rfl ?_
        show Steps p.tables e below (s₁.setTop (mkF m 16 #[.val (.int p0), .val (.int p1), .val (.int p2), .val (.int p3), .val (.int p4), .val (.int b5), .unset, .unset, .unset, .unset, .unset, .unset, .unset, .unset, .unset, .unset, .unset, .unset, .unset, .unset, .unset, .unset, .unset, .unset, .unset, .unset, .unset, .unset, .unset, .unset] [(.int p4)])) tgt
        refine XS.iconst X0.here hx rfl (hb hby at_16) ?_
        show Steps p.tables e below (s₁.setTop (mkF m 17 #[.val (.int p0), .val (.int p1), .val (.int p2), .val (.int p3), .val (.int p4), .val (.int b5), .unset, .unset, .unset, .unset, .unset, .unset, .unset, .unset, .unset, .unset, .unset, .unset, .unset, .unset, .unset, .unset, .unset, .unset, .unset, .unset, .unset, .unset, .unset, .unset] [(.int (2 : Int32)), (.int p4)])) tgt
        refine XS.iand X0.here hx rfl (hb hby at_17) rfl ?_
        show Steps p.tables e below (s₁.setTop (mkF m 18 #[.val (.int p0), .val (.int p1), .val (.int p2), .val (.int p3), .val (.int p4), .val (.int b5), .unset, .unset, .unset, .unset, .unset, .unset, .unset, .unset, .unset, .unset, .unset, .unset, .unset, .unset, .unset, .unset, .unset, .unset, .unset, .unset, .unset, .unset, .unset, .unset] [(.int (p4 &&& (2 : Int32)))])) tgt
        refine XS.ifNo X0.here hx rfl (hb hby at_18) rfl ((if0 _ _).trans (feq hc).1) ?_
        show Steps p.tables e below (s₁.setTop (mkF m 21 #[.val (.int p0), .val (.int p1), .val (.int p2), .val (.int p3), .val (.int p4), .val (.int b5), .unset, .unset, .unset, .unset, .unset, .unset, .unset, .unset, .unset, .unset, .unset, .unset, .unset, .unset, .unset, .unset, .unset, .unset, .unset, .unset, .unset, .unset, .unset, .unset] [])) tgt
        refine XS.iconst X0.here hx rfl (hb hby at_21) ?_
        show Steps p.tables e below (s₁.setTop (mkF m 22 #[.val (.int p0), .val (.int p1), .val (.int p2), .val (.int p3), .val (.int p4), .val (.int b5), .unset, .unset, .unset, .unset, .unset, .unset, .unset, .unset, .unset, .unset, .unset, .unset, .unset, .unset, .unset, .unset, .unset, .unset, .unset, .unset, .unset, .unset, .unset, .unset] [(.int (1 : Int32))])) tgt
        refine XS.goto X0.here hx rfl (pc0 := 22) (pc' := 26) rfl (hb hby at_22) (by decide) (by decide) ?_
        show Steps p.tables e below (s₁.setTop (mkF m 26 #[.val (.int p0), .val (.int p1), .val (.int p2), .val (.int p3), .val (.int p4), .val (.int b5), .unset, .unset, .unset, .unset, .unset, .unset, .unset, .unset, .unset, .unset, .unset, .unset, .unset, .unset, .unset, .unset, .unset, .unset, .unset, .unset, .unset, .unset, .unset, .unset] [(.int (1 : Int32))])) tgt
        refine XS.istore X0.here hx rfl (hb hby at_26) rfl (l' := #[.val (.int p0), .val (.int p1), .val (.int p2), .val (.int p3), .val (.int p4), .val (.int b5), .val (.int (1 : Int32)), .unset, .unset, .unset, .unset, .unset, .unset, .unset, .unset, .unset, .unset, .unset, .unset, .unset, .unset, .unset, .unset, .unset, .unset, .unset, .unset, .unset, .unset, .unset]) rfl ?_
        exact kont)⟩
  obtain ⟨b7, hb7, go3⟩ : ∃ b7 : Int32, (True) ∧ ∀ tgt, Steps p.tables e below (s₁.setTop (mkF m 42 #[.val (.int p0), .val (.int p1), .val (.int p2), .val (.int p3), .val (.int p4), .val (.int b5), .val (.int b6), .val (.int b7), .unset, .unset, .unset, .unset, .unset, .unset, .unset, .unset, .unset, .unset, .unset, .unset, .unset, .unset, .unset, .unset, .unset, .unset, .unset, .unset, .unset, .unset] [])) tgt → Steps p.tables e below E0 tgt := by
    by_cases hc : (p4 &&& (4 : Int32)) = (0 : Int32)
    · exact ⟨(0 : Int32), trivial, fun tgt kont => go2 tgt (by
        show Steps p.tables e below (s₁.setTop (mkF m 28 #[.val (.int p0), .val (.int p1), .val (.int p2), .val (.int p3), .val (.int p4), .val (.int b5), .val (.int b6), .unset, .unset, .unset, .unset, .unset, .unset, .unset, .unset, .unset, .unset, .unset, .unset, .unset, .unset, .unset, .unset, .unset, .unset, .unset, .unset, .unset, .unset, .unset] [])) tgt
        refine XS.iload X0.here hx rfl (hb hby at_28) rfl ?_
        show Steps p.tables e below (s₁.setTop (mkF m 30 #[.val (.int p0), .val (.int p1), .val (.int p2), .val (.int p3), .val (.int p4), .val (.int b5), .val (.int b6), .unset, .unset, .unset, .unset, .unset, .unset, .unset, .unset, .unset, .unset, .unset, .unset, .unset, .unset, .unset, .unset, .unset, .unset, .unset, .unset, .unset, .unset, .unset] [(.int p4)])) tgt
        refine XS.iconst X0.here hx rfl (hb hby at_30) ?_
        show Steps p.tables e below (s₁.setTop (mkF m 31 #[.val (.int p0), .val (.int p1), .val (.int p2), .val (.int p3), .val (.int p4), .val (.int b5), .val (.int b6), .unset, .unset, .unset, .unset, .unset, .unset, .unset, .unset, .unset, .unset, .unset, .unset, .unset, .unset, .unset, .unset, .unset, .unset, .unset, .unset, .unset, .unset, .unset] [(.int (4 : Int32)), (.int p4)])) tgt
        refine XS.iand X0.here hx rfl (hb hby at_31) rfl ?_
        show Steps p.tables e below (s₁.setTop (mkF m 32 #[.val (.int p0), .val (.int p1), .val (.int p2), .val (.int p3), .val (.int p4), .val (.int b5), .val (.int b6), .unset, .unset, .unset, .unset, .unset, .unset, .unset, .unset, .unset, .unset, .unset, .unset, .unset, .unset, .unset, .unset, .unset, .unset, .unset, .unset, .unset, .unset, .unset] [(.int (p4 &&& (4 : Int32)))])) tgt
        refine XS.ifYes X0.here hx rfl (pc0 := 32) (pc' := 39) rfl (hb hby at_32) rfl ((if0 _ _).trans (teq hc).1) (by decide) (by decide) ?_
        show Steps p.tables e below (s₁.setTop (mkF m 39 #[.val (.int p0), .val (.int p1), .val (.int p2), .val (.int p3), .val (.int p4), .val (.int b5), .val (.int b6), .unset, .unset, .unset, .unset, .unset, .unset, .unset, .unset, .unset, .unset, .unset, .unset, .unset, .unset, .unset, .unset, .unset, .unset, .unset, .unset, .unset, .unset, .unset] [])) tgt
        refine XS.iconst X0.here hx rfl (hb hby at_39) ?_
        show Steps p.tables e below (s₁.setTop (mkF m 40 #[.val (.int p0), .val (.int p1), .val (.int p2), .val (.int p3), .val (.int p4), .val (.int b5), .val (.int b6), .unset, .unset, .unset, .unset, .unset, .unset, .unset, .unset, .unset, .unset, .unset, .unset, .unset, .unset, .unset, .unset, .unset, .unset, .unset, .unset, .unset, .unset, .unset] [(.int (0 : Int32))])) tgt
        refine XS.istore X0.here hx rfl (hb hby at_40) rfl (l' := #[.val (.int p0), .val (.int p1), .val (.int p2), .val (.int p3), .val (.int p4), .val (.int b5), .val (.int b6), .val (.int (0 : Int32)), .unset, .unset, .unset, .unset, .unset, .unset, .unset, .unset, .unset, .unset, .unset, .unset, .unset, .unset, .unset, .unset, .unset, .unset, .unset, .unset, .unset, .unset]) rfl ?_
        exact kont)⟩
    · exact ⟨(1 : Int32), trivial, fun tgt kont => go2 tgt (by
        show Steps p.tables e below (s₁.setTop (mkF m 28 #[.val (.int p0), .val (.int p1), .val (.int p2), .val (.int p3), .val (.int p4), .val (.int b5), .val (.int b6), .unset, .unset, .unset, .unset, .unset, .unset, .unset, .unset, .unset, .unset, .unset, .unset, .unset, .unset, .unset, .unset, .unset, .unset, .unset, .unset, .unset, .unset, .unset] [])) tgt
        refine XS.iload X0.here hx rfl (hb hby at_28) rfl ?_
        show Steps p.tables e below (s₁.setTop (mkF m 30 #[.val (.int p0), .val (.int p1), .val (.int p2), .val (.int p3), .val (.int p4), .val (.int b5), .val (.int b6), .unset, .unset, .unset, .unset, .unset, .unset, .unset, .unset, .unset, .unset, .unset, .unset, .unset, .unset, .unset, .unset, .unset, .unset, .unset, .unset, .unset, .unset, .unset] [(.int p4)])) tgt
        refine XS.iconst X0.here hx rfl (hb hby at_30) ?_
        show Steps p.tables e below (s₁.setTop (mkF m 31 #[.val (.int p0), .val (.int p1), .val (.int p2), .val (.int p3), .val (.int p4), .val (.int b5), .val (.int b6), .unset, .unset, .unset, .unset, .unset, .unset, .unset, .unset, .unset, .unset, .unset, .unset, .unset, .unset, .unset, .unset, .unset, .unset, .unset, .unset, .unset, .unset, .unset] [(.int (4 : Int32)), (.int p4)])) tgt
        refine XS.iand X0.here hx rfl (hb hby at_31) rfl ?_
        show Steps p.tables e below (s₁.setTop (mkF m 32 #[.val (.int p0), .val (.int p1), .val (.int p2), .val (.int p3), .val (.int p4), .val (.int b5), .val (.int b6), .unset, .unset, .unset, .unset, .unset, .unset, .unset, .unset, .unset, .unset, .unset, .unset, .unset, .unset, .unset, .unset, .unset, .unset, .unset, .unset, .unset, .unset, .unset] [(.int (p4 &&& (4 : Int32)))])) tgt
        refine XS.ifNo X0.here hx rfl (hb hby at_32) rfl ((if0 _ _).trans (feq hc).1) ?_
        show Steps p.tables e below (s₁.setTop (mkF m 35 #[.val (.int p0), .val (.int p1), .val (.int p2), .val (.int p3), .val (.int p4), .val (.int b5), .val (.int b6), .unset, .unset, .unset, .unset, .unset, .unset, .unset, .unset, .unset, .unset, .unset, .unset, .unset, .unset, .unset, .unset, .unset, .unset, .unset, .unset, .unset, .unset, .unset] [])) tgt
        refine XS.iconst X0.here hx rfl (hb hby at_35) ?_
        show Steps p.tables e below (s₁.setTop (mkF m 36 #[.val (.int p0), .val (.int p1), .val (.int p2), .val (.int p3), .val (.int p4), .val (.int b5), .val (.int b6), .unset, .unset, .unset, .unset, .unset, .unset, .unset, .unset, .unset, .unset, .unset, .unset, .unset, .unset, .unset, .unset, .unset, .unset, .unset, .unset, .unset, .unset, .unset] [(.int (1 : Int32))])) tgt
        refine XS.goto X0.here hx rfl (pc0 := 36) (pc' := 40) rfl (hb hby at_36) (by decide) (by decide) ?_
        show Steps p.tables e below (s₁.setTop (mkF m 40 #[.val (.int p0), .val (.int p1), .val (.int p2), .val (.int p3), .val (.int p4), .val (.int b5), .val (.int b6), .unset, .unset, .unset, .unset, .unset, .unset, .unset, .unset, .unset, .unset, .unset, .unset, .unset, .unset, .unset, .unset, .unset, .unset, .unset, .unset, .unset, .unset, .unset] [(.int (1 : Int32))])) tgt
        refine XS.istore X0.here hx rfl (hb hby at_40) rfl (l' := #[.val (.int p0), .val (.int p1), .val (.int p2), .val (.int p3), .val (.int p4), .val (.int b5), .val (.int b6), .val (.int (1 : Int32)), .unset, .unset, .unset, .unset, .unset, .unset, .unset, .unset, .unset, .unset, .unset, .unset, .unset, .unset, .unset, .unset, .unset, .unset, .unset, .unset, .unset, .unset]) rfl ?_
        exact kont)⟩
  obtain ⟨b8, hb8, go4⟩ : ∃ b8 : Int32, (True) ∧ ∀ tgt, Steps p.tables e below (s₁.setTop (mkF m 57 #[.val (.int p0), .val (.int p1), .val (.int p2), .val (.int p3), .val (.int p4), .val (.int b5), .val (.int b6), .val (.int b7), .val (.int b8), .unset, .unset, .unset, .unset, .unset, .unset, .unset, .unset, .unset, .unset, .unset, .unset, .unset, .unset, .unset, .unset, .unset, .unset, .unset, .unset, .unset] [])) tgt → Steps p.tables e below E0 tgt := by
    by_cases hc : (p4 &&& (8 : Int32)) = (0 : Int32)
    · exact ⟨(0 : Int32), trivial, fun tgt kont => go3 tgt (by
        show Steps p.tables e below (s₁.setTop (mkF m 42 #[.val (.int p0), .val (.int p1), .val (.int p2), .val (.int p3), .val (.int p4), .val (.int b5), .val (.int b6), .val (.int b7), .unset, .unset, .unset, .unset, .unset, .unset, .unset, .unset, .unset, .unset, .unset, .unset, .unset, .unset, .unset, .unset, .unset, .unset, .unset, .unset, .unset, .unset] [])) tgt
        refine XS.iload X0.here hx rfl (hb hby at_42) rfl ?_
        show Steps p.tables e below (s₁.setTop (mkF m 44 #[.val (.int p0), .val (.int p1), .val (.int p2), .val (.int p3), .val (.int p4), .val (.int b5), .val (.int b6), .val (.int b7), .unset, .unset, .unset, .unset, .unset, .unset, .unset, .unset, .unset, .unset, .unset, .unset, .unset, .unset, .unset, .unset, .unset, .unset, .unset, .unset, .unset, .unset] [(.int p4)])) tgt
        refine XS.bipush X0.here hx rfl (hb hby at_44) ?_
        show Steps p.tables e below (s₁.setTop (mkF m 46 #[.val (.int p0), .val (.int p1), .val (.int p2), .val (.int p3), .val (.int p4), .val (.int b5), .val (.int b6), .val (.int b7), .unset, .unset, .unset, .unset, .unset, .unset, .unset, .unset, .unset, .unset, .unset, .unset, .unset, .unset, .unset, .unset, .unset, .unset, .unset, .unset, .unset, .unset] [(.int (8 : Int32)), (.int p4)])) tgt
        refine XS.iand X0.here hx rfl (hb hby at_46) rfl ?_
        show Steps p.tables e below (s₁.setTop (mkF m 47 #[.val (.int p0), .val (.int p1), .val (.int p2), .val (.int p3), .val (.int p4), .val (.int b5), .val (.int b6), .val (.int b7), .unset, .unset, .unset, .unset, .unset, .unset, .unset, .unset, .unset, .unset, .unset, .unset, .unset, .unset, .unset, .unset, .unset, .unset, .unset, .unset, .unset, .unset] [(.int (p4 &&& (8 : Int32)))])) tgt
        refine XS.ifYes X0.here hx rfl (pc0 := 47) (pc' := 54) rfl (hb hby at_47) rfl ((if0 _ _).trans (teq hc).1) (by decide) (by decide) ?_
        show Steps p.tables e below (s₁.setTop (mkF m 54 #[.val (.int p0), .val (.int p1), .val (.int p2), .val (.int p3), .val (.int p4), .val (.int b5), .val (.int b6), .val (.int b7), .unset, .unset, .unset, .unset, .unset, .unset, .unset, .unset, .unset, .unset, .unset, .unset, .unset, .unset, .unset, .unset, .unset, .unset, .unset, .unset, .unset, .unset] [])) tgt
        refine XS.iconst X0.here hx rfl (hb hby at_54) ?_
        show Steps p.tables e below (s₁.setTop (mkF m 55 #[.val (.int p0), .val (.int p1), .val (.int p2), .val (.int p3), .val (.int p4), .val (.int b5), .val (.int b6), .val (.int b7), .unset, .unset, .unset, .unset, .unset, .unset, .unset, .unset, .unset, .unset, .unset, .unset, .unset, .unset, .unset, .unset, .unset, .unset, .unset, .unset, .unset, .unset] [(.int (0 : Int32))])) tgt
        refine XS.istore X0.here hx rfl (hb hby at_55) rfl (l' := #[.val (.int p0), .val (.int p1), .val (.int p2), .val (.int p3), .val (.int p4), .val (.int b5), .val (.int b6), .val (.int b7), .val (.int (0 : Int32)), .unset, .unset, .unset, .unset, .unset, .unset, .unset, .unset, .unset, .unset, .unset, .unset, .unset, .unset, .unset, .unset, .unset, .unset, .unset, .unset, .unset]) rfl ?_
        exact kont)⟩
    · exact ⟨(1 : Int32), trivial, fun tgt kont => go3 tgt (by
        show Steps p.tables e below (s₁.setTop (mkF m 42 #[.val (.int p0), .val (.int p1), .val (.int p2), .val (.int p3), .val (.int p4), .val (.int b5), .val (.int b6), .val (.int b7), .unset, .unset, .unset, .unset, .unset, .unset, .unset, .unset, .unset, .unset, .unset, .unset, .unset, .unset, .unset, .unset, .unset, .unset, .unset, .unset, .unset, .unset] [])) tgt
        refine XS.iload X0.here hx rfl (hb hby at_42) rfl ?_
        show Steps p.tables e below (s₁.setTop (mkF m 44 #[.val (.int p0), .val (.int p1), .val (.int p2), .val (.int p3), .val (.int p4), .val (.int b5), .val (.int b6), .val (.int b7), .unset, .unset, .unset, .unset, .unset, .unset, .unset, .unset, .unset, .unset, .unset, .unset, .unset, .unset, .unset, .unset, .unset, .unset, .unset, .unset, .unset, .unset] [(.int p4)])) tgt
        refine XS.bipush X0.here hx rfl (hb hby at_44) ?_
        show Steps p.tables e below (s₁.setTop (mkF m 46 #[.val (.int p0), .val (.int p1), .val (.int p2), .val (.int p3), .val (.int p4), .val (.int b5), .val (.int b6), .val (.int b7), .unset, .unset, .unset, .unset, .unset, .unset, .unset, .unset, .unset, .unset, .unset, .unset, .unset, .unset, .unset, .unset, .unset, .unset, .unset, .unset, .unset, .unset] [(.int (8 : Int32)), (.int p4)])) tgt
        refine XS.iand X0.here hx rfl (hb hby at_46) rfl ?_
        show Steps p.tables e below (s₁.setTop (mkF m 47 #[.val (.int p0), .val (.int p1), .val (.int p2), .val (.int p3), .val (.int p4), .val (.int b5), .val (.int b6), .val (.int b7), .unset, .unset, .unset, .unset, .unset, .unset, .unset, .unset, .unset, .unset, .unset, .unset, .unset, .unset, .unset, .unset, .unset, .unset, .unset, .unset, .unset, .unset] [(.int (p4 &&& (8 : Int32)))])) tgt
        refine XS.ifNo X0.here hx rfl (hb hby at_47) rfl ((if0 _ _).trans (feq hc).1) ?_
        show Steps p.tables e below (s₁.setTop (mkF m 50 #[.val (.int p0), .val (.int p1), .val (.int p2), .val (.int p3), .val (.int p4), .val (.int b5), .val (.int b6), .val (.int b7), .unset, .unset, .unset, .unset, .unset, .unset, .unset, .unset, .unset, .unset, .unset, .unset, .unset, .unset, .unset, .unset, .unset, .unset, .unset, .unset, .unset, .unset] [])) tgt
        refine XS.iconst X0.here hx rfl (hb hby at_50) ?_
        show Steps p.tables e below (s₁.setTop (mkF m 51 #[.val (.int p0), .val (.int p1), .val (.int p2), .val (.int p3), .val (.int p4), .val (.int b5), .val (.int b6), .val (.int b7), .unset, .unset, .unset, .unset, .unset, .unset, .unset, .unset, .unset, .unset, .unset, .unset, .unset, .unset, .unset, .unset, .unset, .unset, .unset, .unset, .unset, .unset] [(.int (1 : Int32))])) tgt
        refine XS.goto X0.here hx rfl (pc0 := 51) (pc' := 55) rfl (hb hby at_51) (by decide) (by decide) ?_
        show Steps p.tables e below (s₁.setTop (mkF m 55 #[.val (.int p0), .val (.int p1), .val (.int p2), .val (.int p3), .val (.int p4), .val (.int b5), .val (.int b6), .val (.int b7), .unset, .unset, .unset, .unset, .unset, .unset, .unset, .unset, .unset, .unset, .unset, .unset, .unset, .unset, .unset, .unset, .unset, .unset, .unset, .unset, .unset, .unset] [(.int (1 : Int32))])) tgt
        refine XS.istore X0.here hx rfl (hb hby at_55) rfl (l' := #[.val (.int p0), .val (.int p1), .val (.int p2), .val (.int p3), .val (.int p4), .val (.int b5), .val (.int b6), .val (.int b7), .val (.int (1 : Int32)), .unset, .unset, .unset, .unset, .unset, .unset, .unset, .unset, .unset, .unset, .unset, .unset, .unset, .unset, .unset, .unset, .unset, .unset, .unset, .unset, .unset]) rfl ?_
        exact kont)⟩
  obtain ⟨b9, hb9, go5⟩ : ∃ b9 : Int32, (True) ∧ ∀ tgt, Steps p.tables e below (s₁.setTop (mkF m 72 #[.val (.int p0), .val (.int p1), .val (.int p2), .val (.int p3), .val (.int p4), .val (.int b5), .val (.int b6), .val (.int b7), .val (.int b8), .val (.int b9), .unset, .unset, .unset, .unset, .unset, .unset, .unset, .unset, .unset, .unset, .unset, .unset, .unset, .unset, .unset, .unset, .unset, .unset, .unset, .unset] [])) tgt → Steps p.tables e below E0 tgt := by
    by_cases hc : (p4 &&& (16 : Int32)) = (0 : Int32)
    · exact ⟨(0 : Int32), trivial, fun tgt kont => go4 tgt (by
        show Steps p.tables e below (s₁.setTop (mkF m 57 #[.val (.int p0), .val (.int p1), .val (.int p2), .val (.int p3), .val (.int p4), .val (.int b5), .val (.int b6), .val (.int b7), .val (.int b8), .unset, .unset, .unset, .unset, .unset, .unset, .unset, .unset, .unset, .unset, .unset, .unset, .unset, .unset, .unset, .unset, .unset, .unset, .unset, .unset, .unset] [])) tgt
        refine XS.iload X0.here hx rfl (hb hby at_57) rfl ?_
        show Steps p.tables e below (s₁.setTop (mkF m 59 #[.val (.int p0), .val (.int p1), .val (.int p2), .val (.int p3), .val (.int p4), .val (.int b5), .val (.int b6), .val (.int b7), .val (.int b8), .unset, .unset, .unset, .unset, .unset, .unset, .unset, .unset, .unset, .unset, .unset, .unset, .unset, .unset, .unset, .unset, .unset, .unset, .unset, .unset, .unset] [(.int p4)])) tgt
        refine XS.bipush X0.here hx rfl (hb hby at_59) ?_
        show Steps p.tables e below (s₁.setTop (mkF m 61 #[.val (.int p0), .val (.int p1), .val (.int p2), .val (.int p3), .val (.int p4), .val (.int b5), .val (.int b6), .val (.int b7), .val (.int b8), .unset, .unset, .unset, .unset, .unset, .unset, .unset, .unset, .unset, .unset, .unset, .unset, .unset, .unset, .unset, .unset, .unset, .unset, .unset, .unset, .unset] [(.int (16 : Int32)), (.int p4)])) tgt
        refine XS.iand X0.here hx rfl (hb hby at_61) rfl ?_
        show Steps p.tables e below (s₁.setTop (mkF m 62 #[.val (.int p0), .val (.int p1), .val (.int p2), .val (.int p3), .val (.int p4), .val (.int b5), .val (.int b6), .val (.int b7), .val (.int b8), .unset, .unset, .unset, .unset, .unset, .unset, .unset, .unset, .unset, .unset, .unset, .unset, .unset, .unset, .unset, .unset, .unset, .unset, .unset, .unset, .unset] [(.int (p4 &&& (16 : Int32)))])) tgt
        refine XS.ifYes X0.here hx rfl (pc0 := 62) (pc' := 69) rfl (hb hby at_62) rfl ((if0 _ _).trans (teq hc).1) (by decide) (by decide) ?_
        show Steps p.tables e below (s₁.setTop (mkF m 69 #[.val (.int p0), .val (.int p1), .val (.int p2), .val (.int p3), .val (.int p4), .val (.int b5), .val (.int b6), .val (.int b7), .val (.int b8), .unset, .unset, .unset, .unset, .unset, .unset, .unset, .unset, .unset, .unset, .unset, .unset, .unset, .unset, .unset, .unset, .unset, .unset, .unset, .unset, .unset] [])) tgt
        refine XS.iconst X0.here hx rfl (hb hby at_69) ?_
        show Steps p.tables e below (s₁.setTop (mkF m 70 #[.val (.int p0), .val (.int p1), .val (.int p2), .val (.int p3), .val (.int p4), .val (.int b5), .val (.int b6), .val (.int b7), .val (.int b8), .unset, .unset, .unset, .unset, .unset, .unset, .unset, .unset, .unset, .unset, .unset, .unset, .unset, .unset, .unset, .unset, .unset, .unset, .unset, .unset, .unset] [(.int (0 : Int32))])) tgt
        refine XS.istore X0.here hx rfl (hb hby at_70) rfl (l' := #[.val (.int p0), .val (.int p1), .val (.int p2), .val (.int p3), .val (.int p4), .val (.int b5), .val (.int b6), .val (.int b7), .val (.int b8), .val (.int (0 : Int32)), .unset, .unset, .unset, .unset, .unset, .unset, .unset, .unset, .unset, .unset, .unset, .unset, .unset, .unset, .unset, .unset, .unset, .unset, .unset, .unset]) rfl ?_
        exact kont)⟩
    · exact ⟨(1 : Int32), trivial, fun tgt kont => go4 tgt (by
        show Steps p.tables e below (s₁.setTop (mkF m 57 #[.val (.int p0), .val (.int p1), .val (.int p2), .val (.int p3), .val (.int p4), .val (.int b5), .val (.int b6), .val (.int b7), .val (.int b8), .unset, .unset, .unset, .unset, .unset, .unset, .unset, .unset, .unset, .unset, .unset, .unset, .unset, .unset, .unset, .unset, .unset, .unset, .unset, .unset, .unset] [])) tgt
        refine XS.iload X0.here hx rfl (hb hby at_57) rfl ?_
        show Steps p.tables e below (s₁.setTop (mkF m 59 #[.val (.int p0), .val (.int p1), .val (.int p2), .val (.int p3), .val (.int p4), .val (.int b5), .val (.int b6), .val (.int b7), .val (.int b8), .unset, .unset, .unset, .unset, .unset, .unset, .unset, .unset, .unset, .unset, .unset, .unset, .unset, .unset, .unset, .unset, .unset, .unset, .unset, .unset, .unset] [(.int p4)])) tgt
        refine XS.bipush X0.here hx rfl (hb hby at_59) ?_
        show Steps p.tables e below (s₁.setTop (mkF m 61 #[.val (.int p0), .val (.int p1), .val (.int p2), .val (.int p3), .val (.int p4), .val (.int b5), .val (.int b6), .val (.int b7), .val (.int b8), .unset, .unset, .unset, .unset, .unset, .unset, .unset, .unset, .unset, .unset, .unset, .unset, .unset, .unset, .unset, .unset, .unset, .unset, .unset, .unset, .unset] [(.int (16 : Int32)), (.int p4)])) tgt
        refine XS.iand X0.here hx rfl (hb hby at_61) rfl ?_
        show Steps p.tables e below (s₁.setTop (mkF m 62 #[.val (.int p0), .val (.int p1), .val (.int p2), .val (.int p3), .val (.int p4), .val (.int b5), .val (.int b6), .val (.int b7), .val (.int b8), .unset, .unset, .unset, .unset, .unset, .unset, .unset, .unset, .unset, .unset, .unset, .unset, .unset, .unset, .unset, .unset, .unset, .unset, .unset, .unset, .unset] [(.int (p4 &&& (16 : Int32)))])) tgt
        refine XS.ifNo X0.here hx rfl (hb hby at_62) rfl ((if0 _ _).trans (feq hc).1) ?_
        show Steps p.tables e below (s₁.setTop (mkF m 65 #[.val (.int p0), .val (.int p1), .val (.int p2), .val (.int p3), .val (.int p4), .val (.int b5), .val (.int b6), .val (.int b7), .val (.int b8), .unset, .unset, .unset, .unset, .unset, .unset, .unset, .unset, .unset, .unset, .unset, .unset, .unset, .unset, .unset, .unset, .unset, .unset, .unset, .unset, .unset] [])) tgt
        refine XS.iconst X0.here hx rfl (hb hby at_65) ?_
        show Steps p.tables e below (s₁.setTop (mkF m 66 #[.val (.int p0), .val (.int p1), .val (.int p2), .val (.int p3), .val (.int p4), .val (.int b5), .val (.int b6), .val (.int b7), .val (.int b8), .unset, .unset, .unset, .unset, .unset, .unset, .unset, .unset, .unset, .unset, .unset, .unset, .unset, .unset, .unset, .unset, .unset, .unset, .unset, .unset, .unset] [(.int (1 : Int32))])) tgt
        refine XS.goto X0.here hx rfl (pc0 := 66) (pc' := 70) rfl (hb hby at_66) (by decide) (by decide) ?_
        show Steps p.tables e below (s₁.setTop (mkF m 70 #[.val (.int p0), .val (.int p1), .val (.int p2), .val (.int p3), .val (.int p4), .val (.int b5), .val (.int b6), .val (.int b7), .val (.int b8), .unset, .unset, .unset, .unset, .unset, .unset, .unset, .unset, .unset, .unset, .unset, .unset, .unset, .unset, .unset, .unset, .unset, .unset, .unset, .unset, .unset] [(.int (1 : Int32))])) tgt
        refine XS.istore X0.here hx rfl (hb hby at_70) rfl (l' := #[.val (.int p0), .val (.int p1), .val (.int p2), .val (.int p3), .val (.int p4), .val (.int b5), .val (.int b6), .val (.int b7), .val (.int b8), .val (.int (1 : Int32)), .unset, .unset, .unset, .unset, .unset, .unset, .unset, .unset, .unset, .unset, .unset, .unset, .unset, .unset, .unset, .unset, .unset, .unset, .unset, .unset]) rfl ?_
        exact kont)⟩
  obtain ⟨v10, hv10⟩ : ∃ z : Int32, z = (p0 &&& (255 : Int32)) := ⟨_, rfl⟩
  have go6 : ∀ tgt, Steps p.tables e below (s₁.setTop (mkF m 89 #[.val (.int p0), .val (.int p1), .val (.int p2), .val (.int p3), .val (.int p4), .val (.int b5), .val (.int b6), .val (.int b7), .val (.int b8), .val (.int b9), .val (.int v10), .val (.int (((p0.toUInt32 >>> ((8 : Int32) &&& 31).toUInt32).toInt32) &&& (255 : Int32))), .unset, .unset, .unset, .unset, .unset, .unset, .unset, .unset, .unset, .unset, .unset, .unset, .unset, .unset, .unset, .unset, .unset, .unset] [])) tgt → Steps p.tables e below E0 tgt := fun tgt kont => go5 tgt (by
    rw [hv10] at kont
    show Steps p.tables e below (s₁.setTop (mkF m 72 #[.val (.int p0), .val (.int p1), .val (.int p2), .val (.int p3), .val (.int p4), .val (.int b5), .val (.int b6), .val (.int b7), .val (.int b8), .val (.int b9), .unset, .unset, .unset, .unset, .unset, .unset, .unset, .unset, .unset, .unset, .unset, .unset, .unset, .unset, .unset, .unset, .unset, .unset, .unset, .unset] [])) tgt
    refine XS.iloadN X0.here hx rfl (hb hby at_72) rfl ?_
    show Steps p.tables e below (s₁.setTop (mkF m 73 #[.val (.int p0), .val (.int p1), .val (.int p2), .val (.int p3), .val (.int p4), .val (.int b5), .val (.int b6), .val (.int b7), .val (.int b8), .val (.int b9), .unset, .unset, .unset, .unset, .unset, .unset, .unset, .unset, .unset, .unset, .unset, .unset, .unset, .unset, .unset, .unset, .unset, .unset, .unset, .unset] [(.int p0)])) tgt
    refine XS.sipush X0.here hx rfl (hb hby at_73) ?_
    show Steps p.tables e below (s₁.setTop (mkF m 76 #[.val (.int p0), .val (.int p1), .val (.int p2), .val (.int p3), .val (.int p4), .val (.int b5), .val (.int b6), .val (.int b7), .val (.int b8), .val (.int b9), .unset, .unset, .unset, .unset, .unset, .unset, .unset, .unset, .unset, .unset, .unset, .unset, .unset, .unset, .unset, .unset, .unset, .unset, .unset, .unset] [(.int (255 : Int32)), (.int p0)])) tgt
    refine XS.iand X0.here hx rfl (hb hby at_76) rfl ?_
    show Steps p.tables e below (s₁.setTop (mkF m 77 #[.val (.int p0), .val (.int p1), .val (.int p2), .val (.int p3), .val (.int p4), .val (.int b5), .val (.int b6), .val (.int b7), .val (.int b8), .val (.int b9), .unset, .unset, .unset, .unset, .unset, .unset, .unset, .unset, .unset, .unset, .unset, .unset, .unset, .unset, .unset, .unset, .unset, .unset, .unset, .unset] [(.int (p0 &&& (255 : Int32)))])) tgt
    refine XS.istore X0.here hx rfl (hb hby at_77) rfl (l' := #[.val (.int p0), .val (.int p1), .val (.int p2), .val (.int p3), .val (.int p4), .val (.int b5), .val (.int b6), .val (.int b7), .val (.int b8), .val (.int b9), .val (.int (p0 &&& (255 : Int32))), .unset, .unset, .unset, .unset, .unset, .unset, .unset, .unset, .unset, .unset, .unset, .unset, .unset, .unset, .unset, .unset, .unset, .unset, .unset]) rfl ?_
    show Steps p.tables e below (s₁.setTop (mkF m 79 #[.val (.int p0), .val (.int p1), .val (.int p2), .val (.int p3), .val (.int p4), .val (.int b5), .val (.int b6), .val (.int b7), .val (.int b8), .val (.int b9), .val (.int (p0 &&& (255 : Int32))), .unset, .unset, .unset, .unset, .unset, .unset, .unset, .unset, .unset, .unset, .unset, .unset, .unset, .unset, .unset, .unset, .unset, .unset, .unset] [])) tgt
    refine XS.iloadN X0.here hx rfl (hb hby at_79) rfl ?_
    show Steps p.tables e below (s₁.setTop (mkF m 80 #[.val (.int p0), .val (.int p1), .val (.int p2), .val (.int p3), .val (.int p4), .val (.int b5), .val (.int b6), .val (.int b7), .val (.int b8), .val (.int b9), .val (.int (p0 &&& (255 : Int32))), .unset, .unset, .unset, .unset, .unset, .unset, .unset, .unset, .unset, .unset, .unset, .unset, .unset, .unset, .unset, .unset, .unset, .unset, .unset] [(.int p0)])) tgt
    refine XS.bipush X0.here hx rfl (hb hby at_80) ?_
    show Steps p.tables e below (s₁.setTop (mkF m 82 #[.val (.int p0), .val (.int p1), .val (.int p2), .val (.int p3), .val (.int p4), .val (.int b5), .val (.int b6), .val (.int b7), .val (.int b8), .val (.int b9), .val (.int (p0 &&& (255 : Int32))), .unset, .unset, .unset, .unset, .unset, .unset, .unset, .unset, .unset, .unset, .unset, .unset, .unset, .unset, .unset, .unset, .unset, .unset, .unset] [(.int (8 : Int32)), (.int p0)])) tgt
    refine XS.iushr X0.here hx rfl (hb hby at_82) rfl ?_
    show Steps p.tables e below (s₁.setTop (mkF m 83 #[.val (.int p0), .val (.int p1), .val (.int p2), .val (.int p3), .val (.int p4), .val (.int b5), .val (.int b6), .val (.int b7), .val (.int b8), .val (.int b9), .val (.int (p0 &&& (255 : Int32))), .unset, .unset, .unset, .unset, .unset, .unset, .unset, .unset, .unset, .unset, .unset, .unset, .unset, .unset, .unset, .unset, .unset, .unset, .unset] [(.int ((p0.toUInt32 >>> ((8 : Int32) &&& 31).toUInt32).toInt32))])) tgt
    refine XS.sipush X0.here hx rfl (hb hby at_83) ?_
    show Steps p.tables e below (s₁.setTop (mkF m 86 #[.val (.int p0), .val (.int p1), .val (.int p2), .val (.int p3), .val (.int p4), .val (.int b5), .val (.int b6), .val (.int b7), .val (.int b8), .val (.int b9), .val (.int (p0 &&& (255 : Int32))), .unset, .unset, .unset, .unset, .unset, .unset, .unset, .unset, .unset, .unset, .unset, .unset, .unset, .unset, .unset, .unset, .unset, .unset, .unset] [(.int (255 : Int32)), (.int ((p0.toUInt32 >>> ((8 : Int32) &&& 31).toUInt32).toInt32))])) tgt
    refine XS.iand X0.here hx rfl (hb hby at_86) rfl ?_
    show Steps p.tables e below (s₁.setTop (mkF m 87 #[.val (.int p0), .val (.int p1), .val (.int p2), .val (.int p3), .val (.int p4), .val (.int b5), .val (.int b6), .val (.int b7), .val (.int b8), .val (.int b9), .val (.int (p0 &&& (255 : Int32))), .unset, .unset, .unset, .unset, .unset, .unset, .unset, .unset, .unset, .unset, .unset, .unset, .unset, .unset, .unset, .unset, .unset, .unset, .unset] [(.int (((p0.toUInt32 >>> ((8 : Int32) &&& 31).toUInt32).toInt32) &&& (255 : Int32)))])) tgt
    refine XS.istore X0.here hx rfl (hb hby at_87) rfl (l' := #[.val (.int p0), .val (.int p1), .val (.int p2), .val (.int p3), .val (.int p4), .val (.int b5), .val (.int b6), .val (.int b7), .val (.int b8), .val (.int b9), .val (.int (p0 &&& (255 : Int32))), .val (.int (((p0.toUInt32 >>> ((8 : Int32) &&& 31).toUInt32).toInt32) &&& (255 : Int32))), .unset, .unset, .unset, .unset, .unset, .unset, .unset, .unset, .unset, .unset, .unset, .unset, .unset, .unset, .unset, .unset, .unset, .unset]) rfl ?_
    exact kont)
  have r10 : (¬ v10 < 0 ∧ ¬ (255 : Int32) < v10) := by rw [hv10]; exact own_mask _
  obtain ⟨v11, hv11⟩ : ∃ z : Int32, z = (((p0.toUInt32 >>> ((8 : Int32) &&& 31).toUInt32).toInt32) &&& (255 : Int32)) := ⟨_, rfl⟩
  have go7 : ∀ tgt, Steps p.tables e below (s₁.setTop (mkF m 89 #[.val (.int p0), .val (.int p1), .val (.int p2), .val (.int p3), .val (.int p4), .val (.int b5), .val (.int b6), .val (.int b7), .val (.int b8), .val (.int b9), .val (.int v10), .val (.int v11), .unset, .unset, .unset, .unset, .unset, .unset, .unset, .unset, .unset, .unset, .unset, .unset, .unset, .unset, .unset, .unset, .unset, .unset] [])) tgt → Steps p.tables e below E0 tgt := fun tgt kont => go6 tgt (by
    rw [hv11] at kont
    exact kont)
  have r11 : (¬ v11 < 0 ∧ ¬ (255 : Int32) < v11) := by rw [hv11]; exact own_mask _
  have go8 : ∀ tgt, Steps p.tables e below (s₁.setTop (mkF m 91 #[.val (.int p0), .val (.int p1), .val (.int p2), .val (.int p3), .val (.int p4), .val (.int b5), .val (.int b6), .val (.int b7), .val (.int b8), .val (.int b9), .val (.int v10), .val (.int v11), .unset, .unset, .unset, .unset, .unset, .unset, .unset, .unset, .unset, .unset, .unset, .unset, .unset, .unset, .unset, .unset, .unset, .unset] [(.int b5)])) tgt → Steps p.tables e below E0 tgt := fun tgt kont => go7 tgt (by
    show Steps p.tables e below (s₁.setTop (mkF m 89 #[.val (.int p0), .val (.int p1), .val (.int p2), .val (.int p3), .val (.int p4), .val (.int b5), .val (.int b6), .val (.int b7), .val (.int b8), .val (.int b9), .val (.int v10), .val (.int v11), .unset, .unset, .unset, .unset, .unset, .unset, .unset, .unset, .unset, .unset, .unset, .unset, .unset, .unset, .unset, .unset, .unset, .unset] [])) tgt
    refine XS.iload X0.here hx rfl (hb hby at_89) rfl ?_
    exact kont)
  obtain ⟨v12, hv12, go9⟩ : ∃ v12 : Int32, ((¬ v12 < 0 ∧ ¬ (255 : Int32) < v12)) ∧ ∀ tgt, Steps p.tables e below (s₁.setTop (mkF m 109 #[.val (.int p0), .val (.int p1), .val (.int p2), .val (.int p3), .val (.int p4), .val (.int b5), .val (.int b6), .val (.int b7), .val (.int b8), .val (.int b9), .val (.int v10), .val (.int v11), .val (.int v12), .unset, .unset, .unset, .unset, .unset, .unset, .unset, .unset, .unset, .unset, .unset, .unset, .unset, .unset, .unset, .unset, .unset] [])) tgt → Steps p.tables e below E0 tgt := by
    by_cases hd : b5 = (0 : Int32)
    · exact ⟨(((p0.toUInt32 >>> ((16 : Int32) &&& 31).toUInt32).toInt32) &&& (255 : Int32)), own_mask _, fun tgt kont => go8 tgt (by
        show Steps p.tables e below (s₁.setTop (mkF m 91 #[.val (.int p0), .val (.int p1), .val (.int p2), .val (.int p3), .val (.int p4), .val (.int b5), .val (.int b6), .val (.int b7), .val (.int b8), .val (.int b9), .val (.int v10), .val (.int v11), .unset, .unset, .unset, .unset, .unset, .unset, .unset, .unset, .unset, .unset, .unset, .unset, .unset, .unset, .unset, .unset, .unset, .unset] [(.int b5)])) tgt
        refine XS.ifYes X0.here hx rfl (pc0 := 91) (pc' := 99) rfl (hb hby at_91) rfl ((if0 _ _).trans (teq hd).1) (by decide) (by decide) ?_
        show Steps p.tables e below (s₁.setTop (mkF m 99 #[.val (.int p0), .val (.int p1), .val (.int p2), .val (.int p3), .val (.int p4), .val (.int b5), .val (.int b6), .val (.int b7), .val (.int b8), .val (.int b9), .val (.int v10), .val (.int v11), .unset, .unset, .unset, .unset, .unset, .unset, .unset, .unset, .unset, .unset, .unset, .unset, .unset, .unset, .unset, .unset, .unset, .unset] [])) tgt
        refine XS.iloadN X0.here hx rfl (hb hby at_99) rfl ?_
        show Steps p.tables e below (s₁.setTop (mkF m 100 #[.val (.int p0), .val (.int p1), .val (.int p2), .val (.int p3), .val (.int p4), .val (.int b5), .val (.int b6), .val (.int b7), .val (.int b8), .val (.int b9), .val (.int v10), .val (.int v11), .unset, .unset, .unset, .unset, .unset, .unset, .unset, .unset, .unset, .unset, .unset, .unset, .unset, .unset, .unset, .unset, .unset, .unset] [(.int p0)])) tgt
        refine XS.bipush X0.here hx rfl (hb hby at_100) ?_
        show Steps p.tables e below (s₁.setTop (mkF m 102 #[.val (.int p0), .val (.int p1), .val (.int p2), .val (.int p3), .val (.int p4), .val (.int b5), .val (.int b6), .val (.int b7), .val (.int b8), .val (.int b9), .val (.int v10), .val (.int v11), .unset, .unset, .unset, .unset, .unset, .unset, .unset, .unset, .unset, .unset, .unset, .unset, .unset, .unset, .unset, .unset, .unset, .unset] [(.int (16 : Int32)), (.int p0)])) tgt
        refine XS.iushr X0.here hx rfl (hb hby at_102) rfl ?_
        show Steps p.tables e below (s₁.setTop (mkF m 103 #[.val (.int p0), .val (.int p1), .val (.int p2), .val (.int p3), .val (.int p4), .val (.int b5), .val (.int b6), .val (.int b7), .val (.int b8), .val (.int b9), .val (.int v10), .val (.int v11), .unset, .unset, .unset, .unset, .unset, .unset, .unset, .unset, .unset, .unset, .unset, .unset, .unset, .unset, .unset, .unset, .unset, .unset] [(.int ((p0.toUInt32 >>> ((16 : Int32) &&& 31).toUInt32).toInt32))])) tgt
        refine XS.sipush X0.here hx rfl (hb hby at_103) ?_
        show Steps p.tables e below (s₁.setTop (mkF m 106 #[.val (.int p0), .val (.int p1), .val (.int p2), .val (.int p3), .val (.int p4), .val (.int b5), .val (.int b6), .val (.int b7), .val (.int b8), .val (.int b9), .val (.int v10), .val (.int v11), .unset, .unset, .unset, .unset, .unset, .unset, .unset, .unset, .unset, .unset, .unset, .unset, .unset, .unset, .unset, .unset, .unset, .unset] [(.int (255 : Int32)), (.int ((p0.toUInt32 >>> ((16 : Int32) &&& 31).toUInt32).toInt32))])) tgt
        refine XS.iand X0.here hx rfl (hb hby at_106) rfl ?_
        show Steps p.tables e below (s₁.setTop (mkF m 107 #[.val (.int p0), .val (.int p1), .val (.int p2), .val (.int p3), .val (.int p4), .val (.int b5), .val (.int b6), .val (.int b7), .val (.int b8), .val (.int b9), .val (.int v10), .val (.int v11), .unset, .unset, .unset, .unset, .unset, .unset, .unset, .unset, .unset, .unset, .unset, .unset, .unset, .unset, .unset, .unset, .unset, .unset] [(.int (((p0.toUInt32 >>> ((16 : Int32) &&& 31).toUInt32).toInt32) &&& (255 : Int32)))])) tgt
        refine XS.istore X0.here hx rfl (hb hby at_107) rfl (l' := #[.val (.int p0), .val (.int p1), .val (.int p2), .val (.int p3), .val (.int p4), .val (.int b5), .val (.int b6), .val (.int b7), .val (.int b8), .val (.int b9), .val (.int v10), .val (.int v11), .val (.int (((p0.toUInt32 >>> ((16 : Int32) &&& 31).toUInt32).toInt32) &&& (255 : Int32))), .unset, .unset, .unset, .unset, .unset, .unset, .unset, .unset, .unset, .unset, .unset, .unset, .unset, .unset, .unset, .unset, .unset]) rfl ?_
        exact kont)⟩
    · exact ⟨v10, r10, fun tgt kont => go8 tgt (by
        show Steps p.tables e below (s₁.setTop (mkF m 91 #[.val (.int p0), .val (.int p1), .val (.int p2), .val (.int p3), .val (.int p4), .val (.int b5), .val (.int b6), .val (.int b7), .val (.int b8), .val (.int b9), .val (.int v10), .val (.int v11), .unset, .unset, .unset, .unset, .unset, .unset, .unset, .unset, .unset, .unset, .unset, .unset, .unset, .unset, .unset, .unset, .unset, .unset] [(.int b5)])) tgt
        refine XS.ifNo X0.here hx rfl (hb hby at_91) rfl ((if0 _ _).trans (feq hd).1) ?_
        show Steps p.tables e below (s₁.setTop (mkF m 94 #[.val (.int p0), .val (.int p1), .val (.int p2), .val (.int p3), .val (.int p4), .val (.int b5), .val (.int b6), .val (.int b7), .val (.int b8), .val (.int b9), .val (.int v10), .val (.int v11), .unset, .unset, .unset, .unset, .unset, .unset, .unset, .unset, .unset, .unset, .unset, .unset, .unset, .unset, .unset, .unset, .unset, .unset] [])) tgt
        refine XS.iload X0.here hx rfl (hb hby at_94) rfl ?_
        show Steps p.tables e below (s₁.setTop (mkF m 96 #[.val (.int p0), .val (.int p1), .val (.int p2), .val (.int p3), .val (.int p4), .val (.int b5), .val (.int b6), .val (.int b7), .val (.int b8), .val (.int b9), .val (.int v10), .val (.int v11), .unset, .unset, .unset, .unset, .unset, .unset, .unset, .unset, .unset, .unset, .unset, .unset, .unset, .unset, .unset, .unset, .unset, .unset] [(.int v10)])) tgt
        refine XS.goto X0.here hx rfl (pc0 := 96) (pc' := 107) rfl (hb hby at_96) (by decide) (by decide) ?_
        show Steps p.tables e below (s₁.setTop (mkF m 107 #[.val (.int p0), .val (.int p1), .val (.int p2), .val (.int p3), .val (.int p4), .val (.int b5), .val (.int b6), .val (.int b7), .val (.int b8), .val (.int b9), .val (.int v10), .val (.int v11), .unset, .unset, .unset, .unset, .unset, .unset, .unset, .unset, .unset, .unset, .unset, .unset, .unset, .unset, .unset, .unset, .unset, .unset] [(.int v10)])) tgt
        refine XS.istore X0.here hx rfl (hb hby at_107) rfl (l' := #[.val (.int p0), .val (.int p1), .val (.int p2), .val (.int p3), .val (.int p4), .val (.int b5), .val (.int b6), .val (.int b7), .val (.int b8), .val (.int b9), .val (.int v10), .val (.int v11), .val (.int v10), .unset, .unset, .unset, .unset, .unset, .unset, .unset, .unset, .unset, .unset, .unset, .unset, .unset, .unset, .unset, .unset, .unset]) rfl ?_
        exact kont)⟩
  have r12 := hv12
  have go10 : ∀ tgt, Steps p.tables e below (s₁.setTop (mkF m 111 #[.val (.int p0), .val (.int p1), .val (.int p2), .val (.int p3), .val (.int p4), .val (.int b5), .val (.int b6), .val (.int b7), .val (.int b8), .val (.int b9), .val (.int v10), .val (.int v11), .val (.int v12), .unset, .unset, .unset, .unset, .unset, .unset, .unset, .unset, .unset, .unset, .unset, .unset, .unset, .unset, .unset, .unset, .unset] [(.int b5)])) tgt → Steps p.tables e below E0 tgt := fun tgt kont => go9 tgt (by
    show Steps p.tables e below (s₁.setTop (mkF m 109 #[.val (.int p0), .val (.int p1), .val (.int p2), .val (.int p3), .val (.int p4), .val (.int b5), .val (.int b6), .val (.int b7), .val (.int b8), .val (.int b9), .val (.int v10), .val (.int v11), .val (.int v12), .unset, .unset, .unset, .unset, .unset, .unset, .unset, .unset, .unset, .unset, .unset, .unset, .unset, .unset, .unset, .unset, .unset] [])) tgt
    refine XS.iload X0.here hx rfl (hb hby at_109) rfl ?_
    exact kont)
  obtain ⟨v13, hv13, go11⟩ : ∃ v13 : Int32, ((¬ v13 < 0 ∧ ¬ (255 : Int32) < v13)) ∧ ∀ tgt, Steps p.tables e below (s₁.setTop (mkF m 129 #[.val (.int p0), .val (.int p1), .val (.int p2), .val (.int p3), .val (.int p4), .val (.int b5), .val (.int b6), .val (.int b7), .val (.int b8), .val (.int b9), .val (.int v10), .val (.int v11), .val (.int v12), .val (.int v13), .unset, .unset, .unset, .unset, .unset, .unset, .unset, .unset, .unset, .unset, .unset, .unset, .unset, .unset, .unset, .unset] [])) tgt → Steps p.tables e below E0 tgt := by
    by_cases hd : b5 = (0 : Int32)
    · exact ⟨(((p0.toUInt32 >>> ((24 : Int32) &&& 31).toUInt32).toInt32) &&& (255 : Int32)), own_mask _, fun tgt kont => go10 tgt (by
        show Steps p.tables e below (s₁.setTop (mkF m 111 #[.val (.int p0), .val (.int p1), .val (.int p2), .val (.int p3), .val (.int p4), .val (.int b5), .val (.int b6), .val (.int b7), .val (.int b8), .val (.int b9), .val (.int v10), .val (.int v11), .val (.int v12), .unset, .unset, .unset, .unset, .unset, .unset, .unset, .unset, .unset, .unset, .unset, .unset, .unset, .unset, .unset, .unset, .unset] [(.int b5)])) tgt
        refine XS.ifYes X0.here hx rfl (pc0 := 111) (pc' := 119) rfl (hb hby at_111) rfl ((if0 _ _).trans (teq hd).1) (by decide) (by decide) ?_
        show Steps p.tables e below (s₁.setTop (mkF m 119 #[.val (.int p0), .val (.int p1), .val (.int p2), .val (.int p3), .val (.int p4), .val (.int b5), .val (.int b6), .val (.int b7), .val (.int b8), .val (.int b9), .val (.int v10), .val (.int v11), .val (.int v12), .unset, .unset, .unset, .unset, .unset, .unset, .unset, .unset, .unset, .unset, .unset, .unset, .unset, .unset, .unset, .unset, .unset] [])) tgt
        refine XS.iloadN X0.here hx rfl (hb hby at_119) rfl ?_
        show Steps p.tables e below (s₁.setTop (mkF m 120 #[.val (.int p0), .val (.int p1), .val (.int p2), .val (.int p3), .val (.int p4), .val (.int b5), .val (.int b6), .val (.int b7), .val (.int b8), .val (.int b9), .val (.int v10), .val (.int v11), .val (.int v12), .unset, .unset, .unset, .unset, .unset, .unset, .unset, .unset, .unset, .unset, .unset, .unset, .unset, .unset, .unset, .unset, .unset] [(.int p0)])) tgt
        refine XS.bipush X0.here hx rfl (hb hby at_120) ?_
        show Steps p.tables e below (s₁.setTop (mkF m 122 #[.val (.int p0), .val (.int p1), .val (.int p2), .val (.int p3), .val (.int p4), .val (.int b5), .val (.int b6), .val (.int b7), .val (.int b8), .val (.int b9), .val (.int v10), .val (.int v11), .val (.int v12), .unset, .unset, .unset, .unset, .unset, .unset, .unset, .unset, .unset, .unset, .unset, .unset, .unset, .unset, .unset, .unset, .unset] [(.int (24 : Int32)), (.int p0)])) tgt
        refine XS.iushr X0.here hx rfl (hb hby at_122) rfl ?_
        show Steps p.tables e below (s₁.setTop (mkF m 123 #[.val (.int p0), .val (.int p1), .val (.int p2), .val (.int p3), .val (.int p4), .val (.int b5), .val (.int b6), .val (.int b7), .val (.int b8), .val (.int b9), .val (.int v10), .val (.int v11), .val (.int v12), .unset, .unset, .unset, .unset, .unset, .unset, .unset, .unset, .unset, .unset, .unset, .unset, .unset, .unset, .unset, .unset, .unset] [(.int ((p0.toUInt32 >>> ((24 : Int32) &&& 31).toUInt32).toInt32))])) tgt
        refine XS.sipush X0.here hx rfl (hb hby at_123) ?_
        show Steps p.tables e below (s₁.setTop (mkF m 126 #[.val (.int p0), .val (.int p1), .val (.int p2), .val (.int p3), .val (.int p4), .val (.int b5), .val (.int b6), .val (.int b7), .val (.int b8), .val (.int b9), .val (.int v10), .val (.int v11), .val (.int v12), .unset, .unset, .unset, .unset, .unset, .unset, .unset, .unset, .unset, .unset, .unset, .unset, .unset, .unset, .unset, .unset, .unset] [(.int (255 : Int32)), (.int ((p0.toUInt32 >>> ((24 : Int32) &&& 31).toUInt32).toInt32))])) tgt
        refine XS.iand X0.here hx rfl (hb hby at_126) rfl ?_
        show Steps p.tables e below (s₁.setTop (mkF m 127 #[.val (.int p0), .val (.int p1), .val (.int p2), .val (.int p3), .val (.int p4), .val (.int b5), .val (.int b6), .val (.int b7), .val (.int b8), .val (.int b9), .val (.int v10), .val (.int v11), .val (.int v12), .unset, .unset, .unset, .unset, .unset, .unset, .unset, .unset, .unset, .unset, .unset, .unset, .unset, .unset, .unset, .unset, .unset] [(.int (((p0.toUInt32 >>> ((24 : Int32) &&& 31).toUInt32).toInt32) &&& (255 : Int32)))])) tgt
        refine XS.istore X0.here hx rfl (hb hby at_127) rfl (l' := #[.val (.int p0), .val (.int p1), .val (.int p2), .val (.int p3), .val (.int p4), .val (.int b5), .val (.int b6), .val (.int b7), .val (.int b8), .val (.int b9), .val (.int v10), .val (.int v11), .val (.int v12), .val (.int (((p0.toUInt32 >>> ((24 : Int32) &&& 31).toUInt32).toInt32) &&& (255 : Int32))), .unset, .unset, .unset, .unset, .unset, .unset, .unset, .unset, .unset, .unset, .unset, .unset, .unset, .unset, .unset, .unset]) rfl ?_
        exact kont)⟩
    · exact ⟨v11, r11, fun tgt kont => go10 tgt (by
        show Steps p.tables e below (s₁.setTop (mkF m 111 #[.val (.int p0), .val (.int p1), .val (.int p2), .val (.int p3), .val (.int p4), .val (.int b5), .val (.int b6), .val (.int b7), .val (.int b8), .val (.int b9), .val (.int v10), .val (.int v11), .val (.int v12), .unset, .unset, .unset, .unset, .unset, .unset, .unset, .unset, .unset, .unset, .unset, .unset, .unset, .unset, .unset, .unset, .unset] [(.int b5)])) tgt
        refine XS.ifNo X0.here hx rfl (hb hby at_111) rfl ((if0 _ _).trans (feq hd).1) ?_
        show Steps p.tables e below (s₁.setTop (mkF m 114 #[.val (.int p0), .val (.int p1), .val (.int p2), .val (.int p3), .val (.int p4), .val (.int b5), .val (.int b6), .val (.int b7), .val (.int b8), .val (.int b9), .val (.int v10), .val (.int v11), .val (.int v12), .unset, .unset, .unset, .unset, .unset, .unset, .unset, .unset, .unset, .unset, .unset, .unset, .unset, .unset, .unset, .unset, .unset] [])) tgt
        refine XS.iload X0.here hx rfl (hb hby at_114) rfl ?_
        show Steps p.tables e below (s₁.setTop (mkF m 116 #[.val (.int p0), .val (.int p1), .val (.int p2), .val (.int p3), .val (.int p4), .val (.int b5), .val (.int b6), .val (.int b7), .val (.int b8), .val (.int b9), .val (.int v10), .val (.int v11), .val (.int v12), .unset, .unset, .unset, .unset, .unset, .unset, .unset, .unset, .unset, .unset, .unset, .unset, .unset, .unset, .unset, .unset, .unset] [(.int v11)])) tgt
        refine XS.goto X0.here hx rfl (pc0 := 116) (pc' := 127) rfl (hb hby at_116) (by decide) (by decide) ?_
        show Steps p.tables e below (s₁.setTop (mkF m 127 #[.val (.int p0), .val (.int p1), .val (.int p2), .val (.int p3), .val (.int p4), .val (.int b5), .val (.int b6), .val (.int b7), .val (.int b8), .val (.int b9), .val (.int v10), .val (.int v11), .val (.int v12), .unset, .unset, .unset, .unset, .unset, .unset, .unset, .unset, .unset, .unset, .unset, .unset, .unset, .unset, .unset, .unset, .unset] [(.int v11)])) tgt
        refine XS.istore X0.here hx rfl (hb hby at_127) rfl (l' := #[.val (.int p0), .val (.int p1), .val (.int p2), .val (.int p3), .val (.int p4), .val (.int b5), .val (.int b6), .val (.int b7), .val (.int b8), .val (.int b9), .val (.int v10), .val (.int v11), .val (.int v12), .val (.int v11), .unset, .unset, .unset, .unset, .unset, .unset, .unset, .unset, .unset, .unset, .unset, .unset, .unset, .unset, .unset, .unset]) rfl ?_
        exact kont)⟩
  have r13 := hv13
  obtain ⟨v14, hv14⟩ : ∃ z : Int32, z = (p1 &&& (255 : Int32)) := ⟨_, rfl⟩
  have go12 : ∀ tgt, Steps p.tables e below (s₁.setTop (mkF m 146 #[.val (.int p0), .val (.int p1), .val (.int p2), .val (.int p3), .val (.int p4), .val (.int b5), .val (.int b6), .val (.int b7), .val (.int b8), .val (.int b9), .val (.int v10), .val (.int v11), .val (.int v12), .val (.int v13), .val (.int v14), .val (.int (((p1.toUInt32 >>> ((8 : Int32) &&& 31).toUInt32).toInt32) &&& (255 : Int32))), .unset, .unset, .unset, .unset, .unset, .unset, .unset, .unset, .unset, .unset, .unset, .unset, .unset, .unset] [])) tgt → Steps p.tables e below E0 tgt := fun tgt kont => go11 tgt (by
    rw [hv14] at kont
    show Steps p.tables e below (s₁.setTop (mkF m 129 #[.val (.int p0), .val (.int p1), .val (.int p2), .val (.int p3), .val (.int p4), .val (.int b5), .val (.int b6), .val (.int b7), .val (.int b8), .val (.int b9), .val (.int v10), .val (.int v11), .val (.int v12), .val (.int v13), .unset, .unset, .unset, .unset, .unset, .unset, .unset, .unset, .unset, .unset, .unset, .unset, .unset, .unset, .unset, .unset] [])) tgt
    refine XS.iloadN X0.here hx rfl (hb hby at_129) rfl ?_
    show Steps p.tables e below (s₁.setTop (mkF m 130 #[.val (.int p0), .val (.int p1), .val (.int p2), .val (.int p3), .val (.int p4), .val (.int b5), .val (.int b6), .val (.int b7), .val (.int b8), .val (.int b9), .val (.int v10), .val (.int v11), .val (.int v12), .val (.int v13), .unset, .unset, .unset, .unset, .unset, .unset, .unset, .unset, .unset, .unset, .unset, .unset, .unset, .unset, .unset, .unset] [(.int p1)])) tgt
    refine XS.sipush X0.here hx rfl (hb hby at_130) ?_
    show Steps p.tables e below (s₁.setTop (mkF m 133 #[.val (.int p0), .val (.int p1), .val (.int p2), .val (.int p3), .val (.int p4), .val (.int b5), .val (.int b6), .val (.int b7), .val (.int b8), .val (.int b9), .val (.int v10), .val (.int v11), .val (.int v12), .val (.int v13), .unset, .unset, .unset, .unset, .unset, .unset, .unset, .unset, .unset, .unset, .unset, .unset, .unset, .unset, .unset, .unset] [(.int (255 : Int32)), (.int p1)])) tgt
    refine XS.iand X0.here hx rfl (hb hby at_133) rfl ?_
    show Steps p.tables e below (s₁.setTop (mkF m 134 #[.val (.int p0), .val (.int p1), .val (.int p2), .val (.int p3), .val (.int p4), .val (.int b5), .val (.int b6), .val (.int b7), .val (.int b8), .val (.int b9), .val (.int v10), .val (.int v11), .val (.int v12), .val (.int v13), .unset, .unset, .unset, .unset, .unset, .unset, .unset, .unset, .unset, .unset, .unset, .unset, .unset, .unset, .unset, .unset] [(.int (p1 &&& (255 : Int32)))])) tgt
    refine XS.istore X0.here hx rfl (hb hby at_134) rfl (l' := #[.val (.int p0), .val (.int p1), .val (.int p2), .val (.int p3), .val (.int p4), .val (.int b5), .val (.int b6), .val (.int b7), .val (.int b8), .val (.int b9), .val (.int v10), .val (.int v11), .val (.int v12), .val (.int v13), .val (.int (p1 &&& (255 : Int32))), .unset, .unset, .unset, .unset, .unset, .unset, .unset, .unset, .unset, .unset, .unset, .unset, .unset, .unset, .unset]) rfl ?_
    show Steps p.tables e below (s₁.setTop (mkF m 136 #[.val (.int p0), .val (.int p1), .val (.int p2), .val (.int p3), .val (.int p4), .val (.int b5), .val (.int b6), .val (.int b7), .val (.int b8), .val (.int b9), .val (.int v10), .val (.int v11), .val (.int v12), .val (.int v13), .val (.int (p1 &&& (255 : Int32))), .unset, .unset, .unset, .unset, .unset, .unset, .unset, .unset, .unset, .unset, .unset, .unset, .unset, .unset, .unset] [])) tgt
    refine XS.iloadN X0.here hx rfl (hb hby at_136) rfl ?_
    show Steps p.tables e below (s₁.setTop (mkF m 137 #[.val (.int p0), .val (.int p1), .val (.int p2), .val (.int p3), .val (.int p4), .val (.int b5), .val (.int b6), .val (.int b7), .val (.int b8), .val (.int b9), .val (.int v10), .val (.int v11), .val (.int v12), .val (.int v13), .val (.int (p1 &&& (255 : Int32))), .unset, .unset, .unset, .unset, .unset, .unset, .unset, .unset, .unset, .unset, .unset, .unset, .unset, .unset, .unset] [(.int p1)])) tgt
    refine XS.bipush X0.here hx rfl (hb hby at_137) ?_
    show Steps p.tables e below (s₁.setTop (mkF m 139 #[.val (.int p0), .val (.int p1), .val (.int p2), .val (.int p3), .val (.int p4), .val (.int b5), .val (.int b6), .val (.int b7), .val (.int b8), .val (.int b9), .val (.int v10), .val (.int v11), .val (.int v12), .val (.int v13), .val (.int (p1 &&& (255 : Int32))), .unset, .unset, .unset, .unset, .unset, .unset, .unset, .unset, .unset, .unset, .unset, .unset, .unset, .unset, .unset] [(.int (8 : Int32)), (.int p1)])) tgt
    refine XS.iushr X0.here hx rfl (hb hby at_139) rfl ?_
    show Steps p.tables e below (s₁.setTop (mkF m 140 #[.val (.int p0), .val (.int p1), .val (.int p2), .val (.int p3), .val (.int p4), .val (.int b5), .val (.int b6), .val (.int b7), .val (.int b8), .val (.int b9), .val (.int v10), .val (.int v11), .val (.int v12), .val (.int v13), .val (.int (p1 &&& (255 : Int32))), .unset, .unset, .unset, .unset, .unset, .unset, .unset, .unset, .unset, .unset, .unset, .unset, .unset, .unset, .unset] [(.int ((p1.toUInt32 >>> ((8 : Int32) &&& 31).toUInt32).toInt32))])) tgt
    refine XS.sipush X0.here hx rfl (hb hby at_140) ?_
    show Steps p.tables e below (s₁.setTop (mkF m 143 #[.val (.int p0), .val (.int p1), .val (.int p2), .val (.int p3), .val (.int p4), .val (.int b5), .val (.int b6), .val (.int b7), .val (.int b8), .val (.int b9), .val (.int v10), .val (.int v11), .val (.int v12), .val (.int v13), .val (.int (p1 &&& (255 : Int32))), .unset, .unset, .unset, .unset, .unset, .unset, .unset, .unset, .unset, .unset, .unset, .unset, .unset, .unset, .unset] [(.int (255 : Int32)), (.int ((p1.toUInt32 >>> ((8 : Int32) &&& 31).toUInt32).toInt32))])) tgt
    refine XS.iand X0.here hx rfl (hb hby at_143) rfl ?_
    show Steps p.tables e below (s₁.setTop (mkF m 144 #[.val (.int p0), .val (.int p1), .val (.int p2), .val (.int p3), .val (.int p4), .val (.int b5), .val (.int b6), .val (.int b7), .val (.int b8), .val (.int b9), .val (.int v10), .val (.int v11), .val (.int v12), .val (.int v13), .val (.int (p1 &&& (255 : Int32))), .unset, .unset, .unset, .unset, .unset, .unset, .unset, .unset, .unset, .unset, .unset, .unset, .unset, .unset, .unset] [(.int (((p1.toUInt32 >>> ((8 : Int32) &&& 31).toUInt32).toInt32) &&& (255 : Int32)))])) tgt
    refine XS.istore X0.here hx rfl (hb hby at_144) rfl (l' := #[.val (.int p0), .val (.int p1), .val (.int p2), .val (.int p3), .val (.int p4), .val (.int b5), .val (.int b6), .val (.int b7), .val (.int b8), .val (.int b9), .val (.int v10), .val (.int v11), .val (.int v12), .val (.int v13), .val (.int (p1 &&& (255 : Int32))), .val (.int (((p1.toUInt32 >>> ((8 : Int32) &&& 31).toUInt32).toInt32) &&& (255 : Int32))), .unset, .unset, .unset, .unset, .unset, .unset, .unset, .unset, .unset, .unset, .unset, .unset, .unset, .unset]) rfl ?_
    exact kont)
  have r14 : (¬ v14 < 0 ∧ ¬ (255 : Int32) < v14) := by rw [hv14]; exact own_mask _
  obtain ⟨v15, hv15⟩ : ∃ z : Int32, z = (((p1.toUInt32 >>> ((8 : Int32) &&& 31).toUInt32).toInt32) &&& (255 : Int32)) := ⟨_, rfl⟩
  have go13 : ∀ tgt, Steps p.tables e below (s₁.setTop (mkF m 146 #[.val (.int p0), .val (.int p1), .val (.int p2), .val (.int p3), .val (.int p4), .val (.int b5), .val (.int b6), .val (.int b7), .val (.int b8), .val (.int b9), .val (.int v10), .val (.int v11), .val (.int v12), .val (.int v13), .val (.int v14), .val (.int v15), .unset, .unset, .unset, .unset, .unset, .unset, .unset, .unset, .unset, .unset, .unset, .unset, .unset, .unset] [])) tgt → Steps p.tables e below E0 tgt := fun tgt kont => go12 tgt (by
    rw [hv15] at kont
    exact kont)
  have r15 : (¬ v15 < 0 ∧ ¬ (255 : Int32) < v15) := by rw [hv15]; exact own_mask _
  have go14 : ∀ tgt, Steps p.tables e below (s₁.setTop (mkF m 148 #[.val (.int p0), .val (.int p1), .val (.int p2), .val (.int p3), .val (.int p4), .val (.int b5), .val (.int b6), .val (.int b7), .val (.int b8), .val (.int b9), .val (.int v10), .val (.int v11), .val (.int v12), .val (.int v13), .val (.int v14), .val (.int v15), .unset, .unset, .unset, .unset, .unset, .unset, .unset, .unset, .unset, .unset, .unset, .unset, .unset, .unset] [(.int b6)])) tgt → Steps p.tables e below E0 tgt := fun tgt kont => go13 tgt (by
    show Steps p.tables e below (s₁.setTop (mkF m 146 #[.val (.int p0), .val (.int p1), .val (.int p2), .val (.int p3), .val (.int p4), .val (.int b5), .val (.int b6), .val (.int b7), .val (.int b8), .val (.int b9), .val (.int v10), .val (.int v11), .val (.int v12), .val (.int v13), .val (.int v14), .val (.int v15), .unset, .unset, .unset, .unset, .unset, .unset, .unset, .unset, .unset, .unset, .unset, .unset, .unset, .unset] [])) tgt
    refine XS.iload X0.here hx rfl (hb hby at_146) rfl ?_
    exact kont)
  obtain ⟨v16, hv16, go15⟩ : ∃ v16 : Int32, ((¬ v16 < 0 ∧ ¬ (255 : Int32) < v16)) ∧ ∀ tgt, Steps p.tables e below (s₁.setTop (mkF m 166 #[.val (.int p0), .val (.int p1), .val (.int p2), .val (.int p3), .val (.int p4), .val (.int b5), .val (.int b6), .val (.int b7), .val (.int b8), .val (.int b9), .val (.int v10), .val (.int v11), .val (.int v12), .val (.int v13), .val (.int v14), .val (.int v15), .val (.int v16), .unset, .unset, .unset, .unset, .unset, .unset, .unset, .unset, .unset, .unset, .unset, .unset, .unset] [])) tgt → Steps p.tables e below E0 tgt := by
    by_cases hd : b6 = (0 : Int32)
    · exact ⟨(((p1.toUInt32 >>> ((16 : Int32) &&& 31).toUInt32).toInt32) &&& (255 : Int32)), own_mask _, fun tgt kont => go14 tgt (by
        show Steps p.tables e below (s₁.setTop (mkF m 148 #[.val (.int p0), .val (.int p1), .val (.int p2), .val (.int p3), .val (.int p4), .val (.int b5), .val (.int b6), .val (.int b7), .val (.int b8), .val (.int b9), .val (.int v10), .val (.int v11), .val (.int v12), .val (.int v13), .val (.int v14), .val (.int v15), .unset, .unset, .unset, .unset, .unset, .unset, .unset, .unset, .unset, .unset, .unset, .unset, .unset, .unset] [(.int b6)])) tgt
        refine XS.ifYes X0.here hx rfl (pc0 := 148) (pc' := 156) rfl (hb hby at_148) rfl ((if0 _ _).trans (teq hd).1) (by decide) (by decide) ?_
        show Steps p.tables e below (s₁.setTop (mkF m 156 #[.val (.int p0), .val (.int p1), .val (.int p2), .val (.int p3), .val (.int p4), .val (.int b5), .val (.int b6), .val (.int b7), .val (.int b8), .val (.int b9), .val (.int v10), .val (.int v11), .val (.int v12), .val (.int v13), .val (.int v14), .val (.int v15), .unset, .unset, .unset, .unset, .unset, .unset, .unset, .unset, .unset, .unset, .unset, .unset, .unset, .unset] [])) tgt
        refine XS.iloadN X0.here hx rfl (hb hby at_156) rfl ?_
        show Steps p.tables e below (s₁.setTop (mkF m 157 #[.val (.int p0), .val (.int p1), .val (.int p2), .val (.int p3), .val (.int p4), .val (.int b5), .val (.int b6), .val (.int b7), .val (.int b8), .val (.int b9), .val (.int v10), .val (.int v11), .val (.int v12), .val (.int v13), .val (.int v14), .val (.int v15), .unset, .unset, .unset, .unset, .unset, .unset, .unset, .unset, .unset, .unset, .unset, .unset, .unset, .unset] [(.int p1)])) tgt
        refine XS.bipush X0.here hx rfl (hb hby at_157) ?_
        show Steps p.tables e below (s₁.setTop (mkF m 159 #[.val (.int p0), .val (.int p1), .val (.int p2), .val (.int p3), .val (.int p4), .val (.int b5), .val (.int b6), .val (.int b7), .val (.int b8), .val (.int b9), .val (.int v10), .val (.int v11), .val (.int v12), .val (.int v13), .val (.int v14), .val (.int v15), .unset, .unset, .unset, .unset, .unset, .unset, .unset, .unset, .unset, .unset, .unset, .unset, .unset, .unset] [(.int (16 : Int32)), (.int p1)])) tgt
        refine XS.iushr X0.here hx rfl (hb hby at_159) rfl ?_
        show Steps p.tables e below (s₁.setTop (mkF m 160 #[.val (.int p0), .val (.int p1), .val (.int p2), .val (.int p3), .val (.int p4), .val (.int b5), .val (.int b6), .val (.int b7), .val (.int b8), .val (.int b9), .val (.int v10), .val (.int v11), .val (.int v12), .val (.int v13), .val (.int v14), .val (.int v15), .unset, .unset, .unset, .unset, .unset, .unset, .unset, .unset, .unset, .unset, .unset, .unset, .unset, .unset] [(.int ((p1.toUInt32 >>> ((16 : Int32) &&& 31).toUInt32).toInt32))])) tgt
        refine XS.sipush X0.here hx rfl (hb hby at_160) ?_
        show Steps p.tables e below (s₁.setTop (mkF m 163 #[.val (.int p0), .val (.int p1), .val (.int p2), .val (.int p3), .val (.int p4), .val (.int b5), .val (.int b6), .val (.int b7), .val (.int b8), .val (.int b9), .val (.int v10), .val (.int v11), .val (.int v12), .val (.int v13), .val (.int v14), .val (.int v15), .unset, .unset, .unset, .unset, .unset, .unset, .unset, .unset, .unset, .unset, .unset, .unset, .unset, .unset] [(.int (255 : Int32)), (.int ((p1.toUInt32 >>> ((16 : Int32) &&& 31).toUInt32).toInt32))])) tgt
        refine XS.iand X0.here hx rfl (hb hby at_163) rfl ?_
        show Steps p.tables e below (s₁.setTop (mkF m 164 #[.val (.int p0), .val (.int p1), .val (.int p2), .val (.int p3), .val (.int p4), .val (.int b5), .val (.int b6), .val (.int b7), .val (.int b8), .val (.int b9), .val (.int v10), .val (.int v11), .val (.int v12), .val (.int v13), .val (.int v14), .val (.int v15), .unset, .unset, .unset, .unset, .unset, .unset, .unset, .unset, .unset, .unset, .unset, .unset, .unset, .unset] [(.int (((p1.toUInt32 >>> ((16 : Int32) &&& 31).toUInt32).toInt32) &&& (255 : Int32)))])) tgt
        refine XS.istore X0.here hx rfl (hb hby at_164) rfl (l' := #[.val (.int p0), .val (.int p1), .val (.int p2), .val (.int p3), .val (.int p4), .val (.int b5), .val (.int b6), .val (.int b7), .val (.int b8), .val (.int b9), .val (.int v10), .val (.int v11), .val (.int v12), .val (.int v13), .val (.int v14), .val (.int v15), .val (.int (((p1.toUInt32 >>> ((16 : Int32) &&& 31).toUInt32).toInt32) &&& (255 : Int32))), .unset, .unset, .unset, .unset, .unset, .unset, .unset, .unset, .unset, .unset, .unset, .unset, .unset]) rfl ?_
        exact kont)⟩
    · exact ⟨v14, r14, fun tgt kont => go14 tgt (by
        show Steps p.tables e below (s₁.setTop (mkF m 148 #[.val (.int p0), .val (.int p1), .val (.int p2), .val (.int p3), .val (.int p4), .val (.int b5), .val (.int b6), .val (.int b7), .val (.int b8), .val (.int b9), .val (.int v10), .val (.int v11), .val (.int v12), .val (.int v13), .val (.int v14), .val (.int v15), .unset, .unset, .unset, .unset, .unset, .unset, .unset, .unset, .unset, .unset, .unset, .unset, .unset, .unset] [(.int b6)])) tgt
        refine XS.ifNo X0.here hx rfl (hb hby at_148) rfl ((if0 _ _).trans (feq hd).1) ?_
        show Steps p.tables e below (s₁.setTop (mkF m 151 #[.val (.int p0), .val (.int p1), .val (.int p2), .val (.int p3), .val (.int p4), .val (.int b5), .val (.int b6), .val (.int b7), .val (.int b8), .val (.int b9), .val (.int v10), .val (.int v11), .val (.int v12), .val (.int v13), .val (.int v14), .val (.int v15), .unset, .unset, .unset, .unset, .unset, .unset, .unset, .unset, .unset, .unset, .unset, .unset, .unset, .unset] [])) tgt
        refine XS.iload X0.here hx rfl (hb hby at_151) rfl ?_
        show Steps p.tables e below (s₁.setTop (mkF m 153 #[.val (.int p0), .val (.int p1), .val (.int p2), .val (.int p3), .val (.int p4), .val (.int b5), .val (.int b6), .val (.int b7), .val (.int b8), .val (.int b9), .val (.int v10), .val (.int v11), .val (.int v12), .val (.int v13), .val (.int v14), .val (.int v15), .unset, .unset, .unset, .unset, .unset, .unset, .unset, .unset, .unset, .unset, .unset, .unset, .unset, .unset] [(.int v14)])) tgt
        refine XS.goto X0.here hx rfl (pc0 := 153) (pc' := 164) rfl (hb hby at_153) (by decide) (by decide) ?_
        show Steps p.tables e below (s₁.setTop (mkF m 164 #[.val (.int p0), .val (.int p1), .val (.int p2), .val (.int p3), .val (.int p4), .val (.int b5), .val (.int b6), .val (.int b7), .val (.int b8), .val (.int b9), .val (.int v10), .val (.int v11), .val (.int v12), .val (.int v13), .val (.int v14), .val (.int v15), .unset, .unset, .unset, .unset, .unset, .unset, .unset, .unset, .unset, .unset, .unset, .unset, .unset, .unset] [(.int v14)])) tgt
        refine XS.istore X0.here hx rfl (hb hby at_164) rfl (l' := #[.val (.int p0), .val (.int p1), .val (.int p2), .val (.int p3), .val (.int p4), .val (.int b5), .val (.int b6), .val (.int b7), .val (.int b8), .val (.int b9), .val (.int v10), .val (.int v11), .val (.int v12), .val (.int v13), .val (.int v14), .val (.int v15), .val (.int v14), .unset, .unset, .unset, .unset, .unset, .unset, .unset, .unset, .unset, .unset, .unset, .unset, .unset]) rfl ?_
        exact kont)⟩
  have r16 := hv16
  have go16 : ∀ tgt, Steps p.tables e below (s₁.setTop (mkF m 168 #[.val (.int p0), .val (.int p1), .val (.int p2), .val (.int p3), .val (.int p4), .val (.int b5), .val (.int b6), .val (.int b7), .val (.int b8), .val (.int b9), .val (.int v10), .val (.int v11), .val (.int v12), .val (.int v13), .val (.int v14), .val (.int v15), .val (.int v16), .unset, .unset, .unset, .unset, .unset, .unset, .unset, .unset, .unset, .unset, .unset, .unset, .unset] [(.int b6)])) tgt → Steps p.tables e below E0 tgt := fun tgt kont => go15 tgt (by
    show Steps p.tables e below (s₁.setTop (mkF m 166 #[.val (.int p0), .val (.int p1), .val (.int p2), .val (.int p3), .val (.int p4), .val (.int b5), .val (.int b6), .val (.int b7), .val (.int b8), .val (.int b9), .val (.int v10), .val (.int v11), .val (.int v12), .val (.int v13), .val (.int v14), .val (.int v15), .val (.int v16), .unset, .unset, .unset, .unset, .unset, .unset, .unset, .unset, .unset, .unset, .unset, .unset, .unset] [])) tgt
    refine XS.iload X0.here hx rfl (hb hby at_166) rfl ?_
    exact kont)
  obtain ⟨v17, hv17, go17⟩ : ∃ v17 : Int32, ((¬ v17 < 0 ∧ ¬ (255 : Int32) < v17)) ∧ ∀ tgt, Steps p.tables e below (s₁.setTop (mkF m 186 #[.val (.int p0), .val (.int p1), .val (.int p2), .val (.int p3), .val (.int p4), .val (.int b5), .val (.int b6), .val (.int b7), .val (.int b8), .val (.int b9), .val (.int v10), .val (.int v11), .val (.int v12), .val (.int v13), .val (.int v14), .val (.int v15), .val (.int v16), .val (.int v17), .unset, .unset, .unset, .unset, .unset, .unset, .unset, .unset, .unset, .unset, .unset, .unset] [])) tgt → Steps p.tables e below E0 tgt := by
    by_cases hd : b6 = (0 : Int32)
    · exact ⟨(((p1.toUInt32 >>> ((24 : Int32) &&& 31).toUInt32).toInt32) &&& (255 : Int32)), own_mask _, fun tgt kont => go16 tgt (by
        show Steps p.tables e below (s₁.setTop (mkF m 168 #[.val (.int p0), .val (.int p1), .val (.int p2), .val (.int p3), .val (.int p4), .val (.int b5), .val (.int b6), .val (.int b7), .val (.int b8), .val (.int b9), .val (.int v10), .val (.int v11), .val (.int v12), .val (.int v13), .val (.int v14), .val (.int v15), .val (.int v16), .unset, .unset, .unset, .unset, .unset, .unset, .unset, .unset, .unset, .unset, .unset, .unset, .unset] [(.int b6)])) tgt
        refine XS.ifYes X0.here hx rfl (pc0 := 168) (pc' := 176) rfl (hb hby at_168) rfl ((if0 _ _).trans (teq hd).1) (by decide) (by decide) ?_
        show Steps p.tables e below (s₁.setTop (mkF m 176 #[.val (.int p0), .val (.int p1), .val (.int p2), .val (.int p3), .val (.int p4), .val (.int b5), .val (.int b6), .val (.int b7), .val (.int b8), .val (.int b9), .val (.int v10), .val (.int v11), .val (.int v12), .val (.int v13), .val (.int v14), .val (.int v15), .val (.int v16), .unset, .unset, .unset, .unset, .unset, .unset, .unset, .unset, .unset, .unset, .unset, .unset, .unset] [])) tgt
        refine XS.iloadN X0.here hx rfl (hb hby at_176) rfl ?_
        show Steps p.tables e below (s₁.setTop (mkF m 177 #[.val (.int p0), .val (.int p1), .val (.int p2), .val (.int p3), .val (.int p4), .val (.int b5), .val (.int b6), .val (.int b7), .val (.int b8), .val (.int b9), .val (.int v10), .val (.int v11), .val (.int v12), .val (.int v13), .val (.int v14), .val (.int v15), .val (.int v16), .unset, .unset, .unset, .unset, .unset, .unset, .unset, .unset, .unset, .unset, .unset, .unset, .unset] [(.int p1)])) tgt
        refine XS.bipush X0.here hx rfl (hb hby at_177) ?_
        show Steps p.tables e below (s₁.setTop (mkF m 179 #[.val (.int p0), .val (.int p1), .val (.int p2), .val (.int p3), .val (.int p4), .val (.int b5), .val (.int b6), .val (.int b7), .val (.int b8), .val (.int b9), .val (.int v10), .val (.int v11), .val (.int v12), .val (.int v13), .val (.int v14), .val (.int v15), .val (.int v16), .unset, .unset, .unset, .unset, .unset, .unset, .unset, .unset, .unset, .unset, .unset, .unset, .unset] [(.int (24 : Int32)), (.int p1)])) tgt
        refine XS.iushr X0.here hx rfl (hb hby at_179) rfl ?_
        show Steps p.tables e below (s₁.setTop (mkF m 180 #[.val (.int p0), .val (.int p1), .val (.int p2), .val (.int p3), .val (.int p4), .val (.int b5), .val (.int b6), .val (.int b7), .val (.int b8), .val (.int b9), .val (.int v10), .val (.int v11), .val (.int v12), .val (.int v13), .val (.int v14), .val (.int v15), .val (.int v16), .unset, .unset, .unset, .unset, .unset, .unset, .unset, .unset, .unset, .unset, .unset, .unset, .unset] [(.int ((p1.toUInt32 >>> ((24 : Int32) &&& 31).toUInt32).toInt32))])) tgt
        refine XS.sipush X0.here hx rfl (hb hby at_180) ?_
        show Steps p.tables e below (s₁.setTop (mkF m 183 #[.val (.int p0), .val (.int p1), .val (.int p2), .val (.int p3), .val (.int p4), .val (.int b5), .val (.int b6), .val (.int b7), .val (.int b8), .val (.int b9), .val (.int v10), .val (.int v11), .val (.int v12), .val (.int v13), .val (.int v14), .val (.int v15), .val (.int v16), .unset, .unset, .unset, .unset, .unset, .unset, .unset, .unset, .unset, .unset, .unset, .unset, .unset] [(.int (255 : Int32)), (.int ((p1.toUInt32 >>> ((24 : Int32) &&& 31).toUInt32).toInt32))])) tgt
        refine XS.iand X0.here hx rfl (hb hby at_183) rfl ?_
        show Steps p.tables e below (s₁.setTop (mkF m 184 #[.val (.int p0), .val (.int p1), .val (.int p2), .val (.int p3), .val (.int p4), .val (.int b5), .val (.int b6), .val (.int b7), .val (.int b8), .val (.int b9), .val (.int v10), .val (.int v11), .val (.int v12), .val (.int v13), .val (.int v14), .val (.int v15), .val (.int v16), .unset, .unset, .unset, .unset, .unset, .unset, .unset, .unset, .unset, .unset, .unset, .unset, .unset] [(.int (((p1.toUInt32 >>> ((24 : Int32) &&& 31).toUInt32).toInt32) &&& (255 : Int32)))])) tgt
        refine XS.istore X0.here hx rfl (hb hby at_184) rfl (l' := #[.val (.int p0), .val (.int p1), .val (.int p2), .val (.int p3), .val (.int p4), .val (.int b5), .val (.int b6), .val (.int b7), .val (.int b8), .val (.int b9), .val (.int v10), .val (.int v11), .val (.int v12), .val (.int v13), .val (.int v14), .val (.int v15), .val (.int v16), .val (.int (((p1.toUInt32 >>> ((24 : Int32) &&& 31).toUInt32).toInt32) &&& (255 : Int32))), .unset, .unset, .unset, .unset, .unset, .unset, .unset, .unset, .unset, .unset, .unset, .unset]) rfl ?_
        exact kont)⟩
    · exact ⟨v15, r15, fun tgt kont => go16 tgt (by
        show Steps p.tables e below (s₁.setTop (mkF m 168 #[.val (.int p0), .val (.int p1), .val (.int p2), .val (.int p3), .val (.int p4), .val (.int b5), .val (.int b6), .val (.int b7), .val (.int b8), .val (.int b9), .val (.int v10), .val (.int v11), .val (.int v12), .val (.int v13), .val (.int v14), .val (.int v15), .val (.int v16), .unset, .unset, .unset, .unset, .unset, .unset, .unset, .unset, .unset, .unset, .unset, .unset, .unset] [(.int b6)])) tgt
        refine XS.ifNo X0.here hx rfl (hb hby at_168) rfl ((if0 _ _).trans (feq hd).1) ?_
        show Steps p.tables e below (s₁.setTop (mkF m 171 #[.val (.int p0), .val (.int p1), .val (.int p2), .val (.int p3), .val (.int p4), .val (.int b5), .val (.int b6), .val (.int b7), .val (.int b8), .val (.int b9), .val (.int v10), .val (.int v11), .val (.int v12), .val (.int v13), .val (.int v14), .val (.int v15), .val (.int v16), .unset, .unset, .unset, .unset, .unset, .unset, .unset, .unset, .unset, .unset, .unset, .unset, .unset] [])) tgt
        refine XS.iload X0.here hx rfl (hb hby at_171) rfl ?_
        show Steps p.tables e below (s₁.setTop (mkF m 173 #[.val (.int p0), .val (.int p1), .val (.int p2), .val (.int p3), .val (.int p4), .val (.int b5), .val (.int b6), .val (.int b7), .val (.int b8), .val (.int b9), .val (.int v10), .val (.int v11), .val (.int v12), .val (.int v13), .val (.int v14), .val (.int v15), .val (.int v16), .unset, .unset, .unset, .unset, .unset, .unset, .unset, .unset, .unset, .unset, .unset, .unset, .unset] [(.int v15)])) tgt
        refine XS.goto X0.here hx rfl (pc0 := 173) (pc' := 184) rfl (hb hby at_173) (by decide) (by decide) ?_
        show Steps p.tables e below (s₁.setTop (mkF m 184 #[.val (.int p0), .val (.int p1), .val (.int p2), .val (.int p3), .val (.int p4), .val (.int b5), .val (.int b6), .val (.int b7), .val (.int b8), .val (.int b9), .val (.int v10), .val (.int v11), .val (.int v12), .val (.int v13), .val (.int v14), .val (.int v15), .val (.int v16), .unset, .unset, .unset, .unset, .unset, .unset, .unset, .unset, .unset, .unset, .unset, .unset, .unset] [(.int v15)])) tgt
        refine XS.istore X0.here hx rfl (hb hby at_184) rfl (l' := #[.val (.int p0), .val (.int p1), .val (.int p2), .val (.int p3), .val (.int p4), .val (.int b5), .val (.int b6), .val (.int b7), .val (.int b8), .val (.int b9), .val (.int v10), .val (.int v11), .val (.int v12), .val (.int v13), .val (.int v14), .val (.int v15), .val (.int v16), .val (.int v15), .unset, .unset, .unset, .unset, .unset, .unset, .unset, .unset, .unset, .unset, .unset, .unset]) rfl ?_
        exact kont)⟩
  have r17 := hv17
  obtain ⟨v18, hv18⟩ : ∃ z : Int32, z = (p2 &&& (255 : Int32)) := ⟨_, rfl⟩
  have go18 : ∀ tgt, Steps p.tables e below (s₁.setTop (mkF m 203 #[.val (.int p0), .val (.int p1), .val (.int p2), .val (.int p3), .val (.int p4), .val (.int b5), .val (.int b6), .val (.int b7), .val (.int b8), .val (.int b9), .val (.int v10), .val (.int v11), .val (.int v12), .val (.int v13), .val (.int v14), .val (.int v15), .val (.int v16), .val (.int v17), .val (.int v18), .val (.int (((p2.toUInt32 >>> ((8 : Int32) &&& 31).toUInt32).toInt32) &&& (255 : Int32))), .unset, .unset, .unset, .unset, .unset, .unset, .unset, .unset, .unset, .unset] [])) tgt → Steps p.tables e below E0 tgt := fun tgt kont => go17 tgt (by
    rw [hv18] at kont
    show Steps p.tables e below (s₁.setTop (mkF m 186 #[.val (.int p0), .val (.int p1), .val (.int p2), .val (.int p3), .val (.int p4), .val (.int b5), .val (.int b6), .val (.int b7), .val (.int b8), .val (.int b9), .val (.int v10), .val (.int v11), .val (.int v12), .val (.int v13), .val (.int v14), .val (.int v15), .val (.int v16), .val (.int v17), .unset, .unset, .unset, .unset, .unset, .unset, .unset, .unset, .unset, .unset, .unset, .unset] [])) tgt
    refine XS.iloadN X0.here hx rfl (hb hby at_186) rfl ?_
    show Steps p.tables e below (s₁.setTop (mkF m 187 #[.val (.int p0), .val (.int p1), .val (.int p2), .val (.int p3), .val (.int p4), .val (.int b5), .val (.int b6), .val (.int b7), .val (.int b8), .val (.int b9), .val (.int v10), .val (.int v11), .val (.int v12), .val (.int v13), .val (.int v14), .val (.int v15), .val (.int v16), .val (.int v17), .unset, .unset, .unset, .unset, .unset, .unset, .unset, .unset, .unset, .unset, .unset, .unset] [(.int p2)])) tgt
    refine XS.sipush X0.here hx rfl (hb hby at_187) ?_
    show Steps p.tables e below (s₁.setTop (mkF m 190 #[.val (.int p0), .val (.int p1), .val (.int p2), .val (.int p3), .val (.int p4), .val (.int b5), .val (.int b6), .val (.int b7), .val (.int b8), .val (.int b9), .val (.int v10), .val (.int v11), .val (.int v12), .val (.int v13), .val (.int v14), .val (.int v15), .val (.int v16), .val (.int v17), .unset, .unset, .unset, .unset, .unset, .unset, .unset, .unset, .unset, .unset, .unset, .unset] [(.int (255 : Int32)), (.int p2)])) tgt
    refine XS.iand X0.here hx rfl (hb hby at_190) rfl ?_
    show Steps p.tables e below (s₁.setTop (mkF m 191 #[.val (.int p0), .val (.int p1), .val (.int p2), .val (.int p3), .val (.int p4), .val (.int b5), .val (.int b6), .val (.int b7), .val (.int b8), .val (.int b9), .val (.int v10), .val (.int v11), .val (.int v12), .val (.int v13), .val (.int v14), .val (.int v15), .val (.int v16), .val (.int v17), .unset, .unset, .unset, .unset, .unset, .unset, .unset, .unset, .unset, .unset, .unset, .unset] [(.int (p2 &&& (255 : Int32)))])) tgt
    refine XS.istore X0.here hx rfl (hb hby at_191) rfl (l' := #[.val (.int p0), .val (.int p1), .val (.int p2), .val (.int p3), .val (.int p4), .val (.int b5), .val (.int b6), .val (.int b7), .val (.int b8), .val (.int b9), .val (.int v10), .val (.int v11), .val (.int v12), .val (.int v13), .val (.int v14), .val (.int v15), .val (.int v16), .val (.int v17), .val (.int (p2 &&& (255 : Int32))), .unset, .unset, .unset, .unset, .unset, .unset, .unset, .unset, .unset, .unset, .unset]) rfl ?_
    show Steps p.tables e below (s₁.setTop (mkF m 193 #[.val (.int p0), .val (.int p1), .val (.int p2), .val (.int p3), .val (.int p4), .val (.int b5), .val (.int b6), .val (.int b7), .val (.int b8), .val (.int b9), .val (.int v10), .val (.int v11), .val (.int v12), .val (.int v13), .val (.int v14), .val (.int v15), .val (.int v16), .val (.int v17), .val (.int (p2 &&& (255 : Int32))), .unset, .unset, .unset, .unset, .unset, .unset, .unset, .unset, .unset, .unset, .unset] [])) tgt
    refine XS.iloadN X0.here hx rfl (hb hby at_193) rfl ?_
    show Steps p.tables e below (s₁.setTop (mkF m 194 #[.val (.int p0), .val (.int p1), .val (.int p2), .val (.int p3), .val (.int p4), .val (.int b5), .val (.int b6), .val (.int b7), .val (.int b8), .val (.int b9), .val (.int v10), .val (.int v11), .val (.int v12), .val (.int v13), .val (.int v14), .val (.int v15), .val (.int v16), .val (.int v17), .val (.int (p2 &&& (255 : Int32))), .unset, .unset, .unset, .unset, .unset, .unset, .unset, .unset, .unset, .unset, .unset] [(.int p2)])) tgt
    refine XS.bipush X0.here hx rfl (hb hby at_194) ?_
    show Steps p.tables e below (s₁.setTop (mkF m 196 #[.val (.int p0), .val (.int p1), .val (.int p2), .val (.int p3), .val (.int p4), .val (.int b5), .val (.int b6), .val (.int b7), .val (.int b8), .val (.int b9), .val (.int v10), .val (.int v11), .val (.int v12), .val (.int v13), .val (.int v14), .val (.int v15), .val (.int v16), .val (.int v17), .val (.int (p2 &&& (255 : Int32))), .unset, .unset, .unset, .unset, .unset, .unset, .unset, .unset, .unset, .unset, .unset] [(.int (8 : Int32)), (.int p2)])) tgt
    refine XS.iushr X0.here hx rfl (hb hby at_196) rfl ?_
    show Steps p.tables e below (s₁.setTop (mkF m 197 #[.val (.int p0), .val (.int p1), .val (.int p2), .val (.int p3), .val (.int p4), .val (.int b5), .val (.int b6), .val (.int b7), .val (.int b8), .val (.int b9), .val (.int v10), .val (.int v11), .val (.int v12), .val (.int v13), .val (.int v14), .val (.int v15), .val (.int v16), .val (.int v17), .val (.int (p2 &&& (255 : Int32))), .unset, .unset, .unset, .unset, .unset, .unset, .unset, .unset, .unset, .unset, .unset] [(.int ((p2.toUInt32 >>> ((8 : Int32) &&& 31).toUInt32).toInt32))])) tgt
    refine XS.sipush X0.here hx rfl (hb hby at_197) ?_
    show Steps p.tables e below (s₁.setTop (mkF m 200 #[.val (.int p0), .val (.int p1), .val (.int p2), .val (.int p3), .val (.int p4), .val (.int b5), .val (.int b6), .val (.int b7), .val (.int b8), .val (.int b9), .val (.int v10), .val (.int v11), .val (.int v12), .val (.int v13), .val (.int v14), .val (.int v15), .val (.int v16), .val (.int v17), .val (.int (p2 &&& (255 : Int32))), .unset, .unset, .unset, .unset, .unset, .unset, .unset, .unset, .unset, .unset, .unset] [(.int (255 : Int32)), (.int ((p2.toUInt32 >>> ((8 : Int32) &&& 31).toUInt32).toInt32))])) tgt
    refine XS.iand X0.here hx rfl (hb hby at_200) rfl ?_
    show Steps p.tables e below (s₁.setTop (mkF m 201 #[.val (.int p0), .val (.int p1), .val (.int p2), .val (.int p3), .val (.int p4), .val (.int b5), .val (.int b6), .val (.int b7), .val (.int b8), .val (.int b9), .val (.int v10), .val (.int v11), .val (.int v12), .val (.int v13), .val (.int v14), .val (.int v15), .val (.int v16), .val (.int v17), .val (.int (p2 &&& (255 : Int32))), .unset, .unset, .unset, .unset, .unset, .unset, .unset, .unset, .unset, .unset, .unset] [(.int (((p2.toUInt32 >>> ((8 : Int32) &&& 31).toUInt32).toInt32) &&& (255 : Int32)))])) tgt
    refine XS.istore X0.here hx rfl (hb hby at_201) rfl (l' := #[.val (.int p0), .val (.int p1), .val (.int p2), .val (.int p3), .val (.int p4), .val (.int b5), .val (.int b6), .val (.int b7), .val (.int b8), .val (.int b9), .val (.int v10), .val (.int v11), .val (.int v12), .val (.int v13), .val (.int v14), .val (.int v15), .val (.int v16), .val (.int v17), .val (.int (p2 &&& (255 : Int32))), .val (.int (((p2.toUInt32 >>> ((8 : Int32) &&& 31).toUInt32).toInt32) &&& (255 : Int32))), .unset, .unset, .unset, .unset, .unset, .unset, .unset, .unset, .unset, .unset]) rfl ?_
    exact kont)
  have r18 : (¬ v18 < 0 ∧ ¬ (255 : Int32) < v18) := by rw [hv18]; exact own_mask _
  obtain ⟨v19, hv19⟩ : ∃ z : Int32, z = (((p2.toUInt32 >>> ((8 : Int32) &&& 31).toUInt32).toInt32) &&& (255 : Int32)) := ⟨_, rfl⟩
  have go19 : ∀ tgt, Steps p.tables e below (s₁.setTop (mkF m 203 #[.val (.int p0), .val (.int p1), .val (.int p2), .val (.int p3), .val (.int p4), .val (.int b5), .val (.int b6), .val (.int b7), .val (.int b8), .val (.int b9), .val (.int v10), .val (.int v11), .val (.int v12), .val (.int v13), .val (.int v14), .val (.int v15), .val (.int v16), .val (.int v17), .val (.int v18), .val (.int v19), .unset, .unset, .unset, .unset, .unset, .unset, .unset, .unset, .unset, .unset] [])) tgt → Steps p.tables e below E0 tgt := fun tgt kont => go18 tgt (by
    rw [hv19] at kont
    exact kont)
  have r19 : (¬ v19 < 0 ∧ ¬ (255 : Int32) < v19) := by rw [hv19]; exact own_mask _
  have go20 : ∀ tgt, Steps p.tables e below (s₁.setTop (mkF m 205 #[.val (.int p0), .val (.int p1), .val (.int p2), .val (.int p3), .val (.int p4), .val (.int b5), .val (.int b6), .val (.int b7), .val (.int b8), .val (.int b9), .val (.int v10), .val (.int v11), .val (.int v12), .val (.int v13), .val (.int v14), .val (.int v15), .val (.int v16), .val (.int v17), .val (.int v18), .val (.int v19), .unset, .unset, .unset, .unset, .unset, .unset, .unset, .unset, .unset, .unset] [(.int b7)])) tgt → Steps p.tables e below E0 tgt := fun tgt kont => go19 tgt (by
    show Steps p.tables e below (s₁.setTop (mkF m 203 #[.val (.int p0), .val (.int p1), .val (.int p2), .val (.int p3), .val (.int p4), .val (.int b5), .val (.int b6), .val (.int b7), .val (.int b8), .val (.int b9), .val (.int v10), .val (.int v11), .val (.int v12), .val (.int v13), .val (.int v14), .val (.int v15), .val (.int v16), .val (.int v17), .val (.int v18), .val (.int v19), .unset, .unset, .unset, .unset, .unset, .unset, .unset, .unset, .unset, .unset] [])) tgt
    refine XS.iload X0.here hx rfl (hb hby at_203) rfl ?_
    exact kont)
  obtain ⟨v20, hv20, go21⟩ : ∃ v20 : Int32, ((¬ v20 < 0 ∧ ¬ (255 : Int32) < v20)) ∧ ∀ tgt, Steps p.tables e below (s₁.setTop (mkF m 223 #[.val (.int p0), .val (.int p1), .val (.int p2), .val (.int p3), .val (.int p4), .val (.int b5), .val (.int b6), .val (.int b7), .val (.int b8), .val (.int b9), .val (.int v10), .val (.int v11), .val (.int v12), .val (.int v13), .val (.int v14), .val (.int v15), .val (.int v16), .val (.int v17), .val (.int v18), .val (.int v19), .val (.int v20), .unset, .unset, .unset, .unset, .unset, .unset, .unset, .unset, .unset] [])) tgt → Steps p.tables e below E0 tgt := by
    by_cases hd : b7 = (0 : Int32)
    · exact ⟨(((p2.toUInt32 >>> ((16 : Int32) &&& 31).toUInt32).toInt32) &&& (255 : Int32)), own_mask _, fun tgt kont => go20 tgt (by
        show Steps p.tables e below (s₁.setTop (mkF m 205 #[.val (.int p0), .val (.int p1), .val (.int p2), .val (.int p3), .val (.int p4), .val (.int b5), .val (.int b6), .val (.int b7), .val (.int b8), .val (.int b9), .val (.int v10), .val (.int v11), .val (.int v12), .val (.int v13), .val (.int v14), .val (.int v15), .val (.int v16), .val (.int v17), .val (.int v18), .val (.int v19), .unset, .unset, .unset, .unset, .unset, .unset, .unset, .unset, .unset, .unset] [(.int b7)])) tgt
        refine XS.ifYes X0.here hx rfl (pc0 := 205) (pc' := 213) rfl (hb hby at_205) rfl ((if0 _ _).trans (teq hd).1) (by decide) (by decide) ?_
        show Steps p.tables e below (s₁.setTop (mkF m 213 #[.val (.int p0), .val (.int p1), .val (.int p2), .val (.int p3), .val (.int p4), .val (.int b5), .val (.int b6), .val (.int b7), .val (.int b8), .val (.int b9), .val (.int v10), .val (.int v11), .val (.int v12), .val (.int v13), .val (.int v14), .val (.int v15), .val (.int v16), .val (.int v17), .val (.int v18), .val (.int v19), .unset, .unset, .unset, .unset, .unset, .unset, .unset, .unset, .unset, .unset] [])) tgt
        refine XS.iloadN X0.here hx rfl (hb hby at_213) rfl ?_
        show Steps p.tables e below (s₁.setTop (mkF m 214 #[.val (.int p0), .val (.int p1), .val (.int p2), .val (.int p3), .val (.int p4), .val (.int b5), .val (.int b6), .val (.int b7), .val (.int b8), .val (.int b9), .val (.int v10), .val (.int v11), .val (.int v12), .val (.int v13), .val (.int v14), .val (.int v15), .val (.int v16), .val (.int v17), .val (.int v18), .val (.int v19), .unset, .unset, .unset, .unset, .unset, .unset, .unset, .unset, .unset, .unset] [(.int p2)])) tgt
        refine XS.bipush X0.here hx rfl (hb hby at_214) ?_
        show Steps p.tables e below (s₁.setTop (mkF m 216 #[.val (.int p0), .val (.int p1), .val (.int p2), .val (.int p3), .val (.int p4), .val (.int b5), .val (.int b6), .val (.int b7), .val (.int b8), .val (.int b9), .val (.int v10), .val (.int v11), .val (.int v12), .val (.int v13), .val (.int v14), .val (.int v15), .val (.int v16), .val (.int v17), .val (.int v18), .val (.int v19), .unset, .unset, .unset, .unset, .unset, .unset, .unset, .unset, .unset, .unset] [(.int (16 : Int32)), (.int p2)])) tgt
        refine XS.iushr X0.here hx rfl (hb hby at_216) rfl ?_
        show Steps p.tables e below (s₁.setTop (mkF m 217 #[.val (.int p0), .val (.int p1), .val (.int p2), .val (.int p3), .val (.int p4), .val (.int b5), .val (.int b6), .val (.int b7), .val (.int b8), .val (.int b9), .val (.int v10), .val (.int v11), .val (.int v12), .val (.int v13), .val (.int v14), .val (.int v15), .val (.int v16), .val (.int v17), .val (.int v18), .val (.int v19), .unset, .unset, .unset, .unset, .unset, .unset, .unset, .unset, .unset, .unset] [(.int ((p2.toUInt32 >>> ((16 : Int32) &&& 31).toUInt32).toInt32))])) tgt
        refine XS.sipush X0.here hx rfl (hb hby at_217) ?_
        show Steps p.tables e below (s₁.setTop (mkF m 220 #[.val (.int p0), .val (.int p1), .val (.int p2), .val (.int p3), .val (.int p4), .val (.int b5), .val (.int b6), .val (.int b7), .val (.int b8), .val (.int b9), .val (.int v10), .val (.int v11), .val (.int v12), .val (.int v13), .val (.int v14), .val (.int v15), .val (.int v16), .val (.int v17), .val (.int v18), .val (.int v19), .unset, .unset, .unset, .unset, .unset, .unset, .unset, .unset, .unset, .unset] [(.int (255 : Int32)), (.int ((p2.toUInt32 >>> ((16 : Int32) &&& 31).toUInt32).toInt32))])) tgt
        refine XS.iand X0.here hx rfl (hb hby at_220) rfl ?_
        show Steps p.tables e below (s₁.setTop (mkF m 221 #[.val (.int p0), .val (.int p1), .val (.int p2), .val (.int p3), .val (.int p4), .val (.int b5), .val (.int b6), .val (.int b7), .val (.int b8), .val (.int b9), .val (.int v10), .val (.int v11), .val (.int v12), .val (.int v13), .val (.int v14), .val (.int v15), .val (.int v16), .val (.int v17), .val (.int v18), .val (.int v19), .unset, .unset, .unset, .unset, .unset, .unset, .unset, .unset, .unset, .unset] [(.int (((p2.toUInt32 >>> ((16 : Int32) &&& 31).toUInt32).toInt32) &&& (255 : Int32)))])) tgt
        refine XS.istore X0.here hx rfl (hb hby at_221) rfl (l' := #[.val (.int p0), .val (.int p1), .val (.int p2), .val (.int p3), .val (.int p4), .val (.int b5), .val (.int b6), .val (.int b7), .val (.int b8), .val (.int b9), .val (.int v10), .val (.int v11), .val (.int v12), .val (.int v13), .val (.int v14), .val (.int v15), .val (.int v16), .val (.int v17), .val (.int v18), .val (.int v19), .val (.int (((p2.toUInt32 >>> ((16 : Int32) &&& 31).toUInt32).toInt32) &&& (255 : Int32))), .unset, .unset, .unset, .unset, .unset, .unset, .unset, .unset, .unset]) rfl ?_
        exact kont)⟩
    · exact ⟨v18, r18, fun tgt kont => go20 tgt (by
        show Steps p.tables e below (s₁.setTop (mkF m 205 #[.val (.int p0), .val (.int p1), .val (.int p2), .val (.int p3), .val (.int p4), .val (.int b5), .val (.int b6), .val (.int b7), .val (.int b8), .val (.int b9), .val (.int v10), .val (.int v11), .val (.int v12), .val (.int v13), .val (.int v14), .val (.int v15), .val (.int v16), .val (.int v17), .val (.int v18), .val (.int v19), .unset, .unset, .unset, .unset, .unset, .unset, .unset, .unset, .unset, .unset] [(.int b7)])) tgt
        refine XS.ifNo X0.here hx rfl (hb hby at_205) rfl ((if0 _ _).trans (feq hd).1) ?_
        show Steps p.tables e below (s₁.setTop (mkF m 208 #[.val (.int p0), .val (.int p1), .val (.int p2), .val (.int p3), .val (.int p4), .val (.int b5), .val (.int b6), .val (.int b7), .val (.int b8), .val (.int b9), .val (.int v10), .val (.int v11), .val (.int v12), .val (.int v13), .val (.int v14), .val (.int v15), .val (.int v16), .val (.int v17), .val (.int v18), .val (.int v19), .unset, .unset, .unset, .unset, .unset, .unset, .unset, .unset, .unset, .unset] [])) tgt
        refine XS.iload X0.here hx rfl (hb hby at_208) rfl ?_
        show Steps p.tables e below (s₁.setTop (mkF m 210 #[.val (.int p0), .val (.int p1), .val (.int p2), .val (.int p3), .val (.int p4), .val (.int b5), .val (.int b6), .val (.int b7), .val (.int b8), .val (.int b9), .val (.int v10), .val (.int v11), .val (.int v12), .val (.int v13), .val (.int v14), .val (.int v15), .val (.int v16), .val (.int v17), .val (.int v18), .val (.int v19), .unset, .unset, .unset, .unset, .unset, .unset, .unset, .unset, .unset, .unset] [(.int v18)])) tgt
        refine XS.goto X0.here hx rfl (pc0 := 210) (pc' := 221) rfl (hb hby at_210) (by decide) (by decide) ?_
        show Steps p.tables e below (s₁.setTop (mkF m 221 #[.val (.int p0), .val (.int p1), .val (.int p2), .val (.int p3), .val (.int p4), .val (.int b5), .val (.int b6), .val (.int b7), .val (.int b8), .val (.int b9), .val (.int v10), .val (.int v11), .val (.int v12), .val (.int v13), .val (.int v14), .val (.int v15), .val (.int v16), .val (.int v17), .val (.int v18), .val (.int v19), .unset, .unset, .unset, .unset, .unset, .unset, .unset, .unset, .unset, .unset] [(.int v18)])) tgt
        refine XS.istore X0.here hx rfl (hb hby at_221) rfl (l' := #[.val (.int p0), .val (.int p1), .val (.int p2), .val (.int p3), .val (.int p4), .val (.int b5), .val (.int b6), .val (.int b7), .val (.int b8), .val (.int b9), .val (.int v10), .val (.int v11), .val (.int v12), .val (.int v13), .val (.int v14), .val (.int v15), .val (.int v16), .val (.int v17), .val (.int v18), .val (.int v19), .val (.int v18), .unset, .unset, .unset, .unset, .unset, .unset, .unset, .unset, .unset]) rfl ?_
        exact kont)⟩
  have r20 := hv20
  have go22 : ∀ tgt, Steps p.tables e below (s₁.setTop (mkF m 225 #[.val (.int p0), .val (.int p1), .val (.int p2), .val (.int p3), .val (.int p4), .val (.int b5), .val (.int b6), .val (.int b7), .val (.int b8), .val (.int b9), .val (.int v10), .val (.int v11), .val (.int v12), .val (.int v13), .val (.int v14), .val (.int v15), .val (.int v16), .val (.int v17), .val (.int v18), .val (.int v19), .val (.int v20), .unset, .unset, .unset, .unset, .unset, .unset, .unset, .unset, .unset] [(.int b7)])) tgt → Steps p.tables e below E0 tgt := fun tgt kont => go21 tgt (by
    show Steps p.tables e below (s₁.setTop (mkF m 223 #[.val (.int p0), .val (.int p1), .val (.int p2), .val (.int p3), .val (.int p4), .val (.int b5), .val (.int b6), .val (.int b7), .val (.int b8), .val (.int b9), .val (.int v10), .val (.int v11), .val (.int v12), .val (.int v13), .val (.int v14), .val (.int v15), .val (.int v16), .val (.int v17), .val (.int v18), .val (.int v19), .val (.int v20), .unset, .unset, .unset, .unset, .unset, .unset, .unset, .unset, .unset] [])) tgt
    refine XS.iload X0.here hx rfl (hb hby at_223) rfl ?_
    exact kont)
  obtain ⟨v21, hv21, go23⟩ : ∃ v21 : Int32, ((¬ v21 < 0 ∧ ¬ (255 : Int32) < v21)) ∧ ∀ tgt, Steps p.tables e below (s₁.setTop (mkF m 243 #[.val (.int p0), .val (.int p1), .val (.int p2), .val (.int p3), .val (.int p4), .val (.int b5), .val (.int b6), .val (.int b7), .val (.int b8), .val (.int b9), .val (.int v10), .val (.int v11), .val (.int v12), .val (.int v13), .val (.int v14), .val (.int v15), .val (.int v16), .val (.int v17), .val (.int v18), .val (.int v19), .val (.int v20), .val (.int v21), .unset, .unset, .unset, .unset, .unset, .unset, .unset, .unset] [])) tgt → Steps p.tables e below E0 tgt := by
    by_cases hd : b7 = (0 : Int32)
    · exact ⟨(((p2.toUInt32 >>> ((24 : Int32) &&& 31).toUInt32).toInt32) &&& (255 : Int32)), own_mask _, fun tgt kont => go22 tgt (by
        show Steps p.tables e below (s₁.setTop (mkF m 225 #[.val (.int p0), .val (.int p1), .val (.int p2), .val (.int p3), .val (.int p4), .val (.int b5), .val (.int b6), .val (.int b7), .val (.int b8), .val (.int b9), .val (.int v10), .val (.int v11), .val (.int v12), .val (.int v13), .val (.int v14), .val (.int v15), .val (.int v16), .val (.int v17), .val (.int v18), .val (.int v19), .val (.int v20), .unset, .unset, .unset, .unset, .unset, .unset, .unset, .unset, .unset] [(.int b7)])) tgt
        refine XS.ifYes X0.here hx rfl (pc0 := 225) (pc' := 233) rfl (hb hby at_225) rfl ((if0 _ _).trans (teq hd).1) (by decide) (by decide) ?_
        show Steps p.tables e below (s₁.setTop (mkF m 233 #[.val (.int p0), .val (.int p1), .val (.int p2), .val (.int p3), .val (.int p4), .val (.int b5), .val (.int b6), .val (.int b7), .val (.int b8), .val (.int b9), .val (.int v10), .val (.int v11), .val (.int v12), .val (.int v13), .val (.int v14), .val (.int v15), .val (.int v16), .val (.int v17), .val (.int v18), .val (.int v19), .val (.int v20), .unset, .unset, .unset, .unset, .unset, .unset, .unset, .unset, .unset] [])) tgt
        refine XS.iloadN X0.here hx rfl (hb hby at_233) rfl ?_
        show Steps p.tables e below (s₁.setTop (mkF m 234 #[.val (.int p0), .val (.int p1), .val (.int p2), .val (.int p3), .val (.int p4), .val (.int b5), .val (.int b6), .val (.int b7), .val (.int b8), .val (.int b9), .val (.int v10), .val (.int v11), .val (.int v12), .val (.int v13), .val (.int v14), .val (.int v15), .val (.int v16), .val (.int v17), .val (.int v18), .val (.int v19), .val (.int v20), .unset, .unset, .unset, .unset, .unset, .unset, .unset, .unset, .unset] [(.int p2)])) tgt
        refine XS.bipush X0.here hx rfl (hb hby at_234) ?_
        show Steps p.tables e below (s₁.setTop (mkF m 236 #[.val (.int p0), .val (.int p1), .val (.int p2), .val (.int p3), .val (.int p4), .val (.int b5), .val (.int b6), .val (.int b7), .val (.int b8), .val (.int b9), .val (.int v10), .val (.int v11), .val (.int v12), .val (.int v13), .val (.int v14), .val (.int v15), .val (.int v16), .val (.int v17), .val (.int v18), .val (.int v19), .val (.int v20), .unset, .unset, .unset, .unset, .unset, .unset, .unset, .unset, .unset] [(.int (24 : Int32)), (.int p2)])) tgt
        refine XS.iushr X0.here hx rfl (hb hby at_236) rfl ?_
        show Steps p.tables e below (s₁.setTop (mkF m 237 #[.val (.int p0), .val (.int p1), .val (.int p2), .val (.int p3), .val (.int p4), .val (.int b5), .val (.int b6), .val (.int b7), .val (.int b8), .val (.int b9), .val (.int v10), .val (.int v11), .val (.int v12), .val (.int v13), .val (.int v14), .val (.int v15), .val (.int v16), .val (.int v17), .val (.int v18), .val (.int v19), .val (.int v20), .unset, .unset, .unset, .unset, .unset, .unset, .unset, .unset, .unset] [(.int ((p2.toUInt32 >>> ((24 : Int32) &&& 31).toUInt32).toInt32))])) tgt
        refine XS.sipush X0.here hx rfl (hb hby at_237) ?_
        show Steps p.tables e below (s₁.setTop (mkF m 240 #[.val (.int p0), .val (.int p1), .val (.int p2), .val (.int p3), .val (.int p4), .val (.int b5), .val (.int b6), .val (.int b7), .val (.int b8), .val (.int b9), .val (.int v10), .val (.int v11), .val (.int v12), .val (.int v13), .val (.int v14), .val (.int v15), .val (.int v16), .val (.int v17), .val (.int v18), .val (.int v19), .val (.int v20), .unset, .unset, .unset, .unset, .unset, .unset, .unset, .unset, .unset] [(.int (255 : Int32)), (.int ((p2.toUInt32 >>> ((24 : Int32) &&& 31).toUInt32).toInt32))])) tgt
        refine XS.iand X0.here hx rfl (hb hby at_240) rfl ?_
        show Steps p.tables e below (s₁.setTop (mkF m 241 #[.val (.int p0), .val (.int p1), .val (.int p2), .val (.int p3), .val (.int p4), .val (.int b5), .val (.int b6), .val (.int b7), .val (.int b8), .val (.int b9), .val (.int v10), .val (.int v11), .val (.int v12), .val (.int v13), .val (.int v14), .val (.int v15), .val (.int v16), .val (.int v17), .val (.int v18), .val (.int v19), .val (.int v20), .unset, .unset, .unset, .unset, .unset, .unset, .unset, .unset, .unset] [(.int (((p2.toUInt32 >>> ((24 : Int32) &&& 31).toUInt32).toInt32) &&& (255 : Int32)))])) tgt
        refine XS.istore X0.here hx rfl (hb hby at_241) rfl (l' := #[.val (.int p0), .val (.int p1), .val (.int p2), .val (.int p3), .val (.int p4), .val (.int b5), .val (.int b6), .val (.int b7), .val (.int b8), .val (.int b9), .val (.int v10), .val (.int v11), .val (.int v12), .val (.int v13), .val (.int v14), .val (.int v15), .val (.int v16), .val (.int v17), .val (.int v18), .val (.int v19), .val (.int v20), .val (.int (((p2.toUInt32 >>> ((24 : Int32) &&& 31).toUInt32).toInt32) &&& (255 : Int32))), .unset, .unset, .unset, .unset, .unset, .unset, .unset, .unset]) rfl ?_
        exact kont)⟩
    · exact ⟨v19, r19, fun tgt kont => go22 tgt (by
        show Steps p.tables e below (s₁.setTop (mkF m 225 #[.val (.int p0), .val (.int p1), .val (.int p2), .val (.int p3), .val (.int p4), .val (.int b5), .val (.int b6), .val (.int b7), .val (.int b8), .val (.int b9), .val (.int v10), .val (.int v11), .val (.int v12), .val (.int v13), .val (.int v14), .val (.int v15), .val (.int v16), .val (.int v17), .val (.int v18), .val (.int v19), .val (.int v20), .unset, .unset, .unset, .unset, .unset, .unset, .unset, .unset, .unset] [(.int b7)])) tgt
        refine XS.ifNo X0.here hx rfl (hb hby at_225) rfl ((if0 _ _).trans (feq hd).1) ?_
        show Steps p.tables e below (s₁.setTop (mkF m 228 #[.val (.int p0), .val (.int p1), .val (.int p2), .val (.int p3), .val (.int p4), .val (.int b5), .val (.int b6), .val (.int b7), .val (.int b8), .val (.int b9), .val (.int v10), .val (.int v11), .val (.int v12), .val (.int v13), .val (.int v14), .val (.int v15), .val (.int v16), .val (.int v17), .val (.int v18), .val (.int v19), .val (.int v20), .unset, .unset, .unset, .unset, .unset, .unset, .unset, .unset, .unset] [])) tgt
        refine XS.iload X0.here hx rfl (hb hby at_228) rfl ?_
        show Steps p.tables e below (s₁.setTop (mkF m 230 #[.val (.int p0), .val (.int p1), .val (.int p2), .val (.int p3), .val (.int p4), .val (.int b5), .val (.int b6), .val (.int b7), .val (.int b8), .val (.int b9), .val (.int v10), .val (.int v11), .val (.int v12), .val (.int v13), .val (.int v14), .val (.int v15), .val (.int v16), .val (.int v17), .val (.int v18), .val (.int v19), .val (.int v20), .unset, .unset, .unset, .unset, .unset, .unset, .unset, .unset, .unset] [(.int v19)])) tgt
        refine XS.goto X0.here hx rfl (pc0 := 230) (pc' := 241) rfl (hb hby at_230) (by decide) (by decide) ?_
        show Steps p.tables e below (s₁.setTop (mkF m 241 #[.val (.int p0), .val (.int p1), .val (.int p2), .val (.int p3), .val (.int p4), .val (.int b5), .val (.int b6), .val (.int b7), .val (.int b8), .val (.int b9), .val (.int v10), .val (.int v11), .val (.int v12), .val (.int v13), .val (.int v14), .val (.int v15), .val (.int v16), .val (.int v17), .val (.int v18), .val (.int v19), .val (.int v20), .unset, .unset, .unset, .unset, .unset, .unset, .unset, .unset, .unset] [(.int v19)])) tgt
        refine XS.istore X0.here hx rfl (hb hby at_241) rfl (l' := #[.val (.int p0), .val (.int p1), .val (.int p2), .val (.int p3), .val (.int p4), .val (.int b5), .val (.int b6), .val (.int b7), .val (.int b8), .val (.int b9), .val (.int v10), .val (.int v11), .val (.int v12), .val (.int v13), .val (.int v14), .val (.int v15), .val (.int v16), .val (.int v17), .val (.int v18), .val (.int v19), .val (.int v20), .val (.int v19), .unset, .unset, .unset, .unset, .unset, .unset, .unset, .unset]) rfl ?_
        exact kont)⟩
  have r21 := hv21
  obtain ⟨v22, hv22⟩ : ∃ z : Int32, z = ((p3 &&& (255 : Int32)) % (3 : Int32)) := ⟨_, rfl⟩
  have go24 : ∀ tgt, Steps p.tables e below (s₁.setTop (mkF m 252 #[.val (.int p0), .val (.int p1), .val (.int p2), .val (.int p3), .val (.int p4), .val (.int b5), .val (.int b6), .val (.int b7), .val (.int b8), .val (.int b9), .val (.int v10), .val (.int v11), .val (.int v12), .val (.int v13), .val (.int v14), .val (.int v15), .val (.int v16), .val (.int v17), .val (.int v18), .val (.int v19), .val (.int v20), .val (.int v21), .val (.int v22), .unset, .unset, .unset, .unset, .unset, .unset, .unset] [])) tgt → Steps p.tables e below E0 tgt := fun tgt kont => go23 tgt (by
    rw [hv22] at kont
    show Steps p.tables e below (s₁.setTop (mkF m 243 #[.val (.int p0), .val (.int p1), .val (.int p2), .val (.int p3), .val (.int p4), .val (.int b5), .val (.int b6), .val (.int b7), .val (.int b8), .val (.int b9), .val (.int v10), .val (.int v11), .val (.int v12), .val (.int v13), .val (.int v14), .val (.int v15), .val (.int v16), .val (.int v17), .val (.int v18), .val (.int v19), .val (.int v20), .val (.int v21), .unset, .unset, .unset, .unset, .unset, .unset, .unset, .unset] [])) tgt
    refine XS.iloadN X0.here hx rfl (hb hby at_243) rfl ?_
    show Steps p.tables e below (s₁.setTop (mkF m 244 #[.val (.int p0), .val (.int p1), .val (.int p2), .val (.int p3), .val (.int p4), .val (.int b5), .val (.int b6), .val (.int b7), .val (.int b8), .val (.int b9), .val (.int v10), .val (.int v11), .val (.int v12), .val (.int v13), .val (.int v14), .val (.int v15), .val (.int v16), .val (.int v17), .val (.int v18), .val (.int v19), .val (.int v20), .val (.int v21), .unset, .unset, .unset, .unset, .unset, .unset, .unset, .unset] [(.int p3)])) tgt
    refine XS.sipush X0.here hx rfl (hb hby at_244) ?_
    show Steps p.tables e below (s₁.setTop (mkF m 247 #[.val (.int p0), .val (.int p1), .val (.int p2), .val (.int p3), .val (.int p4), .val (.int b5), .val (.int b6), .val (.int b7), .val (.int b8), .val (.int b9), .val (.int v10), .val (.int v11), .val (.int v12), .val (.int v13), .val (.int v14), .val (.int v15), .val (.int v16), .val (.int v17), .val (.int v18), .val (.int v19), .val (.int v20), .val (.int v21), .unset, .unset, .unset, .unset, .unset, .unset, .unset, .unset] [(.int (255 : Int32)), (.int p3)])) tgt
    refine XS.iand X0.here hx rfl (hb hby at_247) rfl ?_
    show Steps p.tables e below (s₁.setTop (mkF m 248 #[.val (.int p0), .val (.int p1), .val (.int p2), .val (.int p3), .val (.int p4), .val (.int b5), .val (.int b6), .val (.int b7), .val (.int b8), .val (.int b9), .val (.int v10), .val (.int v11), .val (.int v12), .val (.int v13), .val (.int v14), .val (.int v15), .val (.int v16), .val (.int v17), .val (.int v18), .val (.int v19), .val (.int v20), .val (.int v21), .unset, .unset, .unset, .unset, .unset, .unset, .unset, .unset] [(.int (p3 &&& (255 : Int32)))])) tgt
    refine XS.iconst X0.here hx rfl (hb hby at_248) ?_
    show Steps p.tables e below (s₁.setTop (mkF m 249 #[.val (.int p0), .val (.int p1), .val (.int p2), .val (.int p3), .val (.int p4), .val (.int b5), .val (.int b6), .val (.int b7), .val (.int b8), .val (.int b9), .val (.int v10), .val (.int v11), .val (.int v12), .val (.int v13), .val (.int v14), .val (.int v15), .val (.int v16), .val (.int v17), .val (.int v18), .val (.int v19), .val (.int v20), .val (.int v21), .unset, .unset, .unset, .unset, .unset, .unset, .unset, .unset] [(.int (3 : Int32)), (.int (p3 &&& (255 : Int32)))])) tgt
    refine Jvm.RoadKit.iremM X0 hx rfl (hb hby at_249) rfl (by decide) ?_
    show Steps p.tables e below (s₁.setTop (mkF m 250 #[.val (.int p0), .val (.int p1), .val (.int p2), .val (.int p3), .val (.int p4), .val (.int b5), .val (.int b6), .val (.int b7), .val (.int b8), .val (.int b9), .val (.int v10), .val (.int v11), .val (.int v12), .val (.int v13), .val (.int v14), .val (.int v15), .val (.int v16), .val (.int v17), .val (.int v18), .val (.int v19), .val (.int v20), .val (.int v21), .unset, .unset, .unset, .unset, .unset, .unset, .unset, .unset] [(.int ((p3 &&& (255 : Int32)) % (3 : Int32)))])) tgt
    refine XS.istore X0.here hx rfl (hb hby at_250) rfl (l' := #[.val (.int p0), .val (.int p1), .val (.int p2), .val (.int p3), .val (.int p4), .val (.int b5), .val (.int b6), .val (.int b7), .val (.int b8), .val (.int b9), .val (.int v10), .val (.int v11), .val (.int v12), .val (.int v13), .val (.int v14), .val (.int v15), .val (.int v16), .val (.int v17), .val (.int v18), .val (.int v19), .val (.int v20), .val (.int v21), .val (.int ((p3 &&& (255 : Int32)) % (3 : Int32))), .unset, .unset, .unset, .unset, .unset, .unset, .unset]) rfl ?_
    exact kont)
  have r22 : v22 = 0 ∨ v22 = 1 ∨ v22 = 2 := by rw [hv22]; exact own_m3 _
  have go25 : ∀ tgt, Steps p.tables e below (s₁.setTop (mkF m 254 #[.val (.int p0), .val (.int p1), .val (.int p2), .val (.int p3), .val (.int p4), .val (.int b5), .val (.int b6), .val (.int b7), .val (.int b8), .val (.int b9), .val (.int v10), .val (.int v11), .val (.int v12), .val (.int v13), .val (.int v14), .val (.int v15), .val (.int v16), .val (.int v17), .val (.int v18), .val (.int v19), .val (.int v20), .val (.int v21), .val (.int v22), .unset, .unset, .unset, .unset, .unset, .unset, .unset] [(.int b8)])) tgt → Steps p.tables e below E0 tgt := fun tgt kont => go24 tgt (by
    show Steps p.tables e below (s₁.setTop (mkF m 252 #[.val (.int p0), .val (.int p1), .val (.int p2), .val (.int p3), .val (.int p4), .val (.int b5), .val (.int b6), .val (.int b7), .val (.int b8), .val (.int b9), .val (.int v10), .val (.int v11), .val (.int v12), .val (.int v13), .val (.int v14), .val (.int v15), .val (.int v16), .val (.int v17), .val (.int v18), .val (.int v19), .val (.int v20), .val (.int v21), .val (.int v22), .unset, .unset, .unset, .unset, .unset, .unset, .unset] [])) tgt
    refine XS.iload X0.here hx rfl (hb hby at_252) rfl ?_
    exact kont)
  obtain ⟨v23, hv23, go26⟩ : ∃ v23 : Int32, (v23 = 0 ∨ v23 = 1 ∨ v23 = 2) ∧ ∀ tgt, Steps p.tables e below (s₁.setTop (mkF m 274 #[.val (.int p0), .val (.int p1), .val (.int p2), .val (.int p3), .val (.int p4), .val (.int b5), .val (.int b6), .val (.int b7), .val (.int b8), .val (.int b9), .val (.int v10), .val (.int v11), .val (.int v12), .val (.int v13), .val (.int v14), .val (.int v15), .val (.int v16), .val (.int v17), .val (.int v18), .val (.int v19), .val (.int v20), .val (.int v21), .val (.int v22), .val (.int v23), .unset, .unset, .unset, .unset, .unset, .unset] [])) tgt → Steps p.tables e below E0 tgt := by
    by_cases hd : b8 = (0 : Int32)
    · exact ⟨((((p3.toUInt32 >>> ((8 : Int32) &&& 31).toUInt32).toInt32) &&& (255 : Int32)) % (3 : Int32)), own_m3 _, fun tgt kont => go25 tgt (by
        show Steps p.tables e below (s₁.setTop (mkF m 254 #[.val (.int p0), .val (.int p1), .val (.int p2), .val (.int p3), .val (.int p4), .val (.int b5), .val (.int b6), .val (.int b7), .val (.int b8), .val (.int b9), .val (.int v10), .val (.int v11), .val (.int v12), .val (.int v13), .val (.int v14), .val (.int v15), .val (.int v16), .val (.int v17), .val (.int v18), .val (.int v19), .val (.int v20), .val (.int v21), .val (.int v22), .unset, .unset, .unset, .unset, .unset, .unset, .unset] [(.int b8)])) tgt
        refine XS.ifYes X0.here hx rfl (pc0 := 254) (pc' := 262) rfl (hb hby at_254) rfl ((if0 _ _).trans (teq hd).1) (by decide) (by decide) ?_
        show Steps p.tables e below (s₁.setTop (mkF m 262 #[.val (.int p0), .val (.int p1), .val (.int p2), .val (.int p3), .val (.int p4), .val (.int b5), .val (.int b6), .val (.int b7), .val (.int b8), .val (.int b9), .val (.int v10), .val (.int v11), .val (.int v12), .val (.int v13), .val (.int v14), .val (.int v15), .val (.int v16), .val (.int v17), .val (.int v18), .val (.int v19), .val (.int v20), .val (.int v21), .val (.int v22), .unset, .unset, .unset, .unset, .unset, .unset, .unset] [])) tgt
        refine XS.iloadN X0.here hx rfl (hb hby at_262) rfl ?_
        show Steps p.tables e below (s₁.setTop (mkF m 263 #[.val (.int p0), .val (.int p1), .val (.int p2), .val (.int p3), .val (.int p4), .val (.int b5), .val (.int b6), .val (.int b7), .val (.int b8), .val (.int b9), .val (.int v10), .val (.int v11), .val (.int v12), .val (.int v13), .val (.int v14), .val (.int v15), .val (.int v16), .val (.int v17), .val (.int v18), .val (.int v19), .val (.int v20), .val (.int v21), .val (.int v22), .unset, .unset, .unset, .unset, .unset, .unset, .unset] [(.int p3)])) tgt
        refine XS.bipush X0.here hx rfl (hb hby at_263) ?_
        show Steps p.tables e below (s₁.setTop (mkF m 265 #[.val (.int p0), .val (.int p1), .val (.int p2), .val (.int p3), .val (.int p4), .val (.int b5), .val (.int b6), .val (.int b7), .val (.int b8), .val (.int b9), .val (.int v10), .val (.int v11), .val (.int v12), .val (.int v13), .val (.int v14), .val (.int v15), .val (.int v16), .val (.int v17), .val (.int v18), .val (.int v19), .val (.int v20), .val (.int v21), .val (.int v22), .unset, .unset, .unset, .unset, .unset, .unset, .unset] [(.int (8 : Int32)), (.int p3)])) tgt
        refine XS.iushr X0.here hx rfl (hb hby at_265) rfl ?_
        show Steps p.tables e below (s₁.setTop (mkF m 266 #[.val (.int p0), .val (.int p1), .val (.int p2), .val (.int p3), .val (.int p4), .val (.int b5), .val (.int b6), .val (.int b7), .val (.int b8), .val (.int b9), .val (.int v10), .val (.int v11), .val (.int v12), .val (.int v13), .val (.int v14), .val (.int v15), .val (.int v16), .val (.int v17), .val (.int v18), .val (.int v19), .val (.int v20), .val (.int v21), .val (.int v22), .unset, .unset, .unset, .unset, .unset, .unset, .unset] [(.int ((p3.toUInt32 >>> ((8 : Int32) &&& 31).toUInt32).toInt32))])) tgt
        refine XS.sipush X0.here hx rfl (hb hby at_266) ?_
        show Steps p.tables e below (s₁.setTop (mkF m 269 #[.val (.int p0), .val (.int p1), .val (.int p2), .val (.int p3), .val (.int p4), .val (.int b5), .val (.int b6), .val (.int b7), .val (.int b8), .val (.int b9), .val (.int v10), .val (.int v11), .val (.int v12), .val (.int v13), .val (.int v14), .val (.int v15), .val (.int v16), .val (.int v17), .val (.int v18), .val (.int v19), .val (.int v20), .val (.int v21), .val (.int v22), .unset, .unset, .unset, .unset, .unset, .unset, .unset] [(.int (255 : Int32)), (.int ((p3.toUInt32 >>> ((8 : Int32) &&& 31).toUInt32).toInt32))])) tgt
        refine XS.iand X0.here hx rfl (hb hby at_269) rfl ?_
        show Steps p.tables e below (s₁.setTop (mkF m 270 #[.val (.int p0), .val (.int p1), .val (.int p2), .val (.int p3), .val (.int p4), .val (.int b5), .val (.int b6), .val (.int b7), .val (.int b8), .val (.int b9), .val (.int v10), .val (.int v11), .val (.int v12), .val (.int v13), .val (.int v14), .val (.int v15), .val (.int v16), .val (.int v17), .val (.int v18), .val (.int v19), .val (.int v20), .val (.int v21), .val (.int v22), .unset, .unset, .unset, .unset, .unset, .unset, .unset] [(.int (((p3.toUInt32 >>> ((8 : Int32) &&& 31).toUInt32).toInt32) &&& (255 : Int32)))])) tgt
        refine XS.iconst X0.here hx rfl (hb hby at_270) ?_
        show Steps p.tables e below (s₁.setTop (mkF m 271 #[.val (.int p0), .val (.int p1), .val (.int p2), .val (.int p3), .val (.int p4), .val (.int b5), .val (.int b6), .val (.int b7), .val (.int b8), .val (.int b9), .val (.int v10), .val (.int v11), .val (.int v12), .val (.int v13), .val (.int v14), .val (.int v15), .val (.int v16), .val (.int v17), .val (.int v18), .val (.int v19), .val (.int v20), .val (.int v21), .val (.int v22), .unset, .unset, .unset, .unset, .unset, .unset, .unset] [(.int (3 : Int32)), (.int (((p3.toUInt32 >>> ((8 : Int32) &&& 31).toUInt32).toInt32) &&& (255 : Int32)))])) tgt
        refine Jvm.RoadKit.iremM X0 hx rfl (hb hby at_271) rfl (by decide) ?_
        show Steps p.tables e below (s₁.setTop (mkF m 272 #[.val (.int p0), .val (.int p1), .val (.int p2), .val (.int p3), .val (.int p4), .val (.int b5), .val (.int b6), .val (.int b7), .val (.int b8), .val (.int b9), .val (.int v10), .val (.int v11), .val (.int v12), .val (.int v13), .val (.int v14), .val (.int v15), .val (.int v16), .val (.int v17), .val (.int v18), .val (.int v19), .val (.int v20), .val (.int v21), .val (.int v22), .unset, .unset, .unset, .unset, .unset, .unset, .unset] [(.int ((((p3.toUInt32 >>> ((8 : Int32) &&& 31).toUInt32).toInt32) &&& (255 : Int32)) % (3 : Int32)))])) tgt
        refine XS.istore X0.here hx rfl (hb hby at_272) rfl (l' := #[.val (.int p0), .val (.int p1), .val (.int p2), .val (.int p3), .val (.int p4), .val (.int b5), .val (.int b6), .val (.int b7), .val (.int b8), .val (.int b9), .val (.int v10), .val (.int v11), .val (.int v12), .val (.int v13), .val (.int v14), .val (.int v15), .val (.int v16), .val (.int v17), .val (.int v18), .val (.int v19), .val (.int v20), .val (.int v21), .val (.int v22), .val (.int ((((p3.toUInt32 >>> ((8 : Int32) &&& 31).toUInt32).toInt32) &&& (255 : Int32)) % (3 : Int32))), .unset, .unset, .unset, .unset, .unset, .unset]) rfl ?_
        exact kont)⟩
    · exact ⟨v22, r22, fun tgt kont => go25 tgt (by
        show Steps p.tables e below (s₁.setTop (mkF m 254 #[.val (.int p0), .val (.int p1), .val (.int p2), .val (.int p3), .val (.int p4), .val (.int b5), .val (.int b6), .val (.int b7), .val (.int b8), .val (.int b9), .val (.int v10), .val (.int v11), .val (.int v12), .val (.int v13), .val (.int v14), .val (.int v15), .val (.int v16), .val (.int v17), .val (.int v18), .val (.int v19), .val (.int v20), .val (.int v21), .val (.int v22), .unset, .unset, .unset, .unset, .unset, .unset, .unset] [(.int b8)])) tgt
        refine XS.ifNo X0.here hx rfl (hb hby at_254) rfl ((if0 _ _).trans (feq hd).1) ?_
        show Steps p.tables e below (s₁.setTop (mkF m 257 #[.val (.int p0), .val (.int p1), .val (.int p2), .val (.int p3), .val (.int p4), .val (.int b5), .val (.int b6), .val (.int b7), .val (.int b8), .val (.int b9), .val (.int v10), .val (.int v11), .val (.int v12), .val (.int v13), .val (.int v14), .val (.int v15), .val (.int v16), .val (.int v17), .val (.int v18), .val (.int v19), .val (.int v20), .val (.int v21), .val (.int v22), .unset, .unset, .unset, .unset, .unset, .unset, .unset] [])) tgt
        refine XS.iload X0.here hx rfl (hb hby at_257) rfl ?_
        show Steps p.tables e below (s₁.setTop (mkF m 259 #[.val (.int p0), .val (.int p1), .val (.int p2), .val (.int p3), .val (.int p4), .val (.int b5), .val (.int b6), .val (.int b7), .val (.int b8), .val (.int b9), .val (.int v10), .val (.int v11), .val (.int v12), .val (.int v13), .val (.int v14), .val (.int v15), .val (.int v16), .val (.int v17), .val (.int v18), .val (.int v19), .val (.int v20), .val (.int v21), .val (.int v22), .unset, .unset, .unset, .unset, .unset, .unset, .unset] [(.int v22)])) tgt
        refine XS.goto X0.here hx rfl (pc0 := 259) (pc' := 272) rfl (hb hby at_259) (by decide) (by decide) ?_
        show Steps p.tables e below (s₁.setTop (mkF m 272 #[.val (.int p0), .val (.int p1), .val (.int p2), .val (.int p3), .val (.int p4), .val (.int b5), .val (.int b6), .val (.int b7), .val (.int b8), .val (.int b9), .val (.int v10), .val (.int v11), .val (.int v12), .val (.int v13), .val (.int v14), .val (.int v15), .val (.int v16), .val (.int v17), .val (.int v18), .val (.int v19), .val (.int v20), .val (.int v21), .val (.int v22), .unset, .unset, .unset, .unset, .unset, .unset, .unset] [(.int v22)])) tgt
        refine XS.istore X0.here hx rfl (hb hby at_272) rfl (l' := #[.val (.int p0), .val (.int p1), .val (.int p2), .val (.int p3), .val (.int p4), .val (.int b5), .val (.int b6), .val (.int b7), .val (.int b8), .val (.int b9), .val (.int v10), .val (.int v11), .val (.int v12), .val (.int v13), .val (.int v14), .val (.int v15), .val (.int v16), .val (.int v17), .val (.int v18), .val (.int v19), .val (.int v20), .val (.int v21), .val (.int v22), .val (.int v22), .unset, .unset, .unset, .unset, .unset, .unset]) rfl ?_
        exact kont)⟩
  have r23 := hv23
  obtain ⟨v24, hv24⟩ : ∃ z : Int32, z = (((p3.toUInt32 >>> ((16 : Int32) &&& 31).toUInt32).toInt32) &&& (3 : Int32)) := ⟨_, rfl⟩
  have go27 : ∀ tgt, Steps p.tables e below (s₁.setTop (mkF m 282 #[.val (.int p0), .val (.int p1), .val (.int p2), .val (.int p3), .val (.int p4), .val (.int b5), .val (.int b6), .val (.int b7), .val (.int b8), .val (.int b9), .val (.int v10), .val (.int v11), .val (.int v12), .val (.int v13), .val (.int v14), .val (.int v15), .val (.int v16), .val (.int v17), .val (.int v18), .val (.int v19), .val (.int v20), .val (.int v21), .val (.int v22), .val (.int v23), .val (.int v24), .unset, .unset, .unset, .unset, .unset] [])) tgt → Steps p.tables e below E0 tgt := fun tgt kont => go26 tgt (by
    rw [hv24] at kont
    show Steps p.tables e below (s₁.setTop (mkF m 274 #[.val (.int p0), .val (.int p1), .val (.int p2), .val (.int p3), .val (.int p4), .val (.int b5), .val (.int b6), .val (.int b7), .val (.int b8), .val (.int b9), .val (.int v10), .val (.int v11), .val (.int v12), .val (.int v13), .val (.int v14), .val (.int v15), .val (.int v16), .val (.int v17), .val (.int v18), .val (.int v19), .val (.int v20), .val (.int v21), .val (.int v22), .val (.int v23), .unset, .unset, .unset, .unset, .unset, .unset] [])) tgt
    refine XS.iloadN X0.here hx rfl (hb hby at_274) rfl ?_
    show Steps p.tables e below (s₁.setTop (mkF m 275 #[.val (.int p0), .val (.int p1), .val (.int p2), .val (.int p3), .val (.int p4), .val (.int b5), .val (.int b6), .val (.int b7), .val (.int b8), .val (.int b9), .val (.int v10), .val (.int v11), .val (.int v12), .val (.int v13), .val (.int v14), .val (.int v15), .val (.int v16), .val (.int v17), .val (.int v18), .val (.int v19), .val (.int v20), .val (.int v21), .val (.int v22), .val (.int v23), .unset, .unset, .unset, .unset, .unset, .unset] [(.int p3)])) tgt
    refine XS.bipush X0.here hx rfl (hb hby at_275) ?_
    show Steps p.tables e below (s₁.setTop (mkF m 277 #[.val (.int p0), .val (.int p1), .val (.int p2), .val (.int p3), .val (.int p4), .val (.int b5), .val (.int b6), .val (.int b7), .val (.int b8), .val (.int b9), .val (.int v10), .val (.int v11), .val (.int v12), .val (.int v13), .val (.int v14), .val (.int v15), .val (.int v16), .val (.int v17), .val (.int v18), .val (.int v19), .val (.int v20), .val (.int v21), .val (.int v22), .val (.int v23), .unset, .unset, .unset, .unset, .unset, .unset] [(.int (16 : Int32)), (.int p3)])) tgt
    refine XS.iushr X0.here hx rfl (hb hby at_277) rfl ?_
    show Steps p.tables e below (s₁.setTop (mkF m 278 #[.val (.int p0), .val (.int p1), .val (.int p2), .val (.int p3), .val (.int p4), .val (.int b5), .val (.int b6), .val (.int b7), .val (.int b8), .val (.int b9), .val (.int v10), .val (.int v11), .val (.int v12), .val (.int v13), .val (.int v14), .val (.int v15), .val (.int v16), .val (.int v17), .val (.int v18), .val (.int v19), .val (.int v20), .val (.int v21), .val (.int v22), .val (.int v23), .unset, .unset, .unset, .unset, .unset, .unset] [(.int ((p3.toUInt32 >>> ((16 : Int32) &&& 31).toUInt32).toInt32))])) tgt
    refine XS.iconst X0.here hx rfl (hb hby at_278) ?_
    show Steps p.tables e below (s₁.setTop (mkF m 279 #[.val (.int p0), .val (.int p1), .val (.int p2), .val (.int p3), .val (.int p4), .val (.int b5), .val (.int b6), .val (.int b7), .val (.int b8), .val (.int b9), .val (.int v10), .val (.int v11), .val (.int v12), .val (.int v13), .val (.int v14), .val (.int v15), .val (.int v16), .val (.int v17), .val (.int v18), .val (.int v19), .val (.int v20), .val (.int v21), .val (.int v22), .val (.int v23), .unset, .unset, .unset, .unset, .unset, .unset] [(.int (3 : Int32)), (.int ((p3.toUInt32 >>> ((16 : Int32) &&& 31).toUInt32).toInt32))])) tgt
    refine XS.iand X0.here hx rfl (hb hby at_279) rfl ?_
    show Steps p.tables e below (s₁.setTop (mkF m 280 #[.val (.int p0), .val (.int p1), .val (.int p2), .val (.int p3), .val (.int p4), .val (.int b5), .val (.int b6), .val (.int b7), .val (.int b8), .val (.int b9), .val (.int v10), .val (.int v11), .val (.int v12), .val (.int v13), .val (.int v14), .val (.int v15), .val (.int v16), .val (.int v17), .val (.int v18), .val (.int v19), .val (.int v20), .val (.int v21), .val (.int v22), .val (.int v23), .unset, .unset, .unset, .unset, .unset, .unset] [(.int (((p3.toUInt32 >>> ((16 : Int32) &&& 31).toUInt32).toInt32) &&& (3 : Int32)))])) tgt
    refine XS.istore X0.here hx rfl (hb hby at_280) rfl (l' := #[.val (.int p0), .val (.int p1), .val (.int p2), .val (.int p3), .val (.int p4), .val (.int b5), .val (.int b6), .val (.int b7), .val (.int b8), .val (.int b9), .val (.int v10), .val (.int v11), .val (.int v12), .val (.int v13), .val (.int v14), .val (.int v15), .val (.int v16), .val (.int v17), .val (.int v18), .val (.int v19), .val (.int v20), .val (.int v21), .val (.int v22), .val (.int v23), .val (.int (((p3.toUInt32 >>> ((16 : Int32) &&& 31).toUInt32).toInt32) &&& (3 : Int32))), .unset, .unset, .unset, .unset, .unset]) rfl ?_
    exact kont)
  have r24 : v24 = 0 ∨ v24 = 1 ∨ v24 = 2 ∨ v24 = 3 := by rw [hv24]; exact own_m4 _
  have go28 : ∀ tgt, Steps p.tables e below (s₁.setTop (mkF m 284 #[.val (.int p0), .val (.int p1), .val (.int p2), .val (.int p3), .val (.int p4), .val (.int b5), .val (.int b6), .val (.int b7), .val (.int b8), .val (.int b9), .val (.int v10), .val (.int v11), .val (.int v12), .val (.int v13), .val (.int v14), .val (.int v15), .val (.int v16), .val (.int v17), .val (.int v18), .val (.int v19), .val (.int v20), .val (.int v21), .val (.int v22), .val (.int v23), .val (.int v24), .unset, .unset, .unset, .unset, .unset] [(.int b9)])) tgt → Steps p.tables e below E0 tgt := fun tgt kont => go27 tgt (by
    show Steps p.tables e below (s₁.setTop (mkF m 282 #[.val (.int p0), .val (.int p1), .val (.int p2), .val (.int p3), .val (.int p4), .val (.int b5), .val (.int b6), .val (.int b7), .val (.int b8), .val (.int b9), .val (.int v10), .val (.int v11), .val (.int v12), .val (.int v13), .val (.int v14), .val (.int v15), .val (.int v16), .val (.int v17), .val (.int v18), .val (.int v19), .val (.int v20), .val (.int v21), .val (.int v22), .val (.int v23), .val (.int v24), .unset, .unset, .unset, .unset, .unset] [])) tgt
    refine XS.iload X0.here hx rfl (hb hby at_282) rfl ?_
    exact kont)
  obtain ⟨v25, hv25, go29⟩ : ∃ v25 : Int32, (v25 = 0 ∨ v25 = 1 ∨ v25 = 2 ∨ v25 = 3) ∧ ∀ tgt, Steps p.tables e below (s₁.setTop (mkF m 300 #[.val (.int p0), .val (.int p1), .val (.int p2), .val (.int p3), .val (.int p4), .val (.int b5), .val (.int b6), .val (.int b7), .val (.int b8), .val (.int b9), .val (.int v10), .val (.int v11), .val (.int v12), .val (.int v13), .val (.int v14), .val (.int v15), .val (.int v16), .val (.int v17), .val (.int v18), .val (.int v19), .val (.int v20), .val (.int v21), .val (.int v22), .val (.int v23), .val (.int v24), .val (.int v25), .unset, .unset, .unset, .unset] [])) tgt → Steps p.tables e below E0 tgt := by
    by_cases hd : b9 = (0 : Int32)
    · exact ⟨(((p3.toUInt32 >>> ((18 : Int32) &&& 31).toUInt32).toInt32) &&& (3 : Int32)), own_m4 _, fun tgt kont => go28 tgt (by
        show Steps p.tables e below (s₁.setTop (mkF m 284 #[.val (.int p0), .val (.int p1), .val (.int p2), .val (.int p3), .val (.int p4), .val (.int b5), .val (.int b6), .val (.int b7), .val (.int b8), .val (.int b9), .val (.int v10), .val (.int v11), .val (.int v12), .val (.int v13), .val (.int v14), .val (.int v15), .val (.int v16), .val (.int v17), .val (.int v18), .val (.int v19), .val (.int v20), .val (.int v21), .val (.int v22), .val (.int v23), .val (.int v24), .unset, .unset, .unset, .unset, .unset] [(.int b9)])) tgt
        refine XS.ifYes X0.here hx rfl (pc0 := 284) (pc' := 292) rfl (hb hby at_284) rfl ((if0 _ _).trans (teq hd).1) (by decide) (by decide) ?_
        show Steps p.tables e below (s₁.setTop (mkF m 292 #[.val (.int p0), .val (.int p1), .val (.int p2), .val (.int p3), .val (.int p4), .val (.int b5), .val (.int b6), .val (.int b7), .val (.int b8), .val (.int b9), .val (.int v10), .val (.int v11), .val (.int v12), .val (.int v13), .val (.int v14), .val (.int v15), .val (.int v16), .val (.int v17), .val (.int v18), .val (.int v19), .val (.int v20), .val (.int v21), .val (.int v22), .val (.int v23), .val (.int v24), .unset, .unset, .unset, .unset, .unset] [])) tgt
        refine XS.iloadN X0.here hx rfl (hb hby at_292) rfl ?_
        show Steps p.tables e below (s₁.setTop (mkF m 293 #[.val (.int p0), .val (.int p1), .val (.int p2), .val (.int p3), .val (.int p4), .val (.int b5), .val (.int b6), .val (.int b7), .val (.int b8), .val (.int b9), .val (.int v10), .val (.int v11), .val (.int v12), .val (.int v13), .val (.int v14), .val (.int v15), .val (.int v16), .val (.int v17), .val (.int v18), .val (.int v19), .val (.int v20), .val (.int v21), .val (.int v22), .val (.int v23), .val (.int v24), .unset, .unset, .unset, .unset, .unset] [(.int p3)])) tgt
        refine XS.bipush X0.here hx rfl (hb hby at_293) ?_
        show Steps p.tables e below (s₁.setTop (mkF m 295 #[.val (.int p0), .val (.int p1), .val (.int p2), .val (.int p3), .val (.int p4), .val (.int b5), .val (.int b6), .val (.int b7), .val (.int b8), .val (.int b9), .val (.int v10), .val (.int v11), .val (.int v12), .val (.int v13), .val (.int v14), .val (.int v15), .val (.int v16), .val (.int v17), .val (.int v18), .val (.int v19), .val (.int v20), .val (.int v21), .val (.int v22), .val (.int v23), .val (.int v24), .unset, .unset, .unset, .unset, .unset] [(.int (18 : Int32)), (.int p3)])) tgt
        refine XS.iushr X0.here hx rfl (hb hby at_295) rfl ?_
        show Steps p.tables e below (s₁.setTop (mkF m 296 #[.val (.int p0), .val (.int p1), .val (.int p2), .val (.int p3), .val (.int p4), .val (.int b5), .val (.int b6), .val (.int b7), .val (.int b8), .val (.int b9), .val (.int v10), .val (.int v11), .val (.int v12), .val (.int v13), .val (.int v14), .val (.int v15), .val (.int v16), .val (.int v17), .val (.int v18), .val (.int v19), .val (.int v20), .val (.int v21), .val (.int v22), .val (.int v23), .val (.int v24), .unset, .unset, .unset, .unset, .unset] [(.int ((p3.toUInt32 >>> ((18 : Int32) &&& 31).toUInt32).toInt32))])) tgt
        refine XS.iconst X0.here hx rfl (hb hby at_296) ?_
        show Steps p.tables e below (s₁.setTop (mkF m 297 #[.val (.int p0), .val (.int p1), .val (.int p2), .val (.int p3), .val (.int p4), .val (.int b5), .val (.int b6), .val (.int b7), .val (.int b8), .val (.int b9), .val (.int v10), .val (.int v11), .val (.int v12), .val (.int v13), .val (.int v14), .val (.int v15), .val (.int v16), .val (.int v17), .val (.int v18), .val (.int v19), .val (.int v20), .val (.int v21), .val (.int v22), .val (.int v23), .val (.int v24), .unset, .unset, .unset, .unset, .unset] [(.int (3 : Int32)), (.int ((p3.toUInt32 >>> ((18 : Int32) &&& 31).toUInt32).toInt32))])) tgt
        refine XS.iand X0.here hx rfl (hb hby at_297) rfl ?_
        show Steps p.tables e below (s₁.setTop (mkF m 298 #[.val (.int p0), .val (.int p1), .val (.int p2), .val (.int p3), .val (.int p4), .val (.int b5), .val (.int b6), .val (.int b7), .val (.int b8), .val (.int b9), .val (.int v10), .val (.int v11), .val (.int v12), .val (.int v13), .val (.int v14), .val (.int v15), .val (.int v16), .val (.int v17), .val (.int v18), .val (.int v19), .val (.int v20), .val (.int v21), .val (.int v22), .val (.int v23), .val (.int v24), .unset, .unset, .unset, .unset, .unset] [(.int (((p3.toUInt32 >>> ((18 : Int32) &&& 31).toUInt32).toInt32) &&& (3 : Int32)))])) tgt
        refine XS.istore X0.here hx rfl (hb hby at_298) rfl (l' := #[.val (.int p0), .val (.int p1), .val (.int p2), .val (.int p3), .val (.int p4), .val (.int b5), .val (.int b6), .val (.int b7), .val (.int b8), .val (.int b9), .val (.int v10), .val (.int v11), .val (.int v12), .val (.int v13), .val (.int v14), .val (.int v15), .val (.int v16), .val (.int v17), .val (.int v18), .val (.int v19), .val (.int v20), .val (.int v21), .val (.int v22), .val (.int v23), .val (.int v24), .val (.int (((p3.toUInt32 >>> ((18 : Int32) &&& 31).toUInt32).toInt32) &&& (3 : Int32))), .unset, .unset, .unset, .unset]) rfl ?_
        exact kont)⟩
    · exact ⟨v24, r24, fun tgt kont => go28 tgt (by
        show Steps p.tables e below (s₁.setTop (mkF m 284 #[.val (.int p0), .val (.int p1), .val (.int p2), .val (.int p3), .val (.int p4), .val (.int b5), .val (.int b6), .val (.int b7), .val (.int b8), .val (.int b9), .val (.int v10), .val (.int v11), .val (.int v12), .val (.int v13), .val (.int v14), .val (.int v15), .val (.int v16), .val (.int v17), .val (.int v18), .val (.int v19), .val (.int v20), .val (.int v21), .val (.int v22), .val (.int v23), .val (.int v24), .unset, .unset, .unset, .unset, .unset] [(.int b9)])) tgt
        refine XS.ifNo X0.here hx rfl (hb hby at_284) rfl ((if0 _ _).trans (feq hd).1) ?_
        show Steps p.tables e below (s₁.setTop (mkF m 287 #[.val (.int p0), .val (.int p1), .val (.int p2), .val (.int p3), .val (.int p4), .val (.int b5), .val (.int b6), .val (.int b7), .val (.int b8), .val (.int b9), .val (.int v10), .val (.int v11), .val (.int v12), .val (.int v13), .val (.int v14), .val (.int v15), .val (.int v16), .val (.int v17), .val (.int v18), .val (.int v19), .val (.int v20), .val (.int v21), .val (.int v22), .val (.int v23), .val (.int v24), .unset, .unset, .unset, .unset, .unset] [])) tgt
        refine XS.iload X0.here hx rfl (hb hby at_287) rfl ?_
        show Steps p.tables e below (s₁.setTop (mkF m 289 #[.val (.int p0), .val (.int p1), .val (.int p2), .val (.int p3), .val (.int p4), .val (.int b5), .val (.int b6), .val (.int b7), .val (.int b8), .val (.int b9), .val (.int v10), .val (.int v11), .val (.int v12), .val (.int v13), .val (.int v14), .val (.int v15), .val (.int v16), .val (.int v17), .val (.int v18), .val (.int v19), .val (.int v20), .val (.int v21), .val (.int v22), .val (.int v23), .val (.int v24), .unset, .unset, .unset, .unset, .unset] [(.int v24)])) tgt
        refine XS.goto X0.here hx rfl (pc0 := 289) (pc' := 298) rfl (hb hby at_289) (by decide) (by decide) ?_
        show Steps p.tables e below (s₁.setTop (mkF m 298 #[.val (.int p0), .val (.int p1), .val (.int p2), .val (.int p3), .val (.int p4), .val (.int b5), .val (.int b6), .val (.int b7), .val (.int b8), .val (.int b9), .val (.int v10), .val (.int v11), .val (.int v12), .val (.int v13), .val (.int v14), .val (.int v15), .val (.int v16), .val (.int v17), .val (.int v18), .val (.int v19), .val (.int v20), .val (.int v21), .val (.int v22), .val (.int v23), .val (.int v24), .unset, .unset, .unset, .unset, .unset] [(.int v24)])) tgt
        refine XS.istore X0.here hx rfl (hb hby at_298) rfl (l' := #[.val (.int p0), .val (.int p1), .val (.int p2), .val (.int p3), .val (.int p4), .val (.int b5), .val (.int b6), .val (.int b7), .val (.int b8), .val (.int b9), .val (.int v10), .val (.int v11), .val (.int v12), .val (.int v13), .val (.int v14), .val (.int v15), .val (.int v16), .val (.int v17), .val (.int v18), .val (.int v19), .val (.int v20), .val (.int v21), .val (.int v22), .val (.int v23), .val (.int v24), .val (.int v24), .unset, .unset, .unset, .unset]) rfl ?_
        exact kont)⟩
  have r25 := hv25
  obtain ⟨T30, h30, X30, e30, E30, A30, D30, -, st30⟩ := newO X0 hx hZ hown (hw _ (List.mem_of_getElem? (i := 0) rfl)) (hw _ (List.mem_of_getElem? (i := 1) rfl)) (hw _ (List.mem_of_getElem? (i := 2) rfl)) e0 (g := (mkF m 300 #[.val (.int p0), .val (.int p1), .val (.int p2), .val (.int p3), .val (.int p4), .val (.int b5), .val (.int b6), .val (.int b7), .val (.int b8), .val (.int b9), .val (.int v10), .val (.int v11), .val (.int v12), .val (.int v13), .val (.int v14), .val (.int v15), .val (.int v16), .val (.int v17), .val (.int v18), .val (.int v19), .val (.int v20), .val (.int v21), .val (.int v22), .val (.int v23), .val (.int v24), .val (.int v25), .unset, .unset, .unset, .unset] [])) rfl (hb hby at_300) (by decide) (by decide)
  obtain ⟨x, g30⟩ : ∃ z, z = h0.size := ⟨_, rfl⟩
  rw [← g30] at A30 D30 st30
  have ge_x : n0 ≤ x := Nat.le_trans Z0 (Nat.le_of_eq g30.symm)
  have z31 : n0 ≤ h30.size := Nat.le_trans Z0 E30.1
  have Fsender_x : Fld Z h30 x "bourseline/model/MemberSession" "sender" "Ljava/lang/String;" .null := D30 (Or.inr (hw _ (List.mem_of_getElem? (i := 69) rfl))) (ty := (.object "java/lang/String")) (by decide)
  have Ftarget_x : Fld Z h30 x "bourseline/model/MemberSession" "target" "Ljava/lang/String;" .null := D30 (Or.inr (hw _ (List.mem_of_getElem? (i := 71) rfl))) (ty := (.object "java/lang/String")) (by decide)
  have FfixVersion_x : Fld Z h30 x "bourseline/model/MemberSession" "fixVersion" "Lbourseline/model/FixVersion;" .null := D30 (Or.inr (hw _ (List.mem_of_getElem? (i := 73) rfl))) (ty := (.object "bourseline/model/FixVersion")) (by decide)
  have Fmember_x : Fld Z h30 x "bourseline/model/MemberSession" "member" "Ljava/lang/String;" .null := D30 (Or.inr (hw _ (List.mem_of_getElem? (i := 75) rfl))) (ty := (.object "java/lang/String")) (by decide)
  have FselfMatchRule_x : Fld Z h30 x "bourseline/model/MemberSession" "selfMatchRule" "Lbourseline/model/SelfMatchInstruction;" .null := D30 (Or.inr (hw _ (List.mem_of_getElem? (i := 77) rfl))) (ty := (.object "bourseline/model/SelfMatchInstruction")) (by decide)
  have go30 : ∀ tgt, Steps p.tables e below (T30.setTop (mkF m 303 #[.val (.int p0), .val (.int p1), .val (.int p2), .val (.int p3), .val (.int p4), .val (.int b5), .val (.int b6), .val (.int b7), .val (.int b8), .val (.int b9), .val (.int v10), .val (.int v11), .val (.int v12), .val (.int v13), .val (.int v14), .val (.int v15), .val (.int v16), .val (.int v17), .val (.int v18), .val (.int v19), .val (.int v20), .val (.int v21), .val (.int v22), .val (.int v23), .val (.int v24), .val (.int v25), .unset, .unset, .unset, .unset] [(.ref x)])) tgt → Steps p.tables e below E0 tgt := fun tgt kont => go29 tgt (st30 tgt kont)
  have f32 : Old Z n0 h30 := (O0.ext E30)
  have go33 : ∀ tgt, Steps p.tables e below (T30.setTop (mkF m 308 #[.val (.int p0), .val (.int p1), .val (.int p2), .val (.int p3), .val (.int p4), .val (.int b5), .val (.int b6), .val (.int b7), .val (.int b8), .val (.int b9), .val (.int v10), .val (.int v11), .val (.int v12), .val (.int v13), .val (.int v14), .val (.int v15), .val (.int v16), .val (.int v17), .val (.int v18), .val (.int v19), .val (.int v20), .val (.int v21), .val (.int v22), .val (.int v23), .val (.int v24), .val (.int v25), .unset, .unset, .unset, .unset] [(.int v11), (.int v10), (.ref x), (.ref x)])) tgt → Steps p.tables e below E0 tgt := fun tgt kont => go30 tgt (by
    show Steps p.tables e below (T30.setTop (mkF m 303 #[.val (.int p0), .val (.int p1), .val (.int p2), .val (.int p3), .val (.int p4), .val (.int b5), .val (.int b6), .val (.int b7), .val (.int b8), .val (.int b9), .val (.int v10), .val (.int v11), .val (.int v12), .val (.int v13), .val (.int v14), .val (.int v15), .val (.int v16), .val (.int v17), .val (.int v18), .val (.int v19), .val (.int v20), .val (.int v21), .val (.int v22), .val (.int v23), .val (.int v24), .val (.int v25), .unset, .unset, .unset, .unset] [(.ref x)])) tgt
    refine XS.dup X30.here hx rfl (hb hby at_303) rfl rfl ?_
    show Steps p.tables e below (T30.setTop (mkF m 304 #[.val (.int p0), .val (.int p1), .val (.int p2), .val (.int p3), .val (.int p4), .val (.int b5), .val (.int b6), .val (.int b7), .val (.int b8), .val (.int b9), .val (.int v10), .val (.int v11), .val (.int v12), .val (.int v13), .val (.int v14), .val (.int v15), .val (.int v16), .val (.int v17), .val (.int v18), .val (.int v19), .val (.int v20), .val (.int v21), .val (.int v22), .val (.int v23), .val (.int v24), .val (.int v25), .unset, .unset, .unset, .unset] [(.ref x), (.ref x)])) tgt
    refine XS.iload X30.here hx rfl (hb hby at_304) rfl ?_
    show Steps p.tables e below (T30.setTop (mkF m 306 #[.val (.int p0), .val (.int p1), .val (.int p2), .val (.int p3), .val (.int p4), .val (.int b5), .val (.int b6), .val (.int b7), .val (.int b8), .val (.int b9), .val (.int v10), .val (.int v11), .val (.int v12), .val (.int v13), .val (.int v14), .val (.int v15), .val (.int v16), .val (.int v17), .val (.int v18), .val (.int v19), .val (.int v20), .val (.int v21), .val (.int v22), .val (.int v23), .val (.int v24), .val (.int v25), .unset, .unset, .unset, .unset] [(.int v10), (.ref x), (.ref x)])) tgt
    refine XS.iload X30.here hx rfl (hb hby at_306) rfl ?_
    exact kont)
  obtain ⟨_, _, ⟨T34, L34, k34, n34⟩, -, X34, ⟨Lc34, hQ34, l34, y34, z34⟩, st34⟩ := Jvm.LawKit.callS X30 hx (y := (⟨"bourseline/model/MemberSessionEqualsPinLaw", "str", "(II)Ljava/lang/String;"⟩ : MethodName)) hown (mvT hZ (hw _ (List.mem_of_getElem? (i := 3) rfl))) (mvT hZ (hw _ (List.mem_of_getElem? (i := 4) rfl))) (mvT hZ (hw _ (List.mem_of_getElem? (i := 5) rfl))) (mvT hZ (hw _ (List.mem_of_getElem? (i := 6) rfl))) (by decide) (backOf (W := 2) (rmSR l Z a0 hw [] v10 v11 G h30 n0 z31 r10 r11 SC hG f32) hZ (hw _ (List.mem_of_getElem? (i := 6) rfl)) (hw _ (List.mem_of_getElem? (i := 5) rfl)) (by decide) (by decide)) (g := (mkF m 308 #[.val (.int p0), .val (.int p1), .val (.int p2), .val (.int p3), .val (.int p4), .val (.int b5), .val (.int b6), .val (.int b7), .val (.int b8), .val (.int b9), .val (.int v10), .val (.int v11), .val (.int v12), .val (.int v13), .val (.int v14), .val (.int v15), .val (.int v16), .val (.int v17), .val (.int v18), .val (.int v19), .val (.int v20), .val (.int v21), .val (.int v22), .val (.int v23), .val (.int v24), .val (.int v25), .unset, .unset, .unset, .unset] [(.int v11), (.int v10), (.ref x), (.ref x)])) rfl (by rw [hml]; rfl) (argsL := [(.int v10), (.int v11)]) (rest := [(.ref x), (.ref x)]) (lenOf pd_8 rfl) rfl (by show 2 * 0 + _ ≤ _; exact Nat.le_of_eq rfl) (hb hby at_308) (fun _ _ => ⟨rfl, e30, (by decide : 1 + 3 ≤ _), (by decide : 5 + 8 ≤ _)⟩)
  dsimp only [Pt.U, Pt.locs, Pt.cells, Pt.slots] at X34 l34 y34 z34 st34 hQ34
  subst l34 y34 z34
  obtain ⟨rfl, N34q, Ksa, Esa, Csa, tsa, ksa, ltsa, gtsa, Vsa, Asa⟩ := hQ34
  have N34 := Fr.app N0 N34q
  obtain ⟨sa, g34⟩ : ∃ z, z = h30.size := ⟨_, rfl⟩
  rw [← g34] at st34 Esa Csa Vsa ltsa
  have ne_x_sa : x ≠ sa := Nat.ne_of_lt (Nat.lt_of_lt_of_le A30.lt (Nat.le_of_eq g34.symm))
  have ge_sa : n0 ≤ sa := Nat.le_trans z31 (Nat.le_of_eq g34.symm)
  have z35 : n0 ≤ T34.heap.size := Nat.le_trans z31 Ksa.1
  have go34 : ∀ tgt, Steps p.tables e below (T34.setTop (mkF m 311 #[.val (.int p0), .val (.int p1), .val (.int p2), .val (.int p3), .val (.int p4), .val (.int b5), .val (.int b6), .val (.int b7), .val (.int b8), .val (.int b9), .val (.int v10), .val (.int v11), .val (.int v12), .val (.int v13), .val (.int v14), .val (.int v15), .val (.int v16), .val (.int v17), .val (.int v18), .val (.int v19), .val (.int v20), .val (.int v21), .val (.int v22), .val (.int v23), .val (.int v24), .val (.int v25), .unset, .unset, .unset, .unset] [(.ref sa), (.ref x), (.ref x)])) tgt → Steps p.tables e below E0 tgt := fun tgt kont => go33 tgt (st34 tgt kont)
  have ne_x_tsa : x ≠ tsa := Nat.ne_of_lt (Nat.lt_trans (Nat.lt_of_lt_of_le A30.lt (Nat.le_of_eq g34.symm)) ltsa)
  have hpsa := own_two r10 r11
  have f36 : Old Z n0 T34.heap := (f32.keep Ksa all0)
  have go37 : ∀ tgt, Steps p.tables e below (T34.setTop (mkF m 315 #[.val (.int p0), .val (.int p1), .val (.int p2), .val (.int p3), .val (.int p4), .val (.int b5), .val (.int b6), .val (.int b7), .val (.int b8), .val (.int b9), .val (.int v10), .val (.int v11), .val (.int v12), .val (.int v13), .val (.int v14), .val (.int v15), .val (.int v16), .val (.int v17), .val (.int v18), .val (.int v19), .val (.int v20), .val (.int v21), .val (.int v22), .val (.int v23), .val (.int v24), .val (.int v25), .unset, .unset, .unset, .unset] [(.int v15), (.int v14), (.ref sa), (.ref x), (.ref x)])) tgt → Steps p.tables e below E0 tgt := fun tgt kont => go34 tgt (by
    show Steps p.tables e below (T34.setTop (mkF m 311 #[.val (.int p0), .val (.int p1), .val (.int p2), .val (.int p3), .val (.int p4), .val (.int b5), .val (.int b6), .val (.int b7), .val (.int b8), .val (.int b9), .val (.int v10), .val (.int v11), .val (.int v12), .val (.int v13), .val (.int v14), .val (.int v15), .val (.int v16), .val (.int v17), .val (.int v18), .val (.int v19), .val (.int v20), .val (.int v21), .val (.int v22), .val (.int v23), .val (.int v24), .val (.int v25), .unset, .unset, .unset, .unset] [(.ref sa), (.ref x), (.ref x)])) tgt
    refine XS.iload X34.here hx rfl (hb hby at_311) rfl ?_
    show Steps p.tables e below (T34.setTop (mkF m 313 #[.val (.int p0), .val (.int p1), .val (.int p2), .val (.int p3), .val (.int p4), .val (.int b5), .val (.int b6), .val (.int b7), .val (.int b8), .val (.int b9), .val (.int v10), .val (.int v11), .val (.int v12), .val (.int v13), .val (.int v14), .val (.int v15), .val (.int v16), .val (.int v17), .val (.int v18), .val (.int v19), .val (.int v20), .val (.int v21), .val (.int v22), .val (.int v23), .val (.int v24), .val (.int v25), .unset, .unset, .unset, .unset] [(.int v14), (.ref sa), (.ref x), (.ref x)])) tgt
    refine XS.iload X34.here hx rfl (hb hby at_313) rfl ?_
    exact kont)
  obtain ⟨_, _, ⟨T38, L38, k38, n38⟩, -, X38, ⟨Lc38, hQ38, l38, y38, z38⟩, st38⟩ := Jvm.LawKit.callS X34 hx (y := (⟨"bourseline/model/MemberSessionEqualsPinLaw", "str", "(II)Ljava/lang/String;"⟩ : MethodName)) hown (mvT hZ (hw _ (List.mem_of_getElem? (i := 3) rfl))) (mvT hZ (hw _ (List.mem_of_getElem? (i := 4) rfl))) (mvT hZ (hw _ (List.mem_of_getElem? (i := 5) rfl))) (mvT hZ (hw _ (List.mem_of_getElem? (i := 6) rfl))) (by decide) (backOf (W := 3) (rmSR l Z a0 hw [] v14 v15 G T34.heap n0 z35 r14 r15 SC hG f36) hZ (hw _ (List.mem_of_getElem? (i := 6) rfl)) (hw _ (List.mem_of_getElem? (i := 5) rfl)) (by decide) (by decide)) (g := (mkF m 315 #[.val (.int p0), .val (.int p1), .val (.int p2), .val (.int p3), .val (.int p4), .val (.int b5), .val (.int b6), .val (.int b7), .val (.int b8), .val (.int b9), .val (.int v10), .val (.int v11), .val (.int v12), .val (.int v13), .val (.int v14), .val (.int v15), .val (.int v16), .val (.int v17), .val (.int v18), .val (.int v19), .val (.int v20), .val (.int v21), .val (.int v22), .val (.int v23), .val (.int v24), .val (.int v25), .unset, .unset, .unset, .unset] [(.int v15), (.int v14), (.ref sa), (.ref x), (.ref x)])) rfl (by rw [hml]; rfl) (argsL := [(.int v14), (.int v15)]) (rest := [(.ref sa), (.ref x), (.ref x)]) (lenOf pd_8 rfl) rfl (by show 2 * 0 + _ ≤ _; exact Nat.le_of_eq rfl) (hb hby at_315) (fun _ _ => ⟨rfl, rfl, (by decide : 4 + 3 ≤ _), (by decide : 13 + 8 ≤ _)⟩)
  dsimp only [Pt.U, Pt.locs, Pt.cells, Pt.slots] at X38 l38 y38 z38 st38 hQ38
  subst l38 y38 z38
  obtain ⟨rfl, N38q, Ksb, Esb, Csb, tsb, ksb, ltsb, gtsb, Vsb, Asb⟩ := hQ38
  have N38 := Fr.app N34 N38q
  obtain ⟨sb, g38⟩ : ∃ z, z = T34.heap.size := ⟨_, rfl⟩
  rw [← g38] at st38 Esb Csb Vsb ltsb
  have ne_x_sb : x ≠ sb := Nat.ne_of_lt (Nat.lt_of_lt_of_le (Nat.lt_of_lt_of_le A30.lt Ksa.1) (Nat.le_of_eq g38.symm))
  have ne_sa_sb : sa ≠ sb := Nat.ne_of_lt (Nat.lt_of_lt_of_le Esa.lt (Nat.le_of_eq g38.symm))
  have ne_tsa_sb : tsa ≠ sb := Nat.ne_of_lt (Nat.lt_of_lt_of_le Asa.lt (Nat.le_of_eq g38.symm))
  have ge_sb : n0 ≤ sb := Nat.le_trans z35 (Nat.le_of_eq g38.symm)
  have z39 : n0 ≤ T38.heap.size := Nat.le_trans z35 Ksb.1
  have go38 : ∀ tgt, Steps p.tables e below (T38.setTop (mkF m 318 #[.val (.int p0), .val (.int p1), .val (.int p2), .val (.int p3), .val (.int p4), .val (.int b5), .val (.int b6), .val (.int b7), .val (.int b8), .val (.int b9), .val (.int v10), .val (.int v11), .val (.int v12), .val (.int v13), .val (.int v14), .val (.int v15), .val (.int v16), .val (.int v17), .val (.int v18), .val (.int v19), .val (.int v20), .val (.int v21), .val (.int v22), .val (.int v23), .val (.int v24), .val (.int v25), .unset, .unset, .unset, .unset] [(.ref sb), (.ref sa), (.ref x), (.ref x)])) tgt → Steps p.tables e below E0 tgt := fun tgt kont => go37 tgt (st38 tgt kont)
  have ne_x_tsb : x ≠ tsb := Nat.ne_of_lt (Nat.lt_trans (Nat.lt_of_lt_of_le (Nat.lt_of_lt_of_le A30.lt Ksa.1) (Nat.le_of_eq g38.symm)) ltsb)
  have ne_sa_tsb : sa ≠ tsb := Nat.ne_of_lt (Nat.lt_trans (Nat.lt_of_lt_of_le Esa.lt (Nat.le_of_eq g38.symm)) ltsb)
  have ne_tsa_tsb : tsa ≠ tsb := Nat.ne_of_lt (Nat.lt_trans (Nat.lt_of_lt_of_le Asa.lt (Nat.le_of_eq g38.symm)) ltsb)
  have hpsb := own_two r14 r15
  have f40 : Old Z n0 T38.heap := (f36.keep Ksb all0)
  have go41 : ∀ tgt, Steps p.tables e below (T38.setTop (mkF m 320 #[.val (.int p0), .val (.int p1), .val (.int p2), .val (.int p3), .val (.int p4), .val (.int b5), .val (.int b6), .val (.int b7), .val (.int b8), .val (.int b9), .val (.int v10), .val (.int v11), .val (.int v12), .val (.int v13), .val (.int v14), .val (.int v15), .val (.int v16), .val (.int v17), .val (.int v18), .val (.int v19), .val (.int v20), .val (.int v21), .val (.int v22), .val (.int v23), .val (.int v24), .val (.int v25), .unset, .unset, .unset, .unset] [(.int v22), (.ref sb), (.ref sa), (.ref x), (.ref x)])) tgt → Steps p.tables e below E0 tgt := fun tgt kont => go38 tgt (by
    show Steps p.tables e below (T38.setTop (mkF m 318 #[.val (.int p0), .val (.int p1), .val (.int p2), .val (.int p3), .val (.int p4), .val (.int b5), .val (.int b6), .val (.int b7), .val (.int b8), .val (.int b9), .val (.int v10), .val (.int v11), .val (.int v12), .val (.int v13), .val (.int v14), .val (.int v15), .val (.int v16), .val (.int v17), .val (.int v18), .val (.int v19), .val (.int v20), .val (.int v21), .val (.int v22), .val (.int v23), .val (.int v24), .val (.int v25), .unset, .unset, .unset, .unset] [(.ref sb), (.ref sa), (.ref x), (.ref x)])) tgt
    refine XS.iload X38.here hx rfl (hb hby at_318) rfl ?_
    exact kont)
  obtain ⟨_, _, ⟨T42, L42, k42, n42⟩, -, X42, ⟨Lc42, hQ42, l42, y42, z42⟩, st42⟩ := Jvm.LawKit.callS X38 hx (y := (⟨"bourseline/model/MemberSessionEqualsPinLaw", "version", "(I)Lbourseline/model/FixVersion;"⟩ : MethodName)) hown (mvT hZ (hw _ (List.mem_of_getElem? (i := 37) rfl))) (mvT hZ (hw _ (List.mem_of_getElem? (i := 38) rfl))) (mvT hZ (hw _ (List.mem_of_getElem? (i := 5) rfl))) (mvT hZ (hw _ (List.mem_of_getElem? (i := 39) rfl))) (by decide) (backOf (W := 4) (rmVS l Z a0 hw [] v22 g0 g1 g2 T38.heap n0 z39 (Sg0.ext f40.2) (Sg1.ext f40.2) (Sg2.ext f40.2)) hZ (hw _ (List.mem_of_getElem? (i := 39) rfl)) (hw _ (List.mem_of_getElem? (i := 5) rfl)) (by decide) (by decide)) (g := (mkF m 320 #[.val (.int p0), .val (.int p1), .val (.int p2), .val (.int p3), .val (.int p4), .val (.int b5), .val (.int b6), .val (.int b7), .val (.int b8), .val (.int b9), .val (.int v10), .val (.int v11), .val (.int v12), .val (.int v13), .val (.int v14), .val (.int v15), .val (.int v16), .val (.int v17), .val (.int v18), .val (.int v19), .val (.int v20), .val (.int v21), .val (.int v22), .val (.int v23), .val (.int v24), .val (.int v25), .unset, .unset, .unset, .unset] [(.int v22), (.ref sb), (.ref sa), (.ref x), (.ref x)])) rfl (by rw [hml]; rfl) (argsL := [(.int v22)]) (rest := [(.ref sb), (.ref sa), (.ref x), (.ref x)]) (lenOf pd_9 rfl) rfl (by show 2 * 0 + _ ≤ _; exact Nat.le_of_eq rfl) (hb hby at_320) (fun _ _ => ⟨rfl, rfl, (by decide : 7 + 0 ≤ _), (by decide : 21 + 0 ≤ _)⟩)
  dsimp only [Pt.U, Pt.locs, Pt.cells, Pt.slots] at X42 l42 y42 z42 st42 hQ42
  subst l42 y42 z42
  obtain ⟨rfl, N42q, e42⟩ := hQ42
  have N42 := Fr.app N38 N42q
  have go42 : ∀ tgt, Steps p.tables e below (T42.setTop (mkF m 323 #[.val (.int p0), .val (.int p1), .val (.int p2), .val (.int p3), .val (.int p4), .val (.int b5), .val (.int b6), .val (.int b7), .val (.int b8), .val (.int b9), .val (.int v10), .val (.int v11), .val (.int v12), .val (.int v13), .val (.int v14), .val (.int v15), .val (.int v16), .val (.int v17), .val (.int v18), .val (.int v19), .val (.int v20), .val (.int v21), .val (.int v22), .val (.int v23), .val (.int v24), .val (.int v25), .unset, .unset, .unset, .unset] [(.ref (own_vs g0 g1 g2 v22)), (.ref sb), (.ref sa), (.ref x), (.ref x)])) tgt → Steps p.tables e below E0 tgt := fun tgt kont => go41 tgt (st42 tgt kont)
  have go43 : ∀ tgt, Steps p.tables e below (T42.setTop (mkF m 327 #[.val (.int p0), .val (.int p1), .val (.int p2), .val (.int p3), .val (.int p4), .val (.int b5), .val (.int b6), .val (.int b7), .val (.int b8), .val (.int b9), .val (.int v10), .val (.int v11), .val (.int v12), .val (.int v13), .val (.int v14), .val (.int v15), .val (.int v16), .val (.int v17), .val (.int v18), .val (.int v19), .val (.int v20), .val (.int v21), .val (.int v22), .val (.int v23), .val (.int v24), .val (.int v25), .unset, .unset, .unset, .unset] [(.int v19), (.int v18), (.ref (own_vs g0 g1 g2 v22)), (.ref sb), (.ref sa), (.ref x), (.ref x)])) tgt → Steps p.tables e below E0 tgt := fun tgt kont => go42 tgt (by
    show Steps p.tables e below (T42.setTop (mkF m 323 #[.val (.int p0), .val (.int p1), .val (.int p2), .val (.int p3), .val (.int p4), .val (.int b5), .val (.int b6), .val (.int b7), .val (.int b8), .val (.int b9), .val (.int v10), .val (.int v11), .val (.int v12), .val (.int v13), .val (.int v14), .val (.int v15), .val (.int v16), .val (.int v17), .val (.int v18), .val (.int v19), .val (.int v20), .val (.int v21), .val (.int v22), .val (.int v23), .val (.int v24), .val (.int v25), .unset, .unset, .unset, .unset] [(.ref (own_vs g0 g1 g2 v22)), (.ref sb), (.ref sa), (.ref x), (.ref x)])) tgt
    refine XS.iload X42.here hx rfl (hb hby at_323) rfl ?_
    show Steps p.tables e below (T42.setTop (mkF m 325 #[.val (.int p0), .val (.int p1), .val (.int p2), .val (.int p3), .val (.int p4), .val (.int b5), .val (.int b6), .val (.int b7), .val (.int b8), .val (.int b9), .val (.int v10), .val (.int v11), .val (.int v12), .val (.int v13), .val (.int v14), .val (.int v15), .val (.int v16), .val (.int v17), .val (.int v18), .val (.int v19), .val (.int v20), .val (.int v21), .val (.int v22), .val (.int v23), .val (.int v24), .val (.int v25), .unset, .unset, .unset, .unset] [(.int v18), (.ref (own_vs g0 g1 g2 v22)), (.ref sb), (.ref sa), (.ref x), (.ref x)])) tgt
    refine XS.iload X42.here hx rfl (hb hby at_325) rfl ?_
    exact kont)
  obtain ⟨_, _, ⟨T44, L44, k44, n44⟩, -, X44, ⟨Lc44, hQ44, l44, y44, z44⟩, st44⟩ := Jvm.LawKit.callS X42 hx (y := (⟨"bourseline/model/MemberSessionEqualsPinLaw", "str", "(II)Ljava/lang/String;"⟩ : MethodName)) hown (mvT hZ (hw _ (List.mem_of_getElem? (i := 3) rfl))) (mvT hZ (hw _ (List.mem_of_getElem? (i := 4) rfl))) (mvT hZ (hw _ (List.mem_of_getElem? (i := 5) rfl))) (mvT hZ (hw _ (List.mem_of_getElem? (i := 6) rfl))) (by decide) (backOf (W := 5) (rmSR l Z a0 hw [] v18 v19 G T38.heap n0 z39 r18 r19 SC hG f40) hZ (hw _ (List.mem_of_getElem? (i := 6) rfl)) (hw _ (List.mem_of_getElem? (i := 5) rfl)) (by decide) (by decide)) (g := (mkF m 327 #[.val (.int p0), .val (.int p1), .val (.int p2), .val (.int p3), .val (.int p4), .val (.int b5), .val (.int b6), .val (.int b7), .val (.int b8), .val (.int b9), .val (.int v10), .val (.int v11), .val (.int v12), .val (.int v13), .val (.int v14), .val (.int v15), .val (.int v16), .val (.int v17), .val (.int v18), .val (.int v19), .val (.int v20), .val (.int v21), .val (.int v22), .val (.int v23), .val (.int v24), .val (.int v25), .unset, .unset, .unset, .unset] [(.int v19), (.int v18), (.ref (own_vs g0 g1 g2 v22)), (.ref sb), (.ref sa), (.ref x), (.ref x)])) rfl (by rw [hml]; rfl) (argsL := [(.int v18), (.int v19)]) (rest := [(.ref (own_vs g0 g1 g2 v22)), (.ref sb), (.ref sa), (.ref x), (.ref x)]) (lenOf pd_8 rfl) rfl (by show 2 * 0 + _ ≤ _; exact Nat.le_of_eq rfl) (hb hby at_327) (fun _ _ => ⟨rfl, e42, (by decide : 7 + 3 ≤ _), (by decide : 21 + 8 ≤ _)⟩)
  dsimp only [Pt.U, Pt.locs, Pt.cells, Pt.slots] at X44 l44 y44 z44 st44 hQ44
  subst l44 y44 z44
  obtain ⟨rfl, N44q, Ksc, Esc, Csc, tsc, ksc, ltsc, gtsc, Vsc, Asc⟩ := hQ44
  have N44 := Fr.app N42 N44q
  obtain ⟨sc, g44⟩ : ∃ z, z = T38.heap.size := ⟨_, rfl⟩
  rw [← g44] at st44 Esc Csc Vsc ltsc
  have ne_x_sc : x ≠ sc := Nat.ne_of_lt (Nat.lt_of_lt_of_le (Nat.lt_of_lt_of_le A30.lt (Nat.le_trans Ksa.1 Ksb.1)) (Nat.le_of_eq g44.symm))
  have ne_sa_sc : sa ≠ sc := Nat.ne_of_lt (Nat.lt_of_lt_of_le (Nat.lt_of_lt_of_le Esa.lt Ksb.1) (Nat.le_of_eq g44.symm))
  have ne_tsa_sc : tsa ≠ sc := Nat.ne_of_lt (Nat.lt_of_lt_of_le (Nat.lt_of_lt_of_le Asa.lt Ksb.1) (Nat.le_of_eq g44.symm))
  have ne_sb_sc : sb ≠ sc := Nat.ne_of_lt (Nat.lt_of_lt_of_le Esb.lt (Nat.le_of_eq g44.symm))
  have ne_tsb_sc : tsb ≠ sc := Nat.ne_of_lt (Nat.lt_of_lt_of_le Asb.lt (Nat.le_of_eq g44.symm))
  have ge_sc : n0 ≤ sc := Nat.le_trans z39 (Nat.le_of_eq g44.symm)
  have z45 : n0 ≤ T44.heap.size := Nat.le_trans z39 Ksc.1
  have go44 : ∀ tgt, Steps p.tables e below (T44.setTop (mkF m 330 #[.val (.int p0), .val (.int p1), .val (.int p2), .val (.int p3), .val (.int p4), .val (.int b5), .val (.int b6), .val (.int b7), .val (.int b8), .val (.int b9), .val (.int v10), .val (.int v11), .val (.int v12), .val (.int v13), .val (.int v14), .val (.int v15), .val (.int v16), .val (.int v17), .val (.int v18), .val (.int v19), .val (.int v20), .val (.int v21), .val (.int v22), .val (.int v23), .val (.int v24), .val (.int v25), .unset, .unset, .unset, .unset] [(.ref sc), (.ref (own_vs g0 g1 g2 v22)), (.ref sb), (.ref sa), (.ref x), (.ref x)])) tgt → Steps p.tables e below E0 tgt := fun tgt kont => go43 tgt (st44 tgt kont)
  have ne_x_tsc : x ≠ tsc := Nat.ne_of_lt (Nat.lt_trans (Nat.lt_of_lt_of_le (Nat.lt_of_lt_of_le A30.lt (Nat.le_trans Ksa.1 Ksb.1)) (Nat.le_of_eq g44.symm)) ltsc)
  have ne_sa_tsc : sa ≠ tsc := Nat.ne_of_lt (Nat.lt_trans (Nat.lt_of_lt_of_le (Nat.lt_of_lt_of_le Esa.lt Ksb.1) (Nat.le_of_eq g44.symm)) ltsc)
  have ne_tsa_tsc : tsa ≠ tsc := Nat.ne_of_lt (Nat.lt_trans (Nat.lt_of_lt_of_le (Nat.lt_of_lt_of_le Asa.lt Ksb.1) (Nat.le_of_eq g44.symm)) ltsc)
  have ne_sb_tsc : sb ≠ tsc := Nat.ne_of_lt (Nat.lt_trans (Nat.lt_of_lt_of_le Esb.lt (Nat.le_of_eq g44.symm)) ltsc)
  have ne_tsb_tsc : tsb ≠ tsc := Nat.ne_of_lt (Nat.lt_trans (Nat.lt_of_lt_of_le Asb.lt (Nat.le_of_eq g44.symm)) ltsc)
  have hpsc := own_two r18 r19
  have f46 : Old Z n0 T44.heap := (f40.keep Ksc all0)
  have go47 : ∀ tgt, Steps p.tables e below (T44.setTop (mkF m 332 #[.val (.int p0), .val (.int p1), .val (.int p2), .val (.int p3), .val (.int p4), .val (.int b5), .val (.int b6), .val (.int b7), .val (.int b8), .val (.int b9), .val (.int v10), .val (.int v11), .val (.int v12), .val (.int v13), .val (.int v14), .val (.int v15), .val (.int v16), .val (.int v17), .val (.int v18), .val (.int v19), .val (.int v20), .val (.int v21), .val (.int v22), .val (.int v23), .val (.int v24), .val (.int v25), .unset, .unset, .unset, .unset] [(.int v24), (.ref sc), (.ref (own_vs g0 g1 g2 v22)), (.ref sb), (.ref sa), (.ref x), (.ref x)])) tgt → Steps p.tables e below E0 tgt := fun tgt kont => go44 tgt (by
    show Steps p.tables e below (T44.setTop (mkF m 330 #[.val (.int p0), .val (.int p1), .val (.int p2), .val (.int p3), .val (.int p4), .val (.int b5), .val (.int b6), .val (.int b7), .val (.int b8), .val (.int b9), .val (.int v10), .val (.int v11), .val (.int v12), .val (.int v13), .val (.int v14), .val (.int v15), .val (.int v16), .val (.int v17), .val (.int v18), .val (.int v19), .val (.int v20), .val (.int v21), .val (.int v22), .val (.int v23), .val (.int v24), .val (.int v25), .unset, .unset, .unset, .unset] [(.ref sc), (.ref (own_vs g0 g1 g2 v22)), (.ref sb), (.ref sa), (.ref x), (.ref x)])) tgt
    refine XS.iload X44.here hx rfl (hb hby at_330) rfl ?_
    exact kont)
  obtain ⟨_, _, ⟨T48, L48, k48, n48⟩, -, X48, ⟨Lc48, hQ48, l48, y48, z48⟩, st48⟩ := Jvm.LawKit.callS X44 hx (y := (⟨"bourseline/model/MemberSessionEqualsPinLaw", "rule", "(I)Lbourseline/model/SelfMatchInstruction;"⟩ : MethodName)) hown (mvT hZ (hw _ (List.mem_of_getElem? (i := 43) rfl))) (mvT hZ (hw _ (List.mem_of_getElem? (i := 44) rfl))) (mvT hZ (hw _ (List.mem_of_getElem? (i := 5) rfl))) (mvT hZ (hw _ (List.mem_of_getElem? (i := 45) rfl))) (by decide) (backOf (W := 6) (rmRL l Z a0 hw [] v24 r0 r1 r2 T44.heap n0 z45 (Sr0.ext f46.2) (Sr1.ext f46.2) (Sr2.ext f46.2)) hZ (hw _ (List.mem_of_getElem? (i := 45) rfl)) (hw _ (List.mem_of_getElem? (i := 5) rfl)) (by decide) (by decide)) (g := (mkF m 332 #[.val (.int p0), .val (.int p1), .val (.int p2), .val (.int p3), .val (.int p4), .val (.int b5), .val (.int b6), .val (.int b7), .val (.int b8), .val (.int b9), .val (.int v10), .val (.int v11), .val (.int v12), .val (.int v13), .val (.int v14), .val (.int v15), .val (.int v16), .val (.int v17), .val (.int v18), .val (.int v19), .val (.int v20), .val (.int v21), .val (.int v22), .val (.int v23), .val (.int v24), .val (.int v25), .unset, .unset, .unset, .unset] [(.int v24), (.ref sc), (.ref (own_vs g0 g1 g2 v22)), (.ref sb), (.ref sa), (.ref x), (.ref x)])) rfl (by rw [hml]; rfl) (argsL := [(.int v24)]) (rest := [(.ref sc), (.ref (own_vs g0 g1 g2 v22)), (.ref sb), (.ref sa), (.ref x), (.ref x)]) (lenOf pd_10 rfl) rfl (by show 2 * 0 + _ ≤ _; exact Nat.le_of_eq rfl) (hb hby at_332) (fun _ _ => ⟨rfl, rfl, (by decide : 10 + 0 ≤ _), (by decide : 29 + 0 ≤ _)⟩)
  dsimp only [Pt.U, Pt.locs, Pt.cells, Pt.slots] at X48 l48 y48 z48 st48 hQ48
  subst l48 y48 z48
  obtain ⟨rfl, N48q, e48⟩ := hQ48
  have N48 := Fr.app N44 N48q
  have go48 : ∀ tgt, Steps p.tables e below (T48.setTop (mkF m 335 #[.val (.int p0), .val (.int p1), .val (.int p2), .val (.int p3), .val (.int p4), .val (.int b5), .val (.int b6), .val (.int b7), .val (.int b8), .val (.int b9), .val (.int v10), .val (.int v11), .val (.int v12), .val (.int v13), .val (.int v14), .val (.int v15), .val (.int v16), .val (.int v17), .val (.int v18), .val (.int v19), .val (.int v20), .val (.int v21), .val (.int v22), .val (.int v23), .val (.int v24), .val (.int v25), .unset, .unset, .unset, .unset] [(own_rl r0 r1 r2 v24), (.ref sc), (.ref (own_vs g0 g1 g2 v22)), (.ref sb), (.ref sa), (.ref x), (.ref x)])) tgt → Steps p.tables e below E0 tgt := fun tgt kont => go47 tgt (st48 tgt kont)
  have f49 : Exa Z T44.heap x "bourseline/model/MemberSession" := (((A30.keep Ksa).keep Ksb).keep Ksc)
  have f50 : Fld Z T44.heap x "bourseline/model/MemberSession" "sender" "Ljava/lang/String;" .null := (((Fsender_x.keep Ksa nin0).keep Ksb nin0).keep Ksc nin0)
  have f51 : Fld Z T44.heap x "bourseline/model/MemberSession" "target" "Ljava/lang/String;" .null := (((Ftarget_x.keep Ksa nin0).keep Ksb nin0).keep Ksc nin0)
  have f52 : Fld Z T44.heap x "bourseline/model/MemberSession" "fixVersion" "Lbourseline/model/FixVersion;" .null := (((FfixVersion_x.keep Ksa nin0).keep Ksb nin0).keep Ksc nin0)
  have f53 : Fld Z T44.heap x "bourseline/model/MemberSession" "member" "Ljava/lang/String;" .null := (((Fmember_x.keep Ksa nin0).keep Ksb nin0).keep Ksc nin0)
  have f54 : Fld Z T44.heap x "bourseline/model/MemberSession" "selfMatchRule" "Lbourseline/model/SelfMatchInstruction;" .null := (((FselfMatchRule_x.keep Ksa nin0).keep Ksb nin0).keep Ksc nin0)
  obtain ⟨_, _, ⟨T55, L55, k55, n55⟩, -, Xp55, hSp55, hgp55, ⟨Lc55, hQ55, l55, y55, z55⟩, st55⟩ := X48.specialBackS hx (y := (⟨"bourseline/model/MemberSession", "<init>", "(Ljava/lang/String;Ljava/lang/String;Lbourseline/model/FixVersion;Ljava/lang/String;Lbourseline/model/SelfMatchInstruction;)V"⟩ : MethodName)) rfl hown (mvT hZ (hw _ (List.mem_of_getElem? (i := 49) rfl))) (mvT hZ (hw _ (List.mem_of_getElem? (i := 50) rfl))) (mvT hZ (hw _ (List.mem_of_getElem? (i := 51) rfl))) (by decide) (backOfS (W := 1) (rmMI l Z a0 hw [] x sa sb (own_vs g0 g1 g2 v22) sc (own_rl r0 r1 r2 v24) T44.heap n0 z45 (own_rlr r0 r1 r2 v24) f49 ge_x f50 f51 f52 f53 f54) hZ (hw _ (List.mem_of_getElem? (i := 51) rfl)) (hw _ (List.mem_of_getElem? (i := 2) rfl)) (by decide) (by decide)) (g := (mkF m 335 #[.val (.int p0), .val (.int p1), .val (.int p2), .val (.int p3), .val (.int p4), .val (.int b5), .val (.int b6), .val (.int b7), .val (.int b8), .val (.int b9), .val (.int v10), .val (.int v11), .val (.int v12), .val (.int v13), .val (.int v14), .val (.int v15), .val (.int v16), .val (.int v17), .val (.int v18), .val (.int v19), .val (.int v20), .val (.int v21), .val (.int v22), .val (.int v23), .val (.int v24), .val (.int v25), .unset, .unset, .unset, .unset] [(own_rl r0 r1 r2 v24), (.ref sc), (.ref (own_vs g0 g1 g2 v22)), (.ref sb), (.ref sa), (.ref x), (.ref x)])) rfl (by rw [hml]; rfl) (Steps.refl _) (a := x) (argsL := [(.ref sa), (.ref sb), (.ref (own_vs g0 g1 g2 v22)), (.ref sc), (own_rl r0 r1 r2 v24)]) (rest := [(.ref x)]) (lenOf pd_11 rfl) rfl (by show 2 * 0 + _ ≤ _; exact Nat.le_of_eq rfl) (hb hby at_335) (fun _ _ => ⟨rfl, e48, (by decide : 10 + 8 ≤ _), (by decide : 29 + 128 ≤ _)⟩)
  dsimp only [Pt.U, Pt.locs, Pt.cells, Pt.slots] at Xp55 hSp55 hgp55 l55 y55 z55 st55 hQ55
  subst l55 y55 z55
  obtain ⟨X55, hS55, hZ55, hown55⟩ := rebS hS0 (by rw [e48]; exact (Nat.le_trans hk0 (Nat.le_trans (Nat.le_trans (Nat.le_trans E30.1 Ksa.1) Ksb.1) Ksc.1))) Xp55 hSp55 hgp55 hZ hown
  obtain ⟨rfl, N55q, Kx, Ex, Fx0, Fx1, Fx2, Fx3, Fx4⟩ := hQ55
  have N55 := Fr.app N48 N55q
  have z56 : n0 ≤ T55.heap.size := Nat.le_trans z45 Kx.1
  have go55 : ∀ tgt, Steps p.tables e below (T55.setTop (mkF m 338 #[.val (.int p0), .val (.int p1), .val (.int p2), .val (.int p3), .val (.int p4), .val (.int b5), .val (.int b6), .val (.int b7), .val (.int b8), .val (.int b9), .val (.int v10), .val (.int v11), .val (.int v12), .val (.int v13), .val (.int v14), .val (.int v15), .val (.int v16), .val (.int v17), .val (.int v18), .val (.int v19), .val (.int v20), .val (.int v21), .val (.int v22), .val (.int v23), .val (.int v24), .val (.int v25), .unset, .unset, .unset, .unset] [(.ref x)])) tgt → Steps p.tables e below E0 tgt := fun tgt kont => go48 tgt (st55.trans kont)
  obtain ⟨v27, hv27⟩ : ∃ z : Int32, z = (((p4.toUInt32 >>> ((5 : Int32) &&& 31).toUInt32).toInt32) &&& (7 : Int32)) := ⟨_, rfl⟩
  have go57 : ∀ tgt, Steps p.tables e below (T55.setTop (mkF m 349 #[.val (.int p0), .val (.int p1), .val (.int p2), .val (.int p3), .val (.int p4), .val (.int b5), .val (.int b6), .val (.int b7), .val (.int b8), .val (.int b9), .val (.int v10), .val (.int v11), .val (.int v12), .val (.int v13), .val (.int v14), .val (.int v15), .val (.int v16), .val (.int v17), .val (.int v18), .val (.int v19), .val (.int v20), .val (.int v21), .val (.int v22), .val (.int v23), .val (.int v24), .val (.int v25), .val (.ref x), .val (.int v27), .unset, .unset] [])) tgt → Steps p.tables e below E0 tgt := fun tgt kont => go55 tgt (by
    rw [hv27] at kont
    show Steps p.tables e below (T55.setTop (mkF m 338 #[.val (.int p0), .val (.int p1), .val (.int p2), .val (.int p3), .val (.int p4), .val (.int b5), .val (.int b6), .val (.int b7), .val (.int b8), .val (.int b9), .val (.int v10), .val (.int v11), .val (.int v12), .val (.int v13), .val (.int v14), .val (.int v15), .val (.int v16), .val (.int v17), .val (.int v18), .val (.int v19), .val (.int v20), .val (.int v21), .val (.int v22), .val (.int v23), .val (.int v24), .val (.int v25), .unset, .unset, .unset, .unset] [(.ref x)])) tgt
    refine XS.astore X55.here hx rfl (hb hby at_338) rfl rfl (l' := #[.val (.int p0), .val (.int p1), .val (.int p2), .val (.int p3), .val (.int p4), .val (.int b5), .val (.int b6), .val (.int b7), .val (.int b8), .val (.int b9), .val (.int v10), .val (.int v11), .val (.int v12), .val (.int v13), .val (.int v14), .val (.int v15), .val (.int v16), .val (.int v17), .val (.int v18), .val (.int v19), .val (.int v20), .val (.int v21), .val (.int v22), .val (.int v23), .val (.int v24), .val (.int v25), .val (.ref x), .unset, .unset, .unset]) rfl ?_
    show Steps p.tables e below (T55.setTop (mkF m 340 #[.val (.int p0), .val (.int p1), .val (.int p2), .val (.int p3), .val (.int p4), .val (.int b5), .val (.int b6), .val (.int b7), .val (.int b8), .val (.int b9), .val (.int v10), .val (.int v11), .val (.int v12), .val (.int v13), .val (.int v14), .val (.int v15), .val (.int v16), .val (.int v17), .val (.int v18), .val (.int v19), .val (.int v20), .val (.int v21), .val (.int v22), .val (.int v23), .val (.int v24), .val (.int v25), .val (.ref x), .unset, .unset, .unset] [])) tgt
    refine XS.iload X55.here hx rfl (hb hby at_340) rfl ?_
    show Steps p.tables e below (T55.setTop (mkF m 342 #[.val (.int p0), .val (.int p1), .val (.int p2), .val (.int p3), .val (.int p4), .val (.int b5), .val (.int b6), .val (.int b7), .val (.int b8), .val (.int b9), .val (.int v10), .val (.int v11), .val (.int v12), .val (.int v13), .val (.int v14), .val (.int v15), .val (.int v16), .val (.int v17), .val (.int v18), .val (.int v19), .val (.int v20), .val (.int v21), .val (.int v22), .val (.int v23), .val (.int v24), .val (.int v25), .val (.ref x), .unset, .unset, .unset] [(.int p4)])) tgt
    refine XS.iconst X55.here hx rfl (hb hby at_342) ?_
    show Steps p.tables e below (T55.setTop (mkF m 343 #[.val (.int p0), .val (.int p1), .val (.int p2), .val (.int p3), .val (.int p4), .val (.int b5), .val (.int b6), .val (.int b7), .val (.int b8), .val (.int b9), .val (.int v10), .val (.int v11), .val (.int v12), .val (.int v13), .val (.int v14), .val (.int v15), .val (.int v16), .val (.int v17), .val (.int v18), .val (.int v19), .val (.int v20), .val (.int v21), .val (.int v22), .val (.int v23), .val (.int v24), .val (.int v25), .val (.ref x), .unset, .unset, .unset] [(.int (5 : Int32)), (.int p4)])) tgt
    refine XS.iushr X55.here hx rfl (hb hby at_343) rfl ?_
    show Steps p.tables e below (T55.setTop (mkF m 344 #[.val (.int p0), .val (.int p1), .val (.int p2), .val (.int p3), .val (.int p4), .val (.int b5), .val (.int b6), .val (.int b7), .val (.int b8), .val (.int b9), .val (.int v10), .val (.int v11), .val (.int v12), .val (.int v13), .val (.int v14), .val (.int v15), .val (.int v16), .val (.int v17), .val (.int v18), .val (.int v19), .val (.int v20), .val (.int v21), .val (.int v22), .val (.int v23), .val (.int v24), .val (.int v25), .val (.ref x), .unset, .unset, .unset] [(.int ((p4.toUInt32 >>> ((5 : Int32) &&& 31).toUInt32).toInt32))])) tgt
    refine XS.bipush X55.here hx rfl (hb hby at_344) ?_
    show Steps p.tables e below (T55.setTop (mkF m 346 #[.val (.int p0), .val (.int p1), .val (.int p2), .val (.int p3), .val (.int p4), .val (.int b5), .val (.int b6), .val (.int b7), .val (.int b8), .val (.int b9), .val (.int v10), .val (.int v11), .val (.int v12), .val (.int v13), .val (.int v14), .val (.int v15), .val (.int v16), .val (.int v17), .val (.int v18), .val (.int v19), .val (.int v20), .val (.int v21), .val (.int v22), .val (.int v23), .val (.int v24), .val (.int v25), .val (.ref x), .unset, .unset, .unset] [(.int (7 : Int32)), (.int ((p4.toUInt32 >>> ((5 : Int32) &&& 31).toUInt32).toInt32))])) tgt
    refine XS.iand X55.here hx rfl (hb hby at_346) rfl ?_
    show Steps p.tables e below (T55.setTop (mkF m 347 #[.val (.int p0), .val (.int p1), .val (.int p2), .val (.int p3), .val (.int p4), .val (.int b5), .val (.int b6), .val (.int b7), .val (.int b8), .val (.int b9), .val (.int v10), .val (.int v11), .val (.int v12), .val (.int v13), .val (.int v14), .val (.int v15), .val (.int v16), .val (.int v17), .val (.int v18), .val (.int v19), .val (.int v20), .val (.int v21), .val (.int v22), .val (.int v23), .val (.int v24), .val (.int v25), .val (.ref x), .unset, .unset, .unset] [(.int (((p4.toUInt32 >>> ((5 : Int32) &&& 31).toUInt32).toInt32) &&& (7 : Int32)))])) tgt
    refine XS.istore X55.here hx rfl (hb hby at_347) rfl (l' := #[.val (.int p0), .val (.int p1), .val (.int p2), .val (.int p3), .val (.int p4), .val (.int b5), .val (.int b6), .val (.int b7), .val (.int b8), .val (.int b9), .val (.int v10), .val (.int v11), .val (.int v12), .val (.int v13), .val (.int v14), .val (.int v15), .val (.int v16), .val (.int v17), .val (.int v18), .val (.int v19), .val (.int v20), .val (.int v21), .val (.int v22), .val (.int v23), .val (.int v24), .val (.int v25), .val (.ref x), .val (.int (((p4.toUInt32 >>> ((5 : Int32) &&& 31).toUInt32).toInt32) &&& (7 : Int32))), .unset, .unset]) rfl ?_
    exact kont)
  by_cases m0 : v27 = (0 : Int32)
  · have go58 : ∀ tgt, Steps p.tables e below (T55.setTop (mkF m 357 #[.val (.int p0), .val (.int p1), .val (.int p2), .val (.int p3), .val (.int p4), .val (.int b5), .val (.int b6), .val (.int b7), .val (.int b8), .val (.int b9), .val (.int v10), .val (.int v11), .val (.int v12), .val (.int v13), .val (.int v14), .val (.int v15), .val (.int v16), .val (.int v17), .val (.int v18), .val (.int v19), .val (.int v20), .val (.int v21), .val (.int v22), .val (.int v23), .val (.int v24), .val (.int v25), .val (.ref x), .val (.int v27), .unset, .unset] [.null, (.ref x)])) tgt → Steps p.tables e below E0 tgt := fun tgt kont => go57 tgt (by
      show Steps p.tables e below (T55.setTop (mkF m 349 #[.val (.int p0), .val (.int p1), .val (.int p2), .val (.int p3), .val (.int p4), .val (.int b5), .val (.int b6), .val (.int b7), .val (.int b8), .val (.int b9), .val (.int v10), .val (.int v11), .val (.int v12), .val (.int v13), .val (.int v14), .val (.int v15), .val (.int v16), .val (.int v17), .val (.int v18), .val (.int v19), .val (.int v20), .val (.int v21), .val (.int v22), .val (.int v23), .val (.int v24), .val (.int v25), .val (.ref x), .val (.int v27), .unset, .unset] [])) tgt
      refine XS.iload X55.here hx rfl (hb hby at_349) rfl ?_
      show Steps p.tables e below (T55.setTop (mkF m 351 #[.val (.int p0), .val (.int p1), .val (.int p2), .val (.int p3), .val (.int p4), .val (.int b5), .val (.int b6), .val (.int b7), .val (.int b8), .val (.int b9), .val (.int v10), .val (.int v11), .val (.int v12), .val (.int v13), .val (.int v14), .val (.int v15), .val (.int v16), .val (.int v17), .val (.int v18), .val (.int v19), .val (.int v20), .val (.int v21), .val (.int v22), .val (.int v23), .val (.int v24), .val (.int v25), .val (.ref x), .val (.int v27), .unset, .unset] [(.int v27)])) tgt
      refine XS.ifNo X55.here hx rfl (hb hby at_351) rfl ((if0 _ _).trans (teq m0).2) ?_
      show Steps p.tables e below (T55.setTop (mkF m 354 #[.val (.int p0), .val (.int p1), .val (.int p2), .val (.int p3), .val (.int p4), .val (.int b5), .val (.int b6), .val (.int b7), .val (.int b8), .val (.int b9), .val (.int v10), .val (.int v11), .val (.int v12), .val (.int v13), .val (.int v14), .val (.int v15), .val (.int v16), .val (.int v17), .val (.int v18), .val (.int v19), .val (.int v20), .val (.int v21), .val (.int v22), .val (.int v23), .val (.int v24), .val (.int v25), .val (.ref x), .val (.int v27), .unset, .unset] [])) tgt
      refine XS.aload X55.here hx rfl (hb hby at_354) rfl rfl ?_
      show Steps p.tables e below (T55.setTop (mkF m 356 #[.val (.int p0), .val (.int p1), .val (.int p2), .val (.int p3), .val (.int p4), .val (.int b5), .val (.int b6), .val (.int b7), .val (.int b8), .val (.int b9), .val (.int v10), .val (.int v11), .val (.int v12), .val (.int v13), .val (.int v14), .val (.int v15), .val (.int v16), .val (.int v17), .val (.int v18), .val (.int v19), .val (.int v20), .val (.int v21), .val (.int v22), .val (.int v23), .val (.int v24), .val (.int v25), .val (.ref x), .val (.int v27), .unset, .unset] [(.ref x)])) tgt
      refine XS.aconstNull X55.here hx rfl (hb hby at_356) ?_
      exact kont)
    obtain ⟨cq59, kq59, q59a, q59b, q59c⟩ := isOf hZ55 rfl Ex
    obtain ⟨_, _, ⟨T59, L59, k59, n59⟩, -, X59, ⟨Lc59, hQ59, l59, y59, z59⟩, st59⟩ := X55.virtualBack hx (y := (⟨"bourseline/model/MemberSession", "equals", "(Ljava/lang/Object;)Z"⟩ : MethodName)) (z := (⟨"bourseline/model/MemberSession", "equals", "(Ljava/lang/Object;)Z"⟩ : MethodName)) hown55 (mvT hZ55 (hw _ (List.mem_of_getElem? (i := 78) rfl))) (mvT hZ55 (hw _ (List.mem_of_getElem? (i := 79) rfl))) (notFace_of_selects (args := #[]) (mvT hZ55 (hw _ (List.mem_of_getElem? (i := 81) rfl)))) (mvT hZ55 (hw _ (List.mem_of_getElem? (i := 81) rfl))) (mvT hZ55 (hw _ (List.mem_of_getElem? (i := 80) rfl))) (by decide) (backOf (W := 0) (rmEN l Z a0 hw [] x T55.heap n0 z56 ) hZ55 (hw _ (List.mem_of_getElem? (i := 82) rfl)) (hw _ (List.mem_of_getElem? (i := 2) rfl)) (by decide) (by decide)) q59a q59c (g := (mkF m 357 #[.val (.int p0), .val (.int p1), .val (.int p2), .val (.int p3), .val (.int p4), .val (.int b5), .val (.int b6), .val (.int b7), .val (.int b8), .val (.int b9), .val (.int v10), .val (.int v11), .val (.int v12), .val (.int v13), .val (.int v14), .val (.int v15), .val (.int v16), .val (.int v17), .val (.int v18), .val (.int v19), .val (.int v20), .val (.int v21), .val (.int v22), .val (.int v23), .val (.int v24), .val (.int v25), .val (.ref x), .val (.int v27), .unset, .unset] [.null, (.ref x)])) rfl (by rw [hml]; rfl) (Steps.refl _) (argsL := [.null]) (rest := []) (lenOf pd_7 rfl) rfl (by show 2 * 0 + _ ≤ _; exact Nat.le_of_eq rfl) (hb hby at_357) (fun _ _ => ⟨rfl, rfl, (by decide : 18 + 0 ≤ _), (by decide : 157 + 0 ≤ _)⟩)
    dsimp only [Pt.U, Pt.locs, Pt.cells, Pt.slots] at X59 l59 y59 z59 st59 hQ59
    subst l59 y59 z59
    obtain ⟨rfl, N59q, e59⟩ := hQ59
    have N59 := Fr.app N55 N59q
    have go59 : ∀ tgt, Steps p.tables e below (T59.setTop (mkF m 360 #[.val (.int p0), .val (.int p1), .val (.int p2), .val (.int p3), .val (.int p4), .val (.int b5), .val (.int b6), .val (.int b7), .val (.int b8), .val (.int b9), .val (.int v10), .val (.int v11), .val (.int v12), .val (.int v13), .val (.int v14), .val (.int v15), .val (.int v16), .val (.int v17), .val (.int v18), .val (.int v19), .val (.int v20), .val (.int v21), .val (.int v22), .val (.int v23), .val (.int v24), .val (.int v25), .val (.ref x), .val (.int v27), .unset, .unset] [(.int (0 : Int32))])) tgt → Steps p.tables e below E0 tgt := fun tgt kont => go58 tgt (st59.trans kont)
    have go60 : ∀ tgt, Steps p.tables e below (T59.setTop (mkF m 368 #[.val (.int p0), .val (.int p1), .val (.int p2), .val (.int p3), .val (.int p4), .val (.int b5), .val (.int b6), .val (.int b7), .val (.int b8), .val (.int b9), .val (.int v10), .val (.int v11), .val (.int v12), .val (.int v13), .val (.int v14), .val (.int v15), .val (.int v16), .val (.int v17), .val (.int v18), .val (.int v19), .val (.int v20), .val (.int v21), .val (.int v22), .val (.int v23), .val (.int v24), .val (.int v25), .val (.ref x), .val (.int v27), .unset, .unset] [(.int (1 : Int32))])) tgt → Steps p.tables e below E0 tgt := fun tgt kont => go59 tgt (by
      show Steps p.tables e below (T59.setTop (mkF m 360 #[.val (.int p0), .val (.int p1), .val (.int p2), .val (.int p3), .val (.int p4), .val (.int b5), .val (.int b6), .val (.int b7), .val (.int b8), .val (.int b9), .val (.int v10), .val (.int v11), .val (.int v12), .val (.int v13), .val (.int v14), .val (.int v15), .val (.int v16), .val (.int v17), .val (.int v18), .val (.int v19), .val (.int v20), .val (.int v21), .val (.int v22), .val (.int v23), .val (.int v24), .val (.int v25), .val (.ref x), .val (.int v27), .unset, .unset] [(.int (0 : Int32))])) tgt
      refine XS.ifNo X59.here hx rfl (hb hby at_360) rfl ((if0 _ _).trans (teq rfl).2) ?_
      show Steps p.tables e below (T59.setTop (mkF m 363 #[.val (.int p0), .val (.int p1), .val (.int p2), .val (.int p3), .val (.int p4), .val (.int b5), .val (.int b6), .val (.int b7), .val (.int b8), .val (.int b9), .val (.int v10), .val (.int v11), .val (.int v12), .val (.int v13), .val (.int v14), .val (.int v15), .val (.int v16), .val (.int v17), .val (.int v18), .val (.int v19), .val (.int v20), .val (.int v21), .val (.int v22), .val (.int v23), .val (.int v24), .val (.int v25), .val (.ref x), .val (.int v27), .unset, .unset] [])) tgt
      refine XS.iconst X59.here hx rfl (hb hby at_363) ?_
      show Steps p.tables e below (T59.setTop (mkF m 364 #[.val (.int p0), .val (.int p1), .val (.int p2), .val (.int p3), .val (.int p4), .val (.int b5), .val (.int b6), .val (.int b7), .val (.int b8), .val (.int b9), .val (.int v10), .val (.int v11), .val (.int v12), .val (.int v13), .val (.int v14), .val (.int v15), .val (.int v16), .val (.int v17), .val (.int v18), .val (.int v19), .val (.int v20), .val (.int v21), .val (.int v22), .val (.int v23), .val (.int v24), .val (.int v25), .val (.ref x), .val (.int v27), .unset, .unset] [(.int (1 : Int32))])) tgt
      refine XS.goto X59.here hx rfl (pc0 := 364) (pc' := 368) rfl (hb hby at_364) (by decide) (by decide) ?_
      exact kont)
    obtain ⟨fs, hr, hrun, hended, hW⟩ := X59.leaveW hS55 (by rw [e59]; exact (Nat.le_refl _)) (v := some (.int (1 : Int32))) (fun h => by rw [Bd.returns] at h; cases h)
    refine ⟨_, _, go60 _ ?_, hrun, hended, _, _, rfl, ?_, hW.1, hW.2.1, hW.2.2.1, hW.2.2.2.mono (by decide) (by decide)⟩
    · show Steps p.tables e below (T59.setTop (mkF m 368 #[.val (.int p0), .val (.int p1), .val (.int p2), .val (.int p3), .val (.int p4), .val (.int b5), .val (.int b6), .val (.int b7), .val (.int b8), .val (.int b9), .val (.int v10), .val (.int v11), .val (.int v12), .val (.int v13), .val (.int v14), .val (.int v15), .val (.int v16), .val (.int v17), .val (.int v18), .val (.int v19), .val (.int v20), .val (.int v21), .val (.int v22), .val (.int v23), .val (.int v24), .val (.int v25), .val (.ref x), .val (.int v27), .unset, .unset] [(.int (1 : Int32))])) _
      exact retN X59 hx (t := .boolean) Bd.returns (by simp) (hb hby at_368) hr
    · show QL Z p0 p1 p2 p3 p4 G g0 g1 g2 r0 r1 r2 h0 n0 _ T59.heap _
      rw [e59]
      exact ⟨rfl, N59⟩
  · have go61 : ∀ tgt, Steps p.tables e below (T55.setTop (mkF m 372 #[.val (.int p0), .val (.int p1), .val (.int p2), .val (.int p3), .val (.int p4), .val (.int b5), .val (.int b6), .val (.int b7), .val (.int b8), .val (.int b9), .val (.int v10), .val (.int v11), .val (.int v12), .val (.int v13), .val (.int v14), .val (.int v15), .val (.int v16), .val (.int v17), .val (.int v18), .val (.int v19), .val (.int v20), .val (.int v21), .val (.int v22), .val (.int v23), .val (.int v24), .val (.int v25), .val (.ref x), .val (.int v27), .unset, .unset] [(.int (1 : Int32)), (.int v27)])) tgt → Steps p.tables e below E0 tgt := fun tgt kont => go57 tgt (by
      show Steps p.tables e below (T55.setTop (mkF m 349 #[.val (.int p0), .val (.int p1), .val (.int p2), .val (.int p3), .val (.int p4), .val (.int b5), .val (.int b6), .val (.int b7), .val (.int b8), .val (.int b9), .val (.int v10), .val (.int v11), .val (.int v12), .val (.int v13), .val (.int v14), .val (.int v15), .val (.int v16), .val (.int v17), .val (.int v18), .val (.int v19), .val (.int v20), .val (.int v21), .val (.int v22), .val (.int v23), .val (.int v24), .val (.int v25), .val (.ref x), .val (.int v27), .unset, .unset] [])) tgt
      refine XS.iload X55.here hx rfl (hb hby at_349) rfl ?_
      show Steps p.tables e below (T55.setTop (mkF m 351 #[.val (.int p0), .val (.int p1), .val (.int p2), .val (.int p3), .val (.int p4), .val (.int b5), .val (.int b6), .val (.int b7), .val (.int b8), .val (.int b9), .val (.int v10), .val (.int v11), .val (.int v12), .val (.int v13), .val (.int v14), .val (.int v15), .val (.int v16), .val (.int v17), .val (.int v18), .val (.int v19), .val (.int v20), .val (.int v21), .val (.int v22), .val (.int v23), .val (.int v24), .val (.int v25), .val (.ref x), .val (.int v27), .unset, .unset] [(.int v27)])) tgt
      refine XS.ifYes X55.here hx rfl (pc0 := 351) (pc' := 369) rfl (hb hby at_351) rfl ((if0 _ _).trans (feq m0).2) (by decide) (by decide) ?_
      show Steps p.tables e below (T55.setTop (mkF m 369 #[.val (.int p0), .val (.int p1), .val (.int p2), .val (.int p3), .val (.int p4), .val (.int b5), .val (.int b6), .val (.int b7), .val (.int b8), .val (.int b9), .val (.int v10), .val (.int v11), .val (.int v12), .val (.int v13), .val (.int v14), .val (.int v15), .val (.int v16), .val (.int v17), .val (.int v18), .val (.int v19), .val (.int v20), .val (.int v21), .val (.int v22), .val (.int v23), .val (.int v24), .val (.int v25), .val (.ref x), .val (.int v27), .unset, .unset] [])) tgt
      refine XS.iload X55.here hx rfl (hb hby at_369) rfl ?_
      show Steps p.tables e below (T55.setTop (mkF m 371 #[.val (.int p0), .val (.int p1), .val (.int p2), .val (.int p3), .val (.int p4), .val (.int b5), .val (.int b6), .val (.int b7), .val (.int b8), .val (.int b9), .val (.int v10), .val (.int v11), .val (.int v12), .val (.int v13), .val (.int v14), .val (.int v15), .val (.int v16), .val (.int v17), .val (.int v18), .val (.int v19), .val (.int v20), .val (.int v21), .val (.int v22), .val (.int v23), .val (.int v24), .val (.int v25), .val (.ref x), .val (.int v27), .unset, .unset] [(.int v27)])) tgt
      refine XS.iconst X55.here hx rfl (hb hby at_371) ?_
      exact kont)
    by_cases m1 : v27 = (1 : Int32)
    · have f62 : Old Z n0 T55.heap := (f46.keep Kx (allS ge_x all0))
      have go63 : ∀ tgt, Steps p.tables e below (T55.setTop (mkF m 381 #[.val (.int p0), .val (.int p1), .val (.int p2), .val (.int p3), .val (.int p4), .val (.int b5), .val (.int b6), .val (.int b7), .val (.int b8), .val (.int b9), .val (.int v10), .val (.int v11), .val (.int v12), .val (.int v13), .val (.int v14), .val (.int v15), .val (.int v16), .val (.int v17), .val (.int v18), .val (.int v19), .val (.int v20), .val (.int v21), .val (.int v22), .val (.int v23), .val (.int v24), .val (.int v25), .val (.ref x), .val (.int v27), .unset, .unset] [(.int v11), (.int v10), (.ref x)])) tgt → Steps p.tables e below E0 tgt := fun tgt kont => go61 tgt (by
        show Steps p.tables e below (T55.setTop (mkF m 372 #[.val (.int p0), .val (.int p1), .val (.int p2), .val (.int p3), .val (.int p4), .val (.int b5), .val (.int b6), .val (.int b7), .val (.int b8), .val (.int b9), .val (.int v10), .val (.int v11), .val (.int v12), .val (.int v13), .val (.int v14), .val (.int v15), .val (.int v16), .val (.int v17), .val (.int v18), .val (.int v19), .val (.int v20), .val (.int v21), .val (.int v22), .val (.int v23), .val (.int v24), .val (.int v25), .val (.ref x), .val (.int v27), .unset, .unset] [(.int (1 : Int32)), (.int v27)])) tgt
        refine XS.icmpNo X55.here hx rfl (hb hby at_372) rfl (teq m1).2 ?_
        show Steps p.tables e below (T55.setTop (mkF m 375 #[.val (.int p0), .val (.int p1), .val (.int p2), .val (.int p3), .val (.int p4), .val (.int b5), .val (.int b6), .val (.int b7), .val (.int b8), .val (.int b9), .val (.int v10), .val (.int v11), .val (.int v12), .val (.int v13), .val (.int v14), .val (.int v15), .val (.int v16), .val (.int v17), .val (.int v18), .val (.int v19), .val (.int v20), .val (.int v21), .val (.int v22), .val (.int v23), .val (.int v24), .val (.int v25), .val (.ref x), .val (.int v27), .unset, .unset] [])) tgt
        refine XS.aload X55.here hx rfl (hb hby at_375) rfl rfl ?_
        show Steps p.tables e below (T55.setTop (mkF m 377 #[.val (.int p0), .val (.int p1), .val (.int p2), .val (.int p3), .val (.int p4), .val (.int b5), .val (.int b6), .val (.int b7), .val (.int b8), .val (.int b9), .val (.int v10), .val (.int v11), .val (.int v12), .val (.int v13), .val (.int v14), .val (.int v15), .val (.int v16), .val (.int v17), .val (.int v18), .val (.int v19), .val (.int v20), .val (.int v21), .val (.int v22), .val (.int v23), .val (.int v24), .val (.int v25), .val (.ref x), .val (.int v27), .unset, .unset] [(.ref x)])) tgt
        refine XS.iload X55.here hx rfl (hb hby at_377) rfl ?_
        show Steps p.tables e below (T55.setTop (mkF m 379 #[.val (.int p0), .val (.int p1), .val (.int p2), .val (.int p3), .val (.int p4), .val (.int b5), .val (.int b6), .val (.int b7), .val (.int b8), .val (.int b9), .val (.int v10), .val (.int v11), .val (.int v12), .val (.int v13), .val (.int v14), .val (.int v15), .val (.int v16), .val (.int v17), .val (.int v18), .val (.int v19), .val (.int v20), .val (.int v21), .val (.int v22), .val (.int v23), .val (.int v24), .val (.int v25), .val (.ref x), .val (.int v27), .unset, .unset] [(.int v10), (.ref x)])) tgt
        refine XS.iload X55.here hx rfl (hb hby at_379) rfl ?_
        exact kont)
      obtain ⟨_, _, ⟨T64, L64, k64, n64⟩, -, X64, ⟨Lc64, hQ64, l64, y64, z64⟩, st64⟩ := Jvm.LawKit.callS X55 hx (y := (⟨"bourseline/model/MemberSessionEqualsPinLaw", "str", "(II)Ljava/lang/String;"⟩ : MethodName)) hown55 (mvT hZ55 (hw _ (List.mem_of_getElem? (i := 3) rfl))) (mvT hZ55 (hw _ (List.mem_of_getElem? (i := 4) rfl))) (mvT hZ55 (hw _ (List.mem_of_getElem? (i := 5) rfl))) (mvT hZ55 (hw _ (List.mem_of_getElem? (i := 6) rfl))) (by decide) (backOf (W := 1) (rmSR l Z a0 hw [] v10 v11 G T55.heap n0 z56 r10 r11 SC hG f62) hZ55 (hw _ (List.mem_of_getElem? (i := 6) rfl)) (hw _ (List.mem_of_getElem? (i := 5) rfl)) (by decide) (by decide)) (g := (mkF m 381 #[.val (.int p0), .val (.int p1), .val (.int p2), .val (.int p3), .val (.int p4), .val (.int b5), .val (.int b6), .val (.int b7), .val (.int b8), .val (.int b9), .val (.int v10), .val (.int v11), .val (.int v12), .val (.int v13), .val (.int v14), .val (.int v15), .val (.int v16), .val (.int v17), .val (.int v18), .val (.int v19), .val (.int v20), .val (.int v21), .val (.int v22), .val (.int v23), .val (.int v24), .val (.int v25), .val (.ref x), .val (.int v27), .unset, .unset] [(.int v11), (.int v10), (.ref x)])) rfl (by rw [hml]; rfl) (argsL := [(.int v10), (.int v11)]) (rest := [(.ref x)]) (lenOf pd_8 rfl) rfl (by show 2 * 0 + _ ≤ _; exact Nat.le_of_eq rfl) (hb hby at_381) (fun _ _ => ⟨rfl, rfl, (by decide : 18 + 3 ≤ _), (by decide : 157 + 8 ≤ _)⟩)
      dsimp only [Pt.U, Pt.locs, Pt.cells, Pt.slots] at X64 l64 y64 z64 st64 hQ64
      subst l64 y64 z64
      obtain ⟨rfl, N64q, Ksg, Esg, Csg, tsg, ksg, ltsg, gtsg, Vsg, Asg⟩ := hQ64
      have N64 := Fr.app N55 N64q
      obtain ⟨sg, g64⟩ : ∃ z, z = T55.heap.size := ⟨_, rfl⟩
      rw [← g64] at st64 Esg Csg Vsg ltsg
      have ne_x_sg : x ≠ sg := Nat.ne_of_lt (Nat.lt_of_lt_of_le (Nat.lt_of_lt_of_le A30.lt (Nat.le_trans (Nat.le_trans (Nat.le_trans Ksa.1 Ksb.1) Ksc.1) Kx.1)) (Nat.le_of_eq g64.symm))
      have ne_sa_sg : sa ≠ sg := Nat.ne_of_lt (Nat.lt_of_lt_of_le (Nat.lt_of_lt_of_le Esa.lt (Nat.le_trans (Nat.le_trans Ksb.1 Ksc.1) Kx.1)) (Nat.le_of_eq g64.symm))
      have ne_tsa_sg : tsa ≠ sg := Nat.ne_of_lt (Nat.lt_of_lt_of_le (Nat.lt_of_lt_of_le Asa.lt (Nat.le_trans (Nat.le_trans Ksb.1 Ksc.1) Kx.1)) (Nat.le_of_eq g64.symm))
      have ne_sb_sg : sb ≠ sg := Nat.ne_of_lt (Nat.lt_of_lt_of_le (Nat.lt_of_lt_of_le Esb.lt (Nat.le_trans Ksc.1 Kx.1)) (Nat.le_of_eq g64.symm))
      have ne_tsb_sg : tsb ≠ sg := Nat.ne_of_lt (Nat.lt_of_lt_of_le (Nat.lt_of_lt_of_le Asb.lt (Nat.le_trans Ksc.1 Kx.1)) (Nat.le_of_eq g64.symm))
      have ne_sc_sg : sc ≠ sg := Nat.ne_of_lt (Nat.lt_of_lt_of_le (Nat.lt_of_lt_of_le Esc.lt Kx.1) (Nat.le_of_eq g64.symm))
      have ne_tsc_sg : tsc ≠ sg := Nat.ne_of_lt (Nat.lt_of_lt_of_le (Nat.lt_of_lt_of_le Asc.lt Kx.1) (Nat.le_of_eq g64.symm))
      have ge_sg : n0 ≤ sg := Nat.le_trans z56 (Nat.le_of_eq g64.symm)
      have z65 : n0 ≤ T64.heap.size := Nat.le_trans z56 Ksg.1
      have go64 : ∀ tgt, Steps p.tables e below (T64.setTop (mkF m 384 #[.val (.int p0), .val (.int p1), .val (.int p2), .val (.int p3), .val (.int p4), .val (.int b5), .val (.int b6), .val (.int b7), .val (.int b8), .val (.int b9), .val (.int v10), .val (.int v11), .val (.int v12), .val (.int v13), .val (.int v14), .val (.int v15), .val (.int v16), .val (.int v17), .val (.int v18), .val (.int v19), .val (.int v20), .val (.int v21), .val (.int v22), .val (.int v23), .val (.int v24), .val (.int v25), .val (.ref x), .val (.int v27), .unset, .unset] [(.ref sg), (.ref x)])) tgt → Steps p.tables e below E0 tgt := fun tgt kont => go63 tgt (st64 tgt kont)
      have ne_x_tsg : x ≠ tsg := Nat.ne_of_lt (Nat.lt_trans (Nat.lt_of_lt_of_le (Nat.lt_of_lt_of_le A30.lt (Nat.le_trans (Nat.le_trans (Nat.le_trans Ksa.1 Ksb.1) Ksc.1) Kx.1)) (Nat.le_of_eq g64.symm)) ltsg)
      have ne_sa_tsg : sa ≠ tsg := Nat.ne_of_lt (Nat.lt_trans (Nat.lt_of_lt_of_le (Nat.lt_of_lt_of_le Esa.lt (Nat.le_trans (Nat.le_trans Ksb.1 Ksc.1) Kx.1)) (Nat.le_of_eq g64.symm)) ltsg)
      have ne_tsa_tsg : tsa ≠ tsg := Nat.ne_of_lt (Nat.lt_trans (Nat.lt_of_lt_of_le (Nat.lt_of_lt_of_le Asa.lt (Nat.le_trans (Nat.le_trans Ksb.1 Ksc.1) Kx.1)) (Nat.le_of_eq g64.symm)) ltsg)
      have ne_sb_tsg : sb ≠ tsg := Nat.ne_of_lt (Nat.lt_trans (Nat.lt_of_lt_of_le (Nat.lt_of_lt_of_le Esb.lt (Nat.le_trans Ksc.1 Kx.1)) (Nat.le_of_eq g64.symm)) ltsg)
      have ne_tsb_tsg : tsb ≠ tsg := Nat.ne_of_lt (Nat.lt_trans (Nat.lt_of_lt_of_le (Nat.lt_of_lt_of_le Asb.lt (Nat.le_trans Ksc.1 Kx.1)) (Nat.le_of_eq g64.symm)) ltsg)
      have ne_sc_tsg : sc ≠ tsg := Nat.ne_of_lt (Nat.lt_trans (Nat.lt_of_lt_of_le (Nat.lt_of_lt_of_le Esc.lt Kx.1) (Nat.le_of_eq g64.symm)) ltsg)
      have ne_tsc_tsg : tsc ≠ tsg := Nat.ne_of_lt (Nat.lt_trans (Nat.lt_of_lt_of_le (Nat.lt_of_lt_of_le Asc.lt Kx.1) (Nat.le_of_eq g64.symm)) ltsg)
      have hpsg := own_two r10 r11
      have f67 : Exa Z T64.heap x "bourseline/model/MemberSession" := (Ex.keep Ksg)
      obtain ⟨cq66, kq66, q66a, q66b, q66c⟩ := isOf hZ55 rfl f67
      obtain ⟨_, _, ⟨T66, L66, k66, n66⟩, -, X66, ⟨Lc66, hQ66, l66, y66, z66⟩, st66⟩ := X64.virtualBack hx (y := (⟨"bourseline/model/MemberSession", "equals", "(Ljava/lang/Object;)Z"⟩ : MethodName)) (z := (⟨"bourseline/model/MemberSession", "equals", "(Ljava/lang/Object;)Z"⟩ : MethodName)) hown55 (mvT hZ55 (hw _ (List.mem_of_getElem? (i := 78) rfl))) (mvT hZ55 (hw _ (List.mem_of_getElem? (i := 79) rfl))) (notFace_of_selects (args := #[]) (mvT hZ55 (hw _ (List.mem_of_getElem? (i := 81) rfl)))) (mvT hZ55 (hw _ (List.mem_of_getElem? (i := 81) rfl))) (mvT hZ55 (hw _ (List.mem_of_getElem? (i := 80) rfl))) (by decide) (backOf (W := 0) (rmES l Z a0 hw [] x sg T64.heap n0 z65 Esg) hZ55 (hw _ (List.mem_of_getElem? (i := 82) rfl)) (hw _ (List.mem_of_getElem? (i := 2) rfl)) (by decide) (by decide)) q66a q66c (g := (mkF m 384 #[.val (.int p0), .val (.int p1), .val (.int p2), .val (.int p3), .val (.int p4), .val (.int b5), .val (.int b6), .val (.int b7), .val (.int b8), .val (.int b9), .val (.int v10), .val (.int v11), .val (.int v12), .val (.int v13), .val (.int v14), .val (.int v15), .val (.int v16), .val (.int v17), .val (.int v18), .val (.int v19), .val (.int v20), .val (.int v21), .val (.int v22), .val (.int v23), .val (.int v24), .val (.int v25), .val (.ref x), .val (.int v27), .unset, .unset] [(.ref sg), (.ref x)])) rfl (by rw [hml]; rfl) (Steps.refl _) (argsL := [(.ref sg)]) (rest := []) (lenOf pd_7 rfl) rfl (by show 2 * 0 + _ ≤ _; exact Nat.le_of_eq rfl) (hb hby at_384) (fun _ _ => ⟨rfl, rfl, (by decide : 21 + 0 ≤ _), (by decide : 165 + 0 ≤ _)⟩)
      dsimp only [Pt.U, Pt.locs, Pt.cells, Pt.slots] at X66 l66 y66 z66 st66 hQ66
      subst l66 y66 z66
      obtain ⟨rfl, N66q, e66⟩ := hQ66
      have N66 := Fr.app N64 N66q
      have go66 : ∀ tgt, Steps p.tables e below (T66.setTop (mkF m 387 #[.val (.int p0), .val (.int p1), .val (.int p2), .val (.int p3), .val (.int p4), .val (.int b5), .val (.int b6), .val (.int b7), .val (.int b8), .val (.int b9), .val (.int v10), .val (.int v11), .val (.int v12), .val (.int v13), .val (.int v14), .val (.int v15), .val (.int v16), .val (.int v17), .val (.int v18), .val (.int v19), .val (.int v20), .val (.int v21), .val (.int v22), .val (.int v23), .val (.int v24), .val (.int v25), .val (.ref x), .val (.int v27), .unset, .unset] [(.int (0 : Int32))])) tgt → Steps p.tables e below E0 tgt := fun tgt kont => go64 tgt (st66.trans kont)
      have go68 : ∀ tgt, Steps p.tables e below (T66.setTop (mkF m 395 #[.val (.int p0), .val (.int p1), .val (.int p2), .val (.int p3), .val (.int p4), .val (.int b5), .val (.int b6), .val (.int b7), .val (.int b8), .val (.int b9), .val (.int v10), .val (.int v11), .val (.int v12), .val (.int v13), .val (.int v14), .val (.int v15), .val (.int v16), .val (.int v17), .val (.int v18), .val (.int v19), .val (.int v20), .val (.int v21), .val (.int v22), .val (.int v23), .val (.int v24), .val (.int v25), .val (.ref x), .val (.int v27), .unset, .unset] [(.int (1 : Int32))])) tgt → Steps p.tables e below E0 tgt := fun tgt kont => go66 tgt (by
        show Steps p.tables e below (T66.setTop (mkF m 387 #[.val (.int p0), .val (.int p1), .val (.int p2), .val (.int p3), .val (.int p4), .val (.int b5), .val (.int b6), .val (.int b7), .val (.int b8), .val (.int b9), .val (.int v10), .val (.int v11), .val (.int v12), .val (.int v13), .val (.int v14), .val (.int v15), .val (.int v16), .val (.int v17), .val (.int v18), .val (.int v19), .val (.int v20), .val (.int v21), .val (.int v22), .val (.int v23), .val (.int v24), .val (.int v25), .val (.ref x), .val (.int v27), .unset, .unset] [(.int (0 : Int32))])) tgt
        refine XS.ifNo X66.here hx rfl (hb hby at_387) rfl ((if0 _ _).trans (teq rfl).2) ?_
        show Steps p.tables e below (T66.setTop (mkF m 390 #[.val (.int p0), .val (.int p1), .val (.int p2), .val (.int p3), .val (.int p4), .val (.int b5), .val (.int b6), .val (.int b7), .val (.int b8), .val (.int b9), .val (.int v10), .val (.int v11), .val (.int v12), .val (.int v13), .val (.int v14), .val (.int v15), .val (.int v16), .val (.int v17), .val (.int v18), .val (.int v19), .val (.int v20), .val (.int v21), .val (.int v22), .val (.int v23), .val (.int v24), .val (.int v25), .val (.ref x), .val (.int v27), .unset, .unset] [])) tgt
        refine XS.iconst X66.here hx rfl (hb hby at_390) ?_
        show Steps p.tables e below (T66.setTop (mkF m 391 #[.val (.int p0), .val (.int p1), .val (.int p2), .val (.int p3), .val (.int p4), .val (.int b5), .val (.int b6), .val (.int b7), .val (.int b8), .val (.int b9), .val (.int v10), .val (.int v11), .val (.int v12), .val (.int v13), .val (.int v14), .val (.int v15), .val (.int v16), .val (.int v17), .val (.int v18), .val (.int v19), .val (.int v20), .val (.int v21), .val (.int v22), .val (.int v23), .val (.int v24), .val (.int v25), .val (.ref x), .val (.int v27), .unset, .unset] [(.int (1 : Int32))])) tgt
        refine XS.goto X66.here hx rfl (pc0 := 391) (pc' := 395) rfl (hb hby at_391) (by decide) (by decide) ?_
        exact kont)
      obtain ⟨fs, hr, hrun, hended, hW⟩ := X66.leaveW hS55 (by rw [e66]; exact (Nat.le_trans (Nat.le_refl _) Ksg.1)) (v := some (.int (1 : Int32))) (fun h => by rw [Bd.returns] at h; cases h)
      refine ⟨_, _, go68 _ ?_, hrun, hended, _, _, rfl, ?_, hW.1, hW.2.1, hW.2.2.1, hW.2.2.2.mono (by decide) (by decide)⟩
      · show Steps p.tables e below (T66.setTop (mkF m 395 #[.val (.int p0), .val (.int p1), .val (.int p2), .val (.int p3), .val (.int p4), .val (.int b5), .val (.int b6), .val (.int b7), .val (.int b8), .val (.int b9), .val (.int v10), .val (.int v11), .val (.int v12), .val (.int v13), .val (.int v14), .val (.int v15), .val (.int v16), .val (.int v17), .val (.int v18), .val (.int v19), .val (.int v20), .val (.int v21), .val (.int v22), .val (.int v23), .val (.int v24), .val (.int v25), .val (.ref x), .val (.int v27), .unset, .unset] [(.int (1 : Int32))])) _
        exact retN X66 hx (t := .boolean) Bd.returns (by simp) (hb hby at_395) hr
      · show QL Z p0 p1 p2 p3 p4 G g0 g1 g2 r0 r1 r2 h0 n0 _ T66.heap _
        rw [e66]
        exact ⟨rfl, N66⟩
    · have go69 : ∀ tgt, Steps p.tables e below (T55.setTop (mkF m 399 #[.val (.int p0), .val (.int p1), .val (.int p2), .val (.int p3), .val (.int p4), .val (.int b5), .val (.int b6), .val (.int b7), .val (.int b8), .val (.int b9), .val (.int v10), .val (.int v11), .val (.int v12), .val (.int v13), .val (.int v14), .val (.int v15), .val (.int v16), .val (.int v17), .val (.int v18), .val (.int v19), .val (.int v20), .val (.int v21), .val (.int v22), .val (.int v23), .val (.int v24), .val (.int v25), .val (.ref x), .val (.int v27), .unset, .unset] [(.int (2 : Int32)), (.int v27)])) tgt → Steps p.tables e below E0 tgt := fun tgt kont => go61 tgt (by
        show Steps p.tables e below (T55.setTop (mkF m 372 #[.val (.int p0), .val (.int p1), .val (.int p2), .val (.int p3), .val (.int p4), .val (.int b5), .val (.int b6), .val (.int b7), .val (.int b8), .val (.int b9), .val (.int v10), .val (.int v11), .val (.int v12), .val (.int v13), .val (.int v14), .val (.int v15), .val (.int v16), .val (.int v17), .val (.int v18), .val (.int v19), .val (.int v20), .val (.int v21), .val (.int v22), .val (.int v23), .val (.int v24), .val (.int v25), .val (.ref x), .val (.int v27), .unset, .unset] [(.int (1 : Int32)), (.int v27)])) tgt
        refine XS.icmpYes X55.here hx rfl (pc0 := 372) (pc' := 396) rfl (hb hby at_372) rfl (feq m1).2 (by decide) (by decide) ?_
        show Steps p.tables e below (T55.setTop (mkF m 396 #[.val (.int p0), .val (.int p1), .val (.int p2), .val (.int p3), .val (.int p4), .val (.int b5), .val (.int b6), .val (.int b7), .val (.int b8), .val (.int b9), .val (.int v10), .val (.int v11), .val (.int v12), .val (.int v13), .val (.int v14), .val (.int v15), .val (.int v16), .val (.int v17), .val (.int v18), .val (.int v19), .val (.int v20), .val (.int v21), .val (.int v22), .val (.int v23), .val (.int v24), .val (.int v25), .val (.ref x), .val (.int v27), .unset, .unset] [])) tgt
        refine XS.iload X55.here hx rfl (hb hby at_396) rfl ?_
        show Steps p.tables e below (T55.setTop (mkF m 398 #[.val (.int p0), .val (.int p1), .val (.int p2), .val (.int p3), .val (.int p4), .val (.int b5), .val (.int b6), .val (.int b7), .val (.int b8), .val (.int b9), .val (.int v10), .val (.int v11), .val (.int v12), .val (.int v13), .val (.int v14), .val (.int v15), .val (.int v16), .val (.int v17), .val (.int v18), .val (.int v19), .val (.int v20), .val (.int v21), .val (.int v22), .val (.int v23), .val (.int v24), .val (.int v25), .val (.ref x), .val (.int v27), .unset, .unset] [(.int v27)])) tgt
        refine XS.iconst X55.here hx rfl (hb hby at_398) ?_
        exact kont)
      by_cases m2 : v27 = (2 : Int32)
      · have f70 : Exa Z T55.heap sa "java/lang/String" := (((Esa.keep Ksb).keep Ksc).keep Kx)
        have f71 : Fld Z T55.heap sa "java/lang/String" "value" "[B" (.ref tsa) := (((Vsa.keep Ksb nin0).keep Ksc nin0).keep Kx (ninS (Ne.symm ne_x_sa) nin0))
        have f72 : Fld Z T55.heap sa "java/lang/String" "coder" "B" (.int (0 : Int32)) := (((Csa.keep Ksb nin0).keep Ksc nin0).keep Kx (ninS (Ne.symm ne_x_sa) nin0))
        have f73 : Arv Z T55.heap tsa ksa .byte (2 : Int32) ((([v10, v11] : List Int32).map (fun c => c.toInt8.toInt32)).map Value.int) (.int (0 : Int32)) := (((Asa.keep Ksb nin0).keep Ksc nin0).keep Kx (ninS (Ne.symm ne_x_tsa) nin0))
        have f74 : Exa Z T55.heap sb "java/lang/String" := ((Esb.keep Ksc).keep Kx)
        have f75 : Fld Z T55.heap sb "java/lang/String" "value" "[B" (.ref tsb) := ((Vsb.keep Ksc nin0).keep Kx (ninS (Ne.symm ne_x_sb) nin0))
        have f76 : Fld Z T55.heap sb "java/lang/String" "coder" "B" (.int (0 : Int32)) := ((Csb.keep Ksc nin0).keep Kx (ninS (Ne.symm ne_x_sb) nin0))
        have f77 : Arv Z T55.heap tsb ksb .byte (2 : Int32) ((([v14, v15] : List Int32).map (fun c => c.toInt8.toInt32)).map Value.int) (.int (0 : Int32)) := ((Asb.keep Ksc nin0).keep Kx (ninS (Ne.symm ne_x_tsb) nin0))
        have f78 : Exa Z T55.heap sc "java/lang/String" := (Esc.keep Kx)
        have f79 : Fld Z T55.heap sc "java/lang/String" "value" "[B" (.ref tsc) := (Vsc.keep Kx (ninS (Ne.symm ne_x_sc) nin0))
        have f80 : Fld Z T55.heap sc "java/lang/String" "coder" "B" (.int (0 : Int32)) := (Csc.keep Kx (ninS (Ne.symm ne_x_sc) nin0))
        have f81 : Arv Z T55.heap tsc ksc .byte (2 : Int32) ((([v18, v19] : List Int32).map (fun c => c.toInt8.toInt32)).map Value.int) (.int (0 : Int32)) := (Asc.keep Kx (ninS (Ne.symm ne_x_tsc) nin0))
        have f82 : Old Z n0 T55.heap := (f46.keep Kx (allS ge_x all0))
        have go83 : ∀ tgt, Steps p.tables e below (T55.setTop (mkF m 406 #[.val (.int p0), .val (.int p1), .val (.int p2), .val (.int p3), .val (.int p4), .val (.int b5), .val (.int b6), .val (.int b7), .val (.int b8), .val (.int b9), .val (.int v10), .val (.int v11), .val (.int v12), .val (.int v13), .val (.int v14), .val (.int v15), .val (.int v16), .val (.int v17), .val (.int v18), .val (.int v19), .val (.int v20), .val (.int v21), .val (.int v22), .val (.int v23), .val (.int v24), .val (.int v25), .val (.ref x), .val (.int v27), .unset, .unset] [(.ref x), (.ref x)])) tgt → Steps p.tables e below E0 tgt := fun tgt kont => go69 tgt (by
          show Steps p.tables e below (T55.setTop (mkF m 399 #[.val (.int p0), .val (.int p1), .val (.int p2), .val (.int p3), .val (.int p4), .val (.int b5), .val (.int b6), .val (.int b7), .val (.int b8), .val (.int b9), .val (.int v10), .val (.int v11), .val (.int v12), .val (.int v13), .val (.int v14), .val (.int v15), .val (.int v16), .val (.int v17), .val (.int v18), .val (.int v19), .val (.int v20), .val (.int v21), .val (.int v22), .val (.int v23), .val (.int v24), .val (.int v25), .val (.ref x), .val (.int v27), .unset, .unset] [(.int (2 : Int32)), (.int v27)])) tgt
          refine XS.icmpNo X55.here hx rfl (hb hby at_399) rfl (teq m2).2 ?_
          show Steps p.tables e below (T55.setTop (mkF m 402 #[.val (.int p0), .val (.int p1), .val (.int p2), .val (.int p3), .val (.int p4), .val (.int b5), .val (.int b6), .val (.int b7), .val (.int b8), .val (.int b9), .val (.int v10), .val (.int v11), .val (.int v12), .val (.int v13), .val (.int v14), .val (.int v15), .val (.int v16), .val (.int v17), .val (.int v18), .val (.int v19), .val (.int v20), .val (.int v21), .val (.int v22), .val (.int v23), .val (.int v24), .val (.int v25), .val (.ref x), .val (.int v27), .unset, .unset] [])) tgt
          refine XS.aload X55.here hx rfl (hb hby at_402) rfl rfl ?_
          show Steps p.tables e below (T55.setTop (mkF m 404 #[.val (.int p0), .val (.int p1), .val (.int p2), .val (.int p3), .val (.int p4), .val (.int b5), .val (.int b6), .val (.int b7), .val (.int b8), .val (.int b9), .val (.int v10), .val (.int v11), .val (.int v12), .val (.int v13), .val (.int v14), .val (.int v15), .val (.int v16), .val (.int v17), .val (.int v18), .val (.int v19), .val (.int v20), .val (.int v21), .val (.int v22), .val (.int v23), .val (.int v24), .val (.int v25), .val (.ref x), .val (.int v27), .unset, .unset] [(.ref x)])) tgt
          refine XS.aload X55.here hx rfl (hb hby at_404) rfl rfl ?_
          exact kont)
        obtain ⟨cq84, kq84, q84a, q84b, q84c⟩ := isOf hZ55 rfl Ex
        obtain ⟨vv84, _, ⟨T84, L84, k84, n84⟩, -, X84, ⟨Lc84, hQ84, l84, y84, z84⟩, st84⟩ := X55.virtualBack hx (y := (⟨"bourseline/model/MemberSession", "equals", "(Ljava/lang/Object;)Z"⟩ : MethodName)) (z := (⟨"bourseline/model/MemberSession", "equals", "(Ljava/lang/Object;)Z"⟩ : MethodName)) hown55 (mvT hZ55 (hw _ (List.mem_of_getElem? (i := 78) rfl))) (mvT hZ55 (hw _ (List.mem_of_getElem? (i := 79) rfl))) (notFace_of_selects (args := #[]) (mvT hZ55 (hw _ (List.mem_of_getElem? (i := 81) rfl)))) (mvT hZ55 (hw _ (List.mem_of_getElem? (i := 81) rfl))) (mvT hZ55 (hw _ (List.mem_of_getElem? (i := 80) rfl))) (by decide) (backOf (W := 0) (rmEM l Z a0 hw [] x x sa tsa ksa v10 v11 sb tsb ksb v14 v15 sc tsc ksc v18 v19 sa tsa ksa v10 v11 sb tsb ksb v14 v15 sc tsc ksc v18 v19 (own_vs g0 g1 g2 v22) (own_vs g0 g1 g2 v22) (own_rl r0 r1 r2 v24) (own_rl r0 r1 r2 v24) G T55.heap n0 z56 (own_rlr r0 r1 r2 v24) (own_rlr r0 r1 r2 v24) Ex Ex Fx0 Fx1 Fx2 Fx3 Fx4 Fx0 Fx1 Fx2 Fx3 Fx4 f70 f71 f72 f73 hpsa f74 f75 f76 f77 hpsb f78 f79 f80 f81 hpsc f70 f71 f72 f73 hpsa f74 f75 f76 f77 hpsb f78 f79 f80 f81 hpsc (SC.ext f82.2) hG) hZ55 (hw _ (List.mem_of_getElem? (i := 82) rfl)) (hw _ (List.mem_of_getElem? (i := 2) rfl)) (by decide) (by decide)) q84a q84c (g := (mkF m 406 #[.val (.int p0), .val (.int p1), .val (.int p2), .val (.int p3), .val (.int p4), .val (.int b5), .val (.int b6), .val (.int b7), .val (.int b8), .val (.int b9), .val (.int v10), .val (.int v11), .val (.int v12), .val (.int v13), .val (.int v14), .val (.int v15), .val (.int v16), .val (.int v17), .val (.int v18), .val (.int v19), .val (.int v20), .val (.int v21), .val (.int v22), .val (.int v23), .val (.int v24), .val (.int v25), .val (.ref x), .val (.int v27), .unset, .unset] [(.ref x), (.ref x)])) rfl (by rw [hml]; rfl) (Steps.refl _) (argsL := [(.ref x)]) (rest := []) (lenOf pd_7 rfl) rfl (by show 2 * 0 + _ ≤ _; exact Nat.le_of_eq rfl) (hb hby at_406) (fun _ _ => ⟨rfl, rfl, (by decide : 18 + 0 ≤ _), (by decide : 157 + 0 ≤ _)⟩)
        dsimp only [Pt.U, Pt.locs, Pt.cells, Pt.slots] at X84 l84 y84 z84 st84 hQ84
        subst l84 y84 z84
        obtain ⟨hv84, N84q, e84⟩ := hQ84
        obtain ⟨rr, rfl, hrr⟩ : ∃ r : Int32, vv84 = some (.int r) ∧ ((r = 1 ∧ ([v10, v11] : List Int32) = ([v10, v11] : List Int32) ∧ ([v14, v15] : List Int32) = ([v14, v15] : List Int32) ∧ (own_vs g0 g1 g2 v22) = (own_vs g0 g1 g2 v22) ∧ ([v18, v19] : List Int32) = ([v18, v19] : List Int32) ∧ (own_rl r0 r1 r2 v24) = (own_rl r0 r1 r2 v24)) ∨ (r = 0 ∧ ¬ (([v10, v11] : List Int32) = ([v10, v11] : List Int32) ∧ ([v14, v15] : List Int32) = ([v14, v15] : List Int32) ∧ (own_vs g0 g1 g2 v22) = (own_vs g0 g1 g2 v22) ∧ ([v18, v19] : List Int32) = ([v18, v19] : List Int32) ∧ (own_rl r0 r1 r2 v24) = (own_rl r0 r1 r2 v24)))) := by
          rcases hv84 with ⟨q, u⟩ | ⟨q, u⟩
          · exact ⟨1, q, Or.inl ⟨rfl, u⟩⟩
          · exact ⟨0, q, Or.inr ⟨rfl, u⟩⟩
        have N84 := Fr.app N55 N84q
        have go84 : ∀ tgt, Steps p.tables e below (T84.setTop (mkF m 409 #[.val (.int p0), .val (.int p1), .val (.int p2), .val (.int p3), .val (.int p4), .val (.int b5), .val (.int b6), .val (.int b7), .val (.int b8), .val (.int b9), .val (.int v10), .val (.int v11), .val (.int v12), .val (.int v13), .val (.int v14), .val (.int v15), .val (.int v16), .val (.int v17), .val (.int v18), .val (.int v19), .val (.int v20), .val (.int v21), .val (.int v22), .val (.int v23), .val (.int v24), .val (.int v25), .val (.ref x), .val (.int v27), .unset, .unset] [(.int rr)])) tgt → Steps p.tables e below E0 tgt := fun tgt kont => go83 tgt (st84.trans kont)
        obtain rfl : rr = 1 := hrr.elim (fun u => u.1) (fun u => absurd ⟨rfl, rfl, rfl, rfl, rfl⟩ u.2)
        obtain ⟨fs, hr, hrun, hended, hW⟩ := X84.leaveW hS55 (by rw [e84]; exact (Nat.le_refl _)) (v := some (.int (1 : Int32))) (fun h => by rw [Bd.returns] at h; cases h)
        refine ⟨_, _, go84 _ ?_, hrun, hended, _, _, rfl, ?_, hW.1, hW.2.1, hW.2.2.1, hW.2.2.2.mono (by decide) (by decide)⟩
        · show Steps p.tables e below (T84.setTop (mkF m 409 #[.val (.int p0), .val (.int p1), .val (.int p2), .val (.int p3), .val (.int p4), .val (.int b5), .val (.int b6), .val (.int b7), .val (.int b8), .val (.int b9), .val (.int v10), .val (.int v11), .val (.int v12), .val (.int v13), .val (.int v14), .val (.int v15), .val (.int v16), .val (.int v17), .val (.int v18), .val (.int v19), .val (.int v20), .val (.int v21), .val (.int v22), .val (.int v23), .val (.int v24), .val (.int v25), .val (.ref x), .val (.int v27), .unset, .unset] [(.int (1 : Int32))])) _
          exact retN X84 hx (t := .boolean) Bd.returns (by simp) (hb hby at_409) hr
        · show QL Z p0 p1 p2 p3 p4 G g0 g1 g2 r0 r1 r2 h0 n0 _ T84.heap _
          rw [e84]
          exact ⟨rfl, N84⟩
      · have go85 : ∀ tgt, Steps p.tables e below (T55.setTop (mkF m 410 #[.val (.int p0), .val (.int p1), .val (.int p2), .val (.int p3), .val (.int p4), .val (.int b5), .val (.int b6), .val (.int b7), .val (.int b8), .val (.int b9), .val (.int v10), .val (.int v11), .val (.int v12), .val (.int v13), .val (.int v14), .val (.int v15), .val (.int v16), .val (.int v17), .val (.int v18), .val (.int v19), .val (.int v20), .val (.int v21), .val (.int v22), .val (.int v23), .val (.int v24), .val (.int v25), .val (.ref x), .val (.int v27), .unset, .unset] [])) tgt → Steps p.tables e below E0 tgt := fun tgt kont => go69 tgt (by
          show Steps p.tables e below (T55.setTop (mkF m 399 #[.val (.int p0), .val (.int p1), .val (.int p2), .val (.int p3), .val (.int p4), .val (.int b5), .val (.int b6), .val (.int b7), .val (.int b8), .val (.int b9), .val (.int v10), .val (.int v11), .val (.int v12), .val (.int v13), .val (.int v14), .val (.int v15), .val (.int v16), .val (.int v17), .val (.int v18), .val (.int v19), .val (.int v20), .val (.int v21), .val (.int v22), .val (.int v23), .val (.int v24), .val (.int v25), .val (.ref x), .val (.int v27), .unset, .unset] [(.int (2 : Int32)), (.int v27)])) tgt
          refine XS.icmpYes X55.here hx rfl (pc0 := 399) (pc' := 410) rfl (hb hby at_399) rfl (feq m2).2 (by decide) (by decide) ?_
          exact kont)
        obtain ⟨T86, h86, X86, e86, E86, A86, D86, -, st86⟩ := newO X55 hx hZ55 hown55 (hw _ (List.mem_of_getElem? (i := 0) rfl)) (hw _ (List.mem_of_getElem? (i := 1) rfl)) (hw _ (List.mem_of_getElem? (i := 2) rfl)) rfl (g := (mkF m 410 #[.val (.int p0), .val (.int p1), .val (.int p2), .val (.int p3), .val (.int p4), .val (.int b5), .val (.int b6), .val (.int b7), .val (.int b8), .val (.int b9), .val (.int v10), .val (.int v11), .val (.int v12), .val (.int v13), .val (.int v14), .val (.int v15), .val (.int v16), .val (.int v17), .val (.int v18), .val (.int v19), .val (.int v20), .val (.int v21), .val (.int v22), .val (.int v23), .val (.int v24), .val (.int v25), .val (.ref x), .val (.int v27), .unset, .unset] [])) rfl (hb hby at_410) (by decide) (by decide)
        obtain ⟨y, g86⟩ : ∃ z, z = T55.heap.size := ⟨_, rfl⟩
        rw [← g86] at A86 D86 st86
        have ne_x_y : x ≠ y := Nat.ne_of_lt (Nat.lt_of_lt_of_le (Nat.lt_of_lt_of_le A30.lt (Nat.le_trans (Nat.le_trans (Nat.le_trans Ksa.1 Ksb.1) Ksc.1) Kx.1)) (Nat.le_of_eq g86.symm))
        have ne_sa_y : sa ≠ y := Nat.ne_of_lt (Nat.lt_of_lt_of_le (Nat.lt_of_lt_of_le Esa.lt (Nat.le_trans (Nat.le_trans Ksb.1 Ksc.1) Kx.1)) (Nat.le_of_eq g86.symm))
        have ne_tsa_y : tsa ≠ y := Nat.ne_of_lt (Nat.lt_of_lt_of_le (Nat.lt_of_lt_of_le Asa.lt (Nat.le_trans (Nat.le_trans Ksb.1 Ksc.1) Kx.1)) (Nat.le_of_eq g86.symm))
        have ne_sb_y : sb ≠ y := Nat.ne_of_lt (Nat.lt_of_lt_of_le (Nat.lt_of_lt_of_le Esb.lt (Nat.le_trans Ksc.1 Kx.1)) (Nat.le_of_eq g86.symm))
        have ne_tsb_y : tsb ≠ y := Nat.ne_of_lt (Nat.lt_of_lt_of_le (Nat.lt_of_lt_of_le Asb.lt (Nat.le_trans Ksc.1 Kx.1)) (Nat.le_of_eq g86.symm))
        have ne_sc_y : sc ≠ y := Nat.ne_of_lt (Nat.lt_of_lt_of_le (Nat.lt_of_lt_of_le Esc.lt Kx.1) (Nat.le_of_eq g86.symm))
        have ne_tsc_y : tsc ≠ y := Nat.ne_of_lt (Nat.lt_of_lt_of_le (Nat.lt_of_lt_of_le Asc.lt Kx.1) (Nat.le_of_eq g86.symm))
        have ge_y : n0 ≤ y := Nat.le_trans z56 (Nat.le_of_eq g86.symm)
        have z87 : n0 ≤ h86.size := Nat.le_trans z56 E86.1
        have Fsender_y : Fld Z h86 y "bourseline/model/MemberSession" "sender" "Ljava/lang/String;" .null := D86 (Or.inr (hw _ (List.mem_of_getElem? (i := 69) rfl))) (ty := (.object "java/lang/String")) (by decide)
        have Ftarget_y : Fld Z h86 y "bourseline/model/MemberSession" "target" "Ljava/lang/String;" .null := D86 (Or.inr (hw _ (List.mem_of_getElem? (i := 71) rfl))) (ty := (.object "java/lang/String")) (by decide)
        have FfixVersion_y : Fld Z h86 y "bourseline/model/MemberSession" "fixVersion" "Lbourseline/model/FixVersion;" .null := D86 (Or.inr (hw _ (List.mem_of_getElem? (i := 73) rfl))) (ty := (.object "bourseline/model/FixVersion")) (by decide)
        have Fmember_y : Fld Z h86 y "bourseline/model/MemberSession" "member" "Ljava/lang/String;" .null := D86 (Or.inr (hw _ (List.mem_of_getElem? (i := 75) rfl))) (ty := (.object "java/lang/String")) (by decide)
        have FselfMatchRule_y : Fld Z h86 y "bourseline/model/MemberSession" "selfMatchRule" "Lbourseline/model/SelfMatchInstruction;" .null := D86 (Or.inr (hw _ (List.mem_of_getElem? (i := 77) rfl))) (ty := (.object "bourseline/model/SelfMatchInstruction")) (by decide)
        have go86 : ∀ tgt, Steps p.tables e below (T86.setTop (mkF m 413 #[.val (.int p0), .val (.int p1), .val (.int p2), .val (.int p3), .val (.int p4), .val (.int b5), .val (.int b6), .val (.int b7), .val (.int b8), .val (.int b9), .val (.int v10), .val (.int v11), .val (.int v12), .val (.int v13), .val (.int v14), .val (.int v15), .val (.int v16), .val (.int v17), .val (.int v18), .val (.int v19), .val (.int v20), .val (.int v21), .val (.int v22), .val (.int v23), .val (.int v24), .val (.int v25), .val (.ref x), .val (.int v27), .unset, .unset] [(.ref y)])) tgt → Steps p.tables e below E0 tgt := fun tgt kont => go85 tgt (st86 tgt kont)
        have f88 : Old Z n0 h86 := ((f46.keep Kx (allS ge_x all0)).ext E86)
        have go89 : ∀ tgt, Steps p.tables e below (T86.setTop (mkF m 418 #[.val (.int p0), .val (.int p1), .val (.int p2), .val (.int p3), .val (.int p4), .val (.int b5), .val (.int b6), .val (.int b7), .val (.int b8), .val (.int b9), .val (.int v10), .val (.int v11), .val (.int v12), .val (.int v13), .val (.int v14), .val (.int v15), .val (.int v16), .val (.int v17), .val (.int v18), .val (.int v19), .val (.int v20), .val (.int v21), .val (.int v22), .val (.int v23), .val (.int v24), .val (.int v25), .val (.ref x), .val (.int v27), .unset, .unset] [(.int v13), (.int v12), (.ref y), (.ref y)])) tgt → Steps p.tables e below E0 tgt := fun tgt kont => go86 tgt (by
          show Steps p.tables e below (T86.setTop (mkF m 413 #[.val (.int p0), .val (.int p1), .val (.int p2), .val (.int p3), .val (.int p4), .val (.int b5), .val (.int b6), .val (.int b7), .val (.int b8), .val (.int b9), .val (.int v10), .val (.int v11), .val (.int v12), .val (.int v13), .val (.int v14), .val (.int v15), .val (.int v16), .val (.int v17), .val (.int v18), .val (.int v19), .val (.int v20), .val (.int v21), .val (.int v22), .val (.int v23), .val (.int v24), .val (.int v25), .val (.ref x), .val (.int v27), .unset, .unset] [(.ref y)])) tgt
          refine XS.dup X86.here hx rfl (hb hby at_413) rfl rfl ?_
          show Steps p.tables e below (T86.setTop (mkF m 414 #[.val (.int p0), .val (.int p1), .val (.int p2), .val (.int p3), .val (.int p4), .val (.int b5), .val (.int b6), .val (.int b7), .val (.int b8), .val (.int b9), .val (.int v10), .val (.int v11), .val (.int v12), .val (.int v13), .val (.int v14), .val (.int v15), .val (.int v16), .val (.int v17), .val (.int v18), .val (.int v19), .val (.int v20), .val (.int v21), .val (.int v22), .val (.int v23), .val (.int v24), .val (.int v25), .val (.ref x), .val (.int v27), .unset, .unset] [(.ref y), (.ref y)])) tgt
          refine XS.iload X86.here hx rfl (hb hby at_414) rfl ?_
          show Steps p.tables e below (T86.setTop (mkF m 416 #[.val (.int p0), .val (.int p1), .val (.int p2), .val (.int p3), .val (.int p4), .val (.int b5), .val (.int b6), .val (.int b7), .val (.int b8), .val (.int b9), .val (.int v10), .val (.int v11), .val (.int v12), .val (.int v13), .val (.int v14), .val (.int v15), .val (.int v16), .val (.int v17), .val (.int v18), .val (.int v19), .val (.int v20), .val (.int v21), .val (.int v22), .val (.int v23), .val (.int v24), .val (.int v25), .val (.ref x), .val (.int v27), .unset, .unset] [(.int v12), (.ref y), (.ref y)])) tgt
          refine XS.iload X86.here hx rfl (hb hby at_416) rfl ?_
          exact kont)
        obtain ⟨_, _, ⟨T90, L90, k90, n90⟩, -, X90, ⟨Lc90, hQ90, l90, y90, z90⟩, st90⟩ := Jvm.LawKit.callS X86 hx (y := (⟨"bourseline/model/MemberSessionEqualsPinLaw", "str", "(II)Ljava/lang/String;"⟩ : MethodName)) hown55 (mvT hZ55 (hw _ (List.mem_of_getElem? (i := 3) rfl))) (mvT hZ55 (hw _ (List.mem_of_getElem? (i := 4) rfl))) (mvT hZ55 (hw _ (List.mem_of_getElem? (i := 5) rfl))) (mvT hZ55 (hw _ (List.mem_of_getElem? (i := 6) rfl))) (by decide) (backOf (W := 2) (rmSR l Z a0 hw [] v12 v13 G h86 n0 z87 r12 r13 SC hG f88) hZ55 (hw _ (List.mem_of_getElem? (i := 6) rfl)) (hw _ (List.mem_of_getElem? (i := 5) rfl)) (by decide) (by decide)) (g := (mkF m 418 #[.val (.int p0), .val (.int p1), .val (.int p2), .val (.int p3), .val (.int p4), .val (.int b5), .val (.int b6), .val (.int b7), .val (.int b8), .val (.int b9), .val (.int v10), .val (.int v11), .val (.int v12), .val (.int v13), .val (.int v14), .val (.int v15), .val (.int v16), .val (.int v17), .val (.int v18), .val (.int v19), .val (.int v20), .val (.int v21), .val (.int v22), .val (.int v23), .val (.int v24), .val (.int v25), .val (.ref x), .val (.int v27), .unset, .unset] [(.int v13), (.int v12), (.ref y), (.ref y)])) rfl (by rw [hml]; rfl) (argsL := [(.int v12), (.int v13)]) (rest := [(.ref y), (.ref y)]) (lenOf pd_8 rfl) rfl (by show 2 * 0 + _ ≤ _; exact Nat.le_of_eq rfl) (hb hby at_418) (fun _ _ => ⟨rfl, e86, (by decide : 19 + 3 ≤ _), (by decide : 162 + 8 ≤ _)⟩)
        dsimp only [Pt.U, Pt.locs, Pt.cells, Pt.slots] at X90 l90 y90 z90 st90 hQ90
        subst l90 y90 z90
        obtain ⟨rfl, N90q, Ksd, Esd, Csd, tsd, ksd, ltsd, gtsd, Vsd, Asd⟩ := hQ90
        have N90 := Fr.app N55 N90q
        obtain ⟨sd, g90⟩ : ∃ z, z = h86.size := ⟨_, rfl⟩
        rw [← g90] at st90 Esd Csd Vsd ltsd
        have ne_x_sd : x ≠ sd := Nat.ne_of_lt (Nat.lt_of_lt_of_le (Nat.lt_of_lt_of_le A30.lt (Nat.le_trans (Nat.le_trans (Nat.le_trans (Nat.le_trans Ksa.1 Ksb.1) Ksc.1) Kx.1) E86.1)) (Nat.le_of_eq g90.symm))
        have ne_sa_sd : sa ≠ sd := Nat.ne_of_lt (Nat.lt_of_lt_of_le (Nat.lt_of_lt_of_le Esa.lt (Nat.le_trans (Nat.le_trans (Nat.le_trans Ksb.1 Ksc.1) Kx.1) E86.1)) (Nat.le_of_eq g90.symm))
        have ne_tsa_sd : tsa ≠ sd := Nat.ne_of_lt (Nat.lt_of_lt_of_le (Nat.lt_of_lt_of_le Asa.lt (Nat.le_trans (Nat.le_trans (Nat.le_trans Ksb.1 Ksc.1) Kx.1) E86.1)) (Nat.le_of_eq g90.symm))
        have ne_sb_sd : sb ≠ sd := Nat.ne_of_lt (Nat.lt_of_lt_of_le (Nat.lt_of_lt_of_le Esb.lt (Nat.le_trans (Nat.le_trans Ksc.1 Kx.1) E86.1)) (Nat.le_of_eq g90.symm))
        have ne_tsb_sd : tsb ≠ sd := Nat.ne_of_lt (Nat.lt_of_lt_of_le (Nat.lt_of_lt_of_le Asb.lt (Nat.le_trans (Nat.le_trans Ksc.1 Kx.1) E86.1)) (Nat.le_of_eq g90.symm))
        have ne_sc_sd : sc ≠ sd := Nat.ne_of_lt (Nat.lt_of_lt_of_le (Nat.lt_of_lt_of_le Esc.lt (Nat.le_trans Kx.1 E86.1)) (Nat.le_of_eq g90.symm))
        have ne_tsc_sd : tsc ≠ sd := Nat.ne_of_lt (Nat.lt_of_lt_of_le (Nat.lt_of_lt_of_le Asc.lt (Nat.le_trans Kx.1 E86.1)) (Nat.le_of_eq g90.symm))
        have ne_y_sd : y ≠ sd := Nat.ne_of_lt (Nat.lt_of_lt_of_le A86.lt (Nat.le_of_eq g90.symm))
        have ge_sd : n0 ≤ sd := Nat.le_trans z87 (Nat.le_of_eq g90.symm)
        have z91 : n0 ≤ T90.heap.size := Nat.le_trans z87 Ksd.1
        have go90 : ∀ tgt, Steps p.tables e below (T90.setTop (mkF m 421 #[.val (.int p0), .val (.int p1), .val (.int p2), .val (.int p3), .val (.int p4), .val (.int b5), .val (.int b6), .val (.int b7), .val (.int b8), .val (.int b9), .val (.int v10), .val (.int v11), .val (.int v12), .val (.int v13), .val (.int v14), .val (.int v15), .val (.int v16), .val (.int v17), .val (.int v18), .val (.int v19), .val (.int v20), .val (.int v21), .val (.int v22), .val (.int v23), .val (.int v24), .val (.int v25), .val (.ref x), .val (.int v27), .unset, .unset] [(.ref sd), (.ref y), (.ref y)])) tgt → Steps p.tables e below E0 tgt := fun tgt kont => go89 tgt (st90 tgt kont)
        have ne_x_tsd : x ≠ tsd := Nat.ne_of_lt (Nat.lt_trans (Nat.lt_of_lt_of_le (Nat.lt_of_lt_of_le A30.lt (Nat.le_trans (Nat.le_trans (Nat.le_trans (Nat.le_trans Ksa.1 Ksb.1) Ksc.1) Kx.1) E86.1)) (Nat.le_of_eq g90.symm)) ltsd)
        have ne_sa_tsd : sa ≠ tsd := Nat.ne_of_lt (Nat.lt_trans (Nat.lt_of_lt_of_le (Nat.lt_of_lt_of_le Esa.lt (Nat.le_trans (Nat.le_trans (Nat.le_trans Ksb.1 Ksc.1) Kx.1) E86.1)) (Nat.le_of_eq g90.symm)) ltsd)
        have ne_tsa_tsd : tsa ≠ tsd := Nat.ne_of_lt (Nat.lt_trans (Nat.lt_of_lt_of_le (Nat.lt_of_lt_of_le Asa.lt (Nat.le_trans (Nat.le_trans (Nat.le_trans Ksb.1 Ksc.1) Kx.1) E86.1)) (Nat.le_of_eq g90.symm)) ltsd)
        have ne_sb_tsd : sb ≠ tsd := Nat.ne_of_lt (Nat.lt_trans (Nat.lt_of_lt_of_le (Nat.lt_of_lt_of_le Esb.lt (Nat.le_trans (Nat.le_trans Ksc.1 Kx.1) E86.1)) (Nat.le_of_eq g90.symm)) ltsd)
        have ne_tsb_tsd : tsb ≠ tsd := Nat.ne_of_lt (Nat.lt_trans (Nat.lt_of_lt_of_le (Nat.lt_of_lt_of_le Asb.lt (Nat.le_trans (Nat.le_trans Ksc.1 Kx.1) E86.1)) (Nat.le_of_eq g90.symm)) ltsd)
        have ne_sc_tsd : sc ≠ tsd := Nat.ne_of_lt (Nat.lt_trans (Nat.lt_of_lt_of_le (Nat.lt_of_lt_of_le Esc.lt (Nat.le_trans Kx.1 E86.1)) (Nat.le_of_eq g90.symm)) ltsd)
        have ne_tsc_tsd : tsc ≠ tsd := Nat.ne_of_lt (Nat.lt_trans (Nat.lt_of_lt_of_le (Nat.lt_of_lt_of_le Asc.lt (Nat.le_trans Kx.1 E86.1)) (Nat.le_of_eq g90.symm)) ltsd)
        have ne_y_tsd : y ≠ tsd := Nat.ne_of_lt (Nat.lt_trans (Nat.lt_of_lt_of_le A86.lt (Nat.le_of_eq g90.symm)) ltsd)
        have hpsd := own_two r12 r13
        have f92 : Old Z n0 T90.heap := (f88.keep Ksd all0)
        have go93 : ∀ tgt, Steps p.tables e below (T90.setTop (mkF m 425 #[.val (.int p0), .val (.int p1), .val (.int p2), .val (.int p3), .val (.int p4), .val (.int b5), .val (.int b6), .val (.int b7), .val (.int b8), .val (.int b9), .val (.int v10), .val (.int v11), .val (.int v12), .val (.int v13), .val (.int v14), .val (.int v15), .val (.int v16), .val (.int v17), .val (.int v18), .val (.int v19), .val (.int v20), .val (.int v21), .val (.int v22), .val (.int v23), .val (.int v24), .val (.int v25), .val (.ref x), .val (.int v27), .unset, .unset] [(.int v17), (.int v16), (.ref sd), (.ref y), (.ref y)])) tgt → Steps p.tables e below E0 tgt := fun tgt kont => go90 tgt (by
          show Steps p.tables e below (T90.setTop (mkF m 421 #[.val (.int p0), .val (.int p1), .val (.int p2), .val (.int p3), .val (.int p4), .val (.int b5), .val (.int b6), .val (.int b7), .val (.int b8), .val (.int b9), .val (.int v10), .val (.int v11), .val (.int v12), .val (.int v13), .val (.int v14), .val (.int v15), .val (.int v16), .val (.int v17), .val (.int v18), .val (.int v19), .val (.int v20), .val (.int v21), .val (.int v22), .val (.int v23), .val (.int v24), .val (.int v25), .val (.ref x), .val (.int v27), .unset, .unset] [(.ref sd), (.ref y), (.ref y)])) tgt
          refine XS.iload X90.here hx rfl (hb hby at_421) rfl ?_
          show Steps p.tables e below (T90.setTop (mkF m 423 #[.val (.int p0), .val (.int p1), .val (.int p2), .val (.int p3), .val (.int p4), .val (.int b5), .val (.int b6), .val (.int b7), .val (.int b8), .val (.int b9), .val (.int v10), .val (.int v11), .val (.int v12), .val (.int v13), .val (.int v14), .val (.int v15), .val (.int v16), .val (.int v17), .val (.int v18), .val (.int v19), .val (.int v20), .val (.int v21), .val (.int v22), .val (.int v23), .val (.int v24), .val (.int v25), .val (.ref x), .val (.int v27), .unset, .unset] [(.int v16), (.ref sd), (.ref y), (.ref y)])) tgt
          refine XS.iload X90.here hx rfl (hb hby at_423) rfl ?_
          exact kont)
        obtain ⟨_, _, ⟨T94, L94, k94, n94⟩, -, X94, ⟨Lc94, hQ94, l94, y94, z94⟩, st94⟩ := Jvm.LawKit.callS X90 hx (y := (⟨"bourseline/model/MemberSessionEqualsPinLaw", "str", "(II)Ljava/lang/String;"⟩ : MethodName)) hown55 (mvT hZ55 (hw _ (List.mem_of_getElem? (i := 3) rfl))) (mvT hZ55 (hw _ (List.mem_of_getElem? (i := 4) rfl))) (mvT hZ55 (hw _ (List.mem_of_getElem? (i := 5) rfl))) (mvT hZ55 (hw _ (List.mem_of_getElem? (i := 6) rfl))) (by decide) (backOf (W := 3) (rmSR l Z a0 hw [] v16 v17 G T90.heap n0 z91 r16 r17 SC hG f92) hZ55 (hw _ (List.mem_of_getElem? (i := 6) rfl)) (hw _ (List.mem_of_getElem? (i := 5) rfl)) (by decide) (by decide)) (g := (mkF m 425 #[.val (.int p0), .val (.int p1), .val (.int p2), .val (.int p3), .val (.int p4), .val (.int b5), .val (.int b6), .val (.int b7), .val (.int b8), .val (.int b9), .val (.int v10), .val (.int v11), .val (.int v12), .val (.int v13), .val (.int v14), .val (.int v15), .val (.int v16), .val (.int v17), .val (.int v18), .val (.int v19), .val (.int v20), .val (.int v21), .val (.int v22), .val (.int v23), .val (.int v24), .val (.int v25), .val (.ref x), .val (.int v27), .unset, .unset] [(.int v17), (.int v16), (.ref sd), (.ref y), (.ref y)])) rfl (by rw [hml]; rfl) (argsL := [(.int v16), (.int v17)]) (rest := [(.ref sd), (.ref y), (.ref y)]) (lenOf pd_8 rfl) rfl (by show 2 * 0 + _ ≤ _; exact Nat.le_of_eq rfl) (hb hby at_425) (fun _ _ => ⟨rfl, rfl, (by decide : 22 + 3 ≤ _), (by decide : 170 + 8 ≤ _)⟩)
        dsimp only [Pt.U, Pt.locs, Pt.cells, Pt.slots] at X94 l94 y94 z94 st94 hQ94
        subst l94 y94 z94
        obtain ⟨rfl, N94q, Kse, Ese, Cse, tse, kse, ltse, gtse, Vse, Ase⟩ := hQ94
        have N94 := Fr.app N90 N94q
        obtain ⟨se, g94⟩ : ∃ z, z = T90.heap.size := ⟨_, rfl⟩
        rw [← g94] at st94 Ese Cse Vse ltse
        have ne_x_se : x ≠ se := Nat.ne_of_lt (Nat.lt_of_lt_of_le (Nat.lt_of_lt_of_le A30.lt (Nat.le_trans (Nat.le_trans (Nat.le_trans (Nat.le_trans (Nat.le_trans Ksa.1 Ksb.1) Ksc.1) Kx.1) E86.1) Ksd.1)) (Nat.le_of_eq g94.symm))
        have ne_sa_se : sa ≠ se := Nat.ne_of_lt (Nat.lt_of_lt_of_le (Nat.lt_of_lt_of_le Esa.lt (Nat.le_trans (Nat.le_trans (Nat.le_trans (Nat.le_trans Ksb.1 Ksc.1) Kx.1) E86.1) Ksd.1)) (Nat.le_of_eq g94.symm))
        have ne_tsa_se : tsa ≠ se := Nat.ne_of_lt (Nat.lt_of_lt_of_le (Nat.lt_of_lt_of_le Asa.lt (Nat.le_trans (Nat.le_trans (Nat.le_trans (Nat.le_trans Ksb.1 Ksc.1) Kx.1) E86.1) Ksd.1)) (Nat.le_of_eq g94.symm))
        have ne_sb_se : sb ≠ se := Nat.ne_of_lt (Nat.lt_of_lt_of_le (Nat.lt_of_lt_of_le Esb.lt (Nat.le_trans (Nat.le_trans (Nat.le_trans Ksc.1 Kx.1) E86.1) Ksd.1)) (Nat.le_of_eq g94.symm))
        have ne_tsb_se : tsb ≠ se := Nat.ne_of_lt (Nat.lt_of_lt_of_le (Nat.lt_of_lt_of_le Asb.lt (Nat.le_trans (Nat.le_trans (Nat.le_trans Ksc.1 Kx.1) E86.1) Ksd.1)) (Nat.le_of_eq g94.symm))
        have ne_sc_se : sc ≠ se := Nat.ne_of_lt (Nat.lt_of_lt_of_le (Nat.lt_of_lt_of_le Esc.lt (Nat.le_trans (Nat.le_trans Kx.1 E86.1) Ksd.1)) (Nat.le_of_eq g94.symm))
        have ne_tsc_se : tsc ≠ se := Nat.ne_of_lt (Nat.lt_of_lt_of_le (Nat.lt_of_lt_of_le Asc.lt (Nat.le_trans (Nat.le_trans Kx.1 E86.1) Ksd.1)) (Nat.le_of_eq g94.symm))
        have ne_y_se : y ≠ se := Nat.ne_of_lt (Nat.lt_of_lt_of_le (Nat.lt_of_lt_of_le A86.lt Ksd.1) (Nat.le_of_eq g94.symm))
        have ne_sd_se : sd ≠ se := Nat.ne_of_lt (Nat.lt_of_lt_of_le Esd.lt (Nat.le_of_eq g94.symm))
        have ne_tsd_se : tsd ≠ se := Nat.ne_of_lt (Nat.lt_of_lt_of_le Asd.lt (Nat.le_of_eq g94.symm))
        have ge_se : n0 ≤ se := Nat.le_trans z91 (Nat.le_of_eq g94.symm)
        have z95 : n0 ≤ T94.heap.size := Nat.le_trans z91 Kse.1
        have go94 : ∀ tgt, Steps p.tables e below (T94.setTop (mkF m 428 #[.val (.int p0), .val (.int p1), .val (.int p2), .val (.int p3), .val (.int p4), .val (.int b5), .val (.int b6), .val (.int b7), .val (.int b8), .val (.int b9), .val (.int v10), .val (.int v11), .val (.int v12), .val (.int v13), .val (.int v14), .val (.int v15), .val (.int v16), .val (.int v17), .val (.int v18), .val (.int v19), .val (.int v20), .val (.int v21), .val (.int v22), .val (.int v23), .val (.int v24), .val (.int v25), .val (.ref x), .val (.int v27), .unset, .unset] [(.ref se), (.ref sd), (.ref y), (.ref y)])) tgt → Steps p.tables e below E0 tgt := fun tgt kont => go93 tgt (st94 tgt kont)
        have ne_x_tse : x ≠ tse := Nat.ne_of_lt (Nat.lt_trans (Nat.lt_of_lt_of_le (Nat.lt_of_lt_of_le A30.lt (Nat.le_trans (Nat.le_trans (Nat.le_trans (Nat.le_trans (Nat.le_trans Ksa.1 Ksb.1) Ksc.1) Kx.1) E86.1) Ksd.1)) (Nat.le_of_eq g94.symm)) ltse)
        have ne_sa_tse : sa ≠ tse := Nat.ne_of_lt (Nat.lt_trans (Nat.lt_of_lt_of_le (Nat.lt_of_lt_of_le Esa.lt (Nat.le_trans (Nat.le_trans (Nat.le_trans (Nat.le_trans Ksb.1 Ksc.1) Kx.1) E86.1) Ksd.1)) (Nat.le_of_eq g94.symm)) ltse)
        have ne_tsa_tse : tsa ≠ tse := Nat.ne_of_lt (Nat.lt_trans (Nat.lt_of_lt_of_le (Nat.lt_of_lt_of_le Asa.lt (Nat.le_trans (Nat.le_trans (Nat.le_trans (Nat.le_trans Ksb.1 Ksc.1) Kx.1) E86.1) Ksd.1)) (Nat.le_of_eq g94.symm)) ltse)
        have ne_sb_tse : sb ≠ tse := Nat.ne_of_lt (Nat.lt_trans (Nat.lt_of_lt_of_le (Nat.lt_of_lt_of_le Esb.lt (Nat.le_trans (Nat.le_trans (Nat.le_trans Ksc.1 Kx.1) E86.1) Ksd.1)) (Nat.le_of_eq g94.symm)) ltse)
        have ne_tsb_tse : tsb ≠ tse := Nat.ne_of_lt (Nat.lt_trans (Nat.lt_of_lt_of_le (Nat.lt_of_lt_of_le Asb.lt (Nat.le_trans (Nat.le_trans (Nat.le_trans Ksc.1 Kx.1) E86.1) Ksd.1)) (Nat.le_of_eq g94.symm)) ltse)
        have ne_sc_tse : sc ≠ tse := Nat.ne_of_lt (Nat.lt_trans (Nat.lt_of_lt_of_le (Nat.lt_of_lt_of_le Esc.lt (Nat.le_trans (Nat.le_trans Kx.1 E86.1) Ksd.1)) (Nat.le_of_eq g94.symm)) ltse)
        have ne_tsc_tse : tsc ≠ tse := Nat.ne_of_lt (Nat.lt_trans (Nat.lt_of_lt_of_le (Nat.lt_of_lt_of_le Asc.lt (Nat.le_trans (Nat.le_trans Kx.1 E86.1) Ksd.1)) (Nat.le_of_eq g94.symm)) ltse)
        have ne_y_tse : y ≠ tse := Nat.ne_of_lt (Nat.lt_trans (Nat.lt_of_lt_of_le (Nat.lt_of_lt_of_le A86.lt Ksd.1) (Nat.le_of_eq g94.symm)) ltse)
        have ne_sd_tse : sd ≠ tse := Nat.ne_of_lt (Nat.lt_trans (Nat.lt_of_lt_of_le Esd.lt (Nat.le_of_eq g94.symm)) ltse)
        have ne_tsd_tse : tsd ≠ tse := Nat.ne_of_lt (Nat.lt_trans (Nat.lt_of_lt_of_le Asd.lt (Nat.le_of_eq g94.symm)) ltse)
        have hpse := own_two r16 r17
        have f96 : Old Z n0 T94.heap := (f92.keep Kse all0)
        have go97 : ∀ tgt, Steps p.tables e below (T94.setTop (mkF m 430 #[.val (.int p0), .val (.int p1), .val (.int p2), .val (.int p3), .val (.int p4), .val (.int b5), .val (.int b6), .val (.int b7), .val (.int b8), .val (.int b9), .val (.int v10), .val (.int v11), .val (.int v12), .val (.int v13), .val (.int v14), .val (.int v15), .val (.int v16), .val (.int v17), .val (.int v18), .val (.int v19), .val (.int v20), .val (.int v21), .val (.int v22), .val (.int v23), .val (.int v24), .val (.int v25), .val (.ref x), .val (.int v27), .unset, .unset] [(.int v23), (.ref se), (.ref sd), (.ref y), (.ref y)])) tgt → Steps p.tables e below E0 tgt := fun tgt kont => go94 tgt (by
          show Steps p.tables e below (T94.setTop (mkF m 428 #[.val (.int p0), .val (.int p1), .val (.int p2), .val (.int p3), .val (.int p4), .val (.int b5), .val (.int b6), .val (.int b7), .val (.int b8), .val (.int b9), .val (.int v10), .val (.int v11), .val (.int v12), .val (.int v13), .val (.int v14), .val (.int v15), .val (.int v16), .val (.int v17), .val (.int v18), .val (.int v19), .val (.int v20), .val (.int v21), .val (.int v22), .val (.int v23), .val (.int v24), .val (.int v25), .val (.ref x), .val (.int v27), .unset, .unset] [(.ref se), (.ref sd), (.ref y), (.ref y)])) tgt
          refine XS.iload X94.here hx rfl (hb hby at_428) rfl ?_
          exact kont)
        obtain ⟨_, _, ⟨T98, L98, k98, n98⟩, -, X98, ⟨Lc98, hQ98, l98, y98, z98⟩, st98⟩ := Jvm.LawKit.callS X94 hx (y := (⟨"bourseline/model/MemberSessionEqualsPinLaw", "version", "(I)Lbourseline/model/FixVersion;"⟩ : MethodName)) hown55 (mvT hZ55 (hw _ (List.mem_of_getElem? (i := 37) rfl))) (mvT hZ55 (hw _ (List.mem_of_getElem? (i := 38) rfl))) (mvT hZ55 (hw _ (List.mem_of_getElem? (i := 5) rfl))) (mvT hZ55 (hw _ (List.mem_of_getElem? (i := 39) rfl))) (by decide) (backOf (W := 4) (rmVS l Z a0 hw [] v23 g0 g1 g2 T94.heap n0 z95 (Sg0.ext f96.2) (Sg1.ext f96.2) (Sg2.ext f96.2)) hZ55 (hw _ (List.mem_of_getElem? (i := 39) rfl)) (hw _ (List.mem_of_getElem? (i := 5) rfl)) (by decide) (by decide)) (g := (mkF m 430 #[.val (.int p0), .val (.int p1), .val (.int p2), .val (.int p3), .val (.int p4), .val (.int b5), .val (.int b6), .val (.int b7), .val (.int b8), .val (.int b9), .val (.int v10), .val (.int v11), .val (.int v12), .val (.int v13), .val (.int v14), .val (.int v15), .val (.int v16), .val (.int v17), .val (.int v18), .val (.int v19), .val (.int v20), .val (.int v21), .val (.int v22), .val (.int v23), .val (.int v24), .val (.int v25), .val (.ref x), .val (.int v27), .unset, .unset] [(.int v23), (.ref se), (.ref sd), (.ref y), (.ref y)])) rfl (by rw [hml]; rfl) (argsL := [(.int v23)]) (rest := [(.ref se), (.ref sd), (.ref y), (.ref y)]) (lenOf pd_9 rfl) rfl (by show 2 * 0 + _ ≤ _; exact Nat.le_of_eq rfl) (hb hby at_430) (fun _ _ => ⟨rfl, rfl, (by decide : 25 + 0 ≤ _), (by decide : 178 + 0 ≤ _)⟩)
        dsimp only [Pt.U, Pt.locs, Pt.cells, Pt.slots] at X98 l98 y98 z98 st98 hQ98
        subst l98 y98 z98
        obtain ⟨rfl, N98q, e98⟩ := hQ98
        have N98 := Fr.app N94 N98q
        have go98 : ∀ tgt, Steps p.tables e below (T98.setTop (mkF m 433 #[.val (.int p0), .val (.int p1), .val (.int p2), .val (.int p3), .val (.int p4), .val (.int b5), .val (.int b6), .val (.int b7), .val (.int b8), .val (.int b9), .val (.int v10), .val (.int v11), .val (.int v12), .val (.int v13), .val (.int v14), .val (.int v15), .val (.int v16), .val (.int v17), .val (.int v18), .val (.int v19), .val (.int v20), .val (.int v21), .val (.int v22), .val (.int v23), .val (.int v24), .val (.int v25), .val (.ref x), .val (.int v27), .unset, .unset] [(.ref (own_vs g0 g1 g2 v23)), (.ref se), (.ref sd), (.ref y), (.ref y)])) tgt → Steps p.tables e below E0 tgt := fun tgt kont => go97 tgt (st98 tgt kont)
        have go99 : ∀ tgt, Steps p.tables e below (T98.setTop (mkF m 437 #[.val (.int p0), .val (.int p1), .val (.int p2), .val (.int p3), .val (.int p4), .val (.int b5), .val (.int b6), .val (.int b7), .val (.int b8), .val (.int b9), .val (.int v10), .val (.int v11), .val (.int v12), .val (.int v13), .val (.int v14), .val (.int v15), .val (.int v16), .val (.int v17), .val (.int v18), .val (.int v19), .val (.int v20), .val (.int v21), .val (.int v22), .val (.int v23), .val (.int v24), .val (.int v25), .val (.ref x), .val (.int v27), .unset, .unset] [(.int v21), (.int v20), (.ref (own_vs g0 g1 g2 v23)), (.ref se), (.ref sd), (.ref y), (.ref y)])) tgt → Steps p.tables e below E0 tgt := fun tgt kont => go98 tgt (by
          show Steps p.tables e below (T98.setTop (mkF m 433 #[.val (.int p0), .val (.int p1), .val (.int p2), .val (.int p3), .val (.int p4), .val (.int b5), .val (.int b6), .val (.int b7), .val (.int b8), .val (.int b9), .val (.int v10), .val (.int v11), .val (.int v12), .val (.int v13), .val (.int v14), .val (.int v15), .val (.int v16), .val (.int v17), .val (.int v18), .val (.int v19), .val (.int v20), .val (.int v21), .val (.int v22), .val (.int v23), .val (.int v24), .val (.int v25), .val (.ref x), .val (.int v27), .unset, .unset] [(.ref (own_vs g0 g1 g2 v23)), (.ref se), (.ref sd), (.ref y), (.ref y)])) tgt
          refine XS.iload X98.here hx rfl (hb hby at_433) rfl ?_
          show Steps p.tables e below (T98.setTop (mkF m 435 #[.val (.int p0), .val (.int p1), .val (.int p2), .val (.int p3), .val (.int p4), .val (.int b5), .val (.int b6), .val (.int b7), .val (.int b8), .val (.int b9), .val (.int v10), .val (.int v11), .val (.int v12), .val (.int v13), .val (.int v14), .val (.int v15), .val (.int v16), .val (.int v17), .val (.int v18), .val (.int v19), .val (.int v20), .val (.int v21), .val (.int v22), .val (.int v23), .val (.int v24), .val (.int v25), .val (.ref x), .val (.int v27), .unset, .unset] [(.int v20), (.ref (own_vs g0 g1 g2 v23)), (.ref se), (.ref sd), (.ref y), (.ref y)])) tgt
          refine XS.iload X98.here hx rfl (hb hby at_435) rfl ?_
          exact kont)
        obtain ⟨_, _, ⟨T100, L100, k100, n100⟩, -, X100, ⟨Lc100, hQ100, l100, y100, z100⟩, st100⟩ := Jvm.LawKit.callS X98 hx (y := (⟨"bourseline/model/MemberSessionEqualsPinLaw", "str", "(II)Ljava/lang/String;"⟩ : MethodName)) hown55 (mvT hZ55 (hw _ (List.mem_of_getElem? (i := 3) rfl))) (mvT hZ55 (hw _ (List.mem_of_getElem? (i := 4) rfl))) (mvT hZ55 (hw _ (List.mem_of_getElem? (i := 5) rfl))) (mvT hZ55 (hw _ (List.mem_of_getElem? (i := 6) rfl))) (by decide) (backOf (W := 5) (rmSR l Z a0 hw [] v20 v21 G T94.heap n0 z95 r20 r21 SC hG f96) hZ55 (hw _ (List.mem_of_getElem? (i := 6) rfl)) (hw _ (List.mem_of_getElem? (i := 5) rfl)) (by decide) (by decide)) (g := (mkF m 437 #[.val (.int p0), .val (.int p1), .val (.int p2), .val (.int p3), .val (.int p4), .val (.int b5), .val (.int b6), .val (.int b7), .val (.int b8), .val (.int b9), .val (.int v10), .val (.int v11), .val (.int v12), .val (.int v13), .val (.int v14), .val (.int v15), .val (.int v16), .val (.int v17), .val (.int v18), .val (.int v19), .val (.int v20), .val (.int v21), .val (.int v22), .val (.int v23), .val (.int v24), .val (.int v25), .val (.ref x), .val (.int v27), .unset, .unset] [(.int v21), (.int v20), (.ref (own_vs g0 g1 g2 v23)), (.ref se), (.ref sd), (.ref y), (.ref y)])) rfl (by rw [hml]; rfl) (argsL := [(.int v20), (.int v21)]) (rest := [(.ref (own_vs g0 g1 g2 v23)), (.ref se), (.ref sd), (.ref y), (.ref y)]) (lenOf pd_8 rfl) rfl (by show 2 * 0 + _ ≤ _; exact Nat.le_of_eq rfl) (hb hby at_437) (fun _ _ => ⟨rfl, e98, (by decide : 25 + 3 ≤ _), (by decide : 178 + 8 ≤ _)⟩)
        dsimp only [Pt.U, Pt.locs, Pt.cells, Pt.slots] at X100 l100 y100 z100 st100 hQ100
        subst l100 y100 z100
        obtain ⟨rfl, N100q, Ksf, Esf, Csf, tsf, ksf, ltsf, gtsf, Vsf, Asf⟩ := hQ100
        have N100 := Fr.app N98 N100q
        obtain ⟨sf, g100⟩ : ∃ z, z = T94.heap.size := ⟨_, rfl⟩
        rw [← g100] at st100 Esf Csf Vsf ltsf
        have ne_x_sf : x ≠ sf := Nat.ne_of_lt (Nat.lt_of_lt_of_le (Nat.lt_of_lt_of_le A30.lt (Nat.le_trans (Nat.le_trans (Nat.le_trans (Nat.le_trans (Nat.le_trans (Nat.le_trans Ksa.1 Ksb.1) Ksc.1) Kx.1) E86.1) Ksd.1) Kse.1)) (Nat.le_of_eq g100.symm))
        have ne_sa_sf : sa ≠ sf := Nat.ne_of_lt (Nat.lt_of_lt_of_le (Nat.lt_of_lt_of_le Esa.lt (Nat.le_trans (Nat.le_trans (Nat.le_trans (Nat.le_trans (Nat.le_trans Ksb.1 Ksc.1) Kx.1) E86.1) Ksd.1) Kse.1)) (Nat.le_of_eq g100.symm))
        have ne_tsa_sf : tsa ≠ sf := Nat.ne_of_lt (Nat.lt_of_lt_of_le (Nat.lt_of_lt_of_le Asa.lt (Nat.le_trans (Nat.le_trans (Nat.le_trans (Nat.le_trans (Nat.le_trans Ksb.1 Ksc.1) Kx.1) E86.1) Ksd.1) Kse.1)) (Nat.le_of_eq g100.symm))
        have ne_sb_sf : sb ≠ sf := Nat.ne_of_lt (Nat.lt_of_lt_of_le (Nat.lt_of_lt_of_le Esb.lt (Nat.le_trans (Nat.le_trans (Nat.le_trans (Nat.le_trans Ksc.1 Kx.1) E86.1) Ksd.1) Kse.1)) (Nat.le_of_eq g100.symm))
        have ne_tsb_sf : tsb ≠ sf := Nat.ne_of_lt (Nat.lt_of_lt_of_le (Nat.lt_of_lt_of_le Asb.lt (Nat.le_trans (Nat.le_trans (Nat.le_trans (Nat.le_trans Ksc.1 Kx.1) E86.1) Ksd.1) Kse.1)) (Nat.le_of_eq g100.symm))
        have ne_sc_sf : sc ≠ sf := Nat.ne_of_lt (Nat.lt_of_lt_of_le (Nat.lt_of_lt_of_le Esc.lt (Nat.le_trans (Nat.le_trans (Nat.le_trans Kx.1 E86.1) Ksd.1) Kse.1)) (Nat.le_of_eq g100.symm))
        have ne_tsc_sf : tsc ≠ sf := Nat.ne_of_lt (Nat.lt_of_lt_of_le (Nat.lt_of_lt_of_le Asc.lt (Nat.le_trans (Nat.le_trans (Nat.le_trans Kx.1 E86.1) Ksd.1) Kse.1)) (Nat.le_of_eq g100.symm))
        have ne_y_sf : y ≠ sf := Nat.ne_of_lt (Nat.lt_of_lt_of_le (Nat.lt_of_lt_of_le A86.lt (Nat.le_trans Ksd.1 Kse.1)) (Nat.le_of_eq g100.symm))
        have ne_sd_sf : sd ≠ sf := Nat.ne_of_lt (Nat.lt_of_lt_of_le (Nat.lt_of_lt_of_le Esd.lt Kse.1) (Nat.le_of_eq g100.symm))
        have ne_tsd_sf : tsd ≠ sf := Nat.ne_of_lt (Nat.lt_of_lt_of_le (Nat.lt_of_lt_of_le Asd.lt Kse.1) (Nat.le_of_eq g100.symm))
        have ne_se_sf : se ≠ sf := Nat.ne_of_lt (Nat.lt_of_lt_of_le Ese.lt (Nat.le_of_eq g100.symm))
        have ne_tse_sf : tse ≠ sf := Nat.ne_of_lt (Nat.lt_of_lt_of_le Ase.lt (Nat.le_of_eq g100.symm))
        have ge_sf : n0 ≤ sf := Nat.le_trans z95 (Nat.le_of_eq g100.symm)
        have z101 : n0 ≤ T100.heap.size := Nat.le_trans z95 Ksf.1
        have go100 : ∀ tgt, Steps p.tables e below (T100.setTop (mkF m 440 #[.val (.int p0), .val (.int p1), .val (.int p2), .val (.int p3), .val (.int p4), .val (.int b5), .val (.int b6), .val (.int b7), .val (.int b8), .val (.int b9), .val (.int v10), .val (.int v11), .val (.int v12), .val (.int v13), .val (.int v14), .val (.int v15), .val (.int v16), .val (.int v17), .val (.int v18), .val (.int v19), .val (.int v20), .val (.int v21), .val (.int v22), .val (.int v23), .val (.int v24), .val (.int v25), .val (.ref x), .val (.int v27), .unset, .unset] [(.ref sf), (.ref (own_vs g0 g1 g2 v23)), (.ref se), (.ref sd), (.ref y), (.ref y)])) tgt → Steps p.tables e below E0 tgt := fun tgt kont => go99 tgt (st100 tgt kont)
        have ne_x_tsf : x ≠ tsf := Nat.ne_of_lt (Nat.lt_trans (Nat.lt_of_lt_of_le (Nat.lt_of_lt_of_le A30.lt (Nat.le_trans (Nat.le_trans (Nat.le_trans (Nat.le_trans (Nat.le_trans (Nat.le_trans Ksa.1 Ksb.1) Ksc.1) Kx.1) E86.1) Ksd.1) Kse.1)) (Nat.le_of_eq g100.symm)) ltsf)
        have ne_sa_tsf : sa ≠ tsf := Nat.ne_of_lt (Nat.lt_trans (Nat.lt_of_lt_of_le (Nat.lt_of_lt_of_le Esa.lt (Nat.le_trans (Nat.le_trans (Nat.le_trans (Nat.le_trans (Nat.le_trans Ksb.1 Ksc.1) Kx.1) E86.1) Ksd.1) Kse.1)) (Nat.le_of_eq g100.symm)) ltsf)
        have ne_tsa_tsf : tsa ≠ tsf := Nat.ne_of_lt (Nat.lt_trans (Nat.lt_of_lt_of_le (Nat.lt_of_lt_of_le Asa.lt (Nat.le_trans (Nat.le_trans (Nat.le_trans (Nat.le_trans (Nat.le_trans Ksb.1 Ksc.1) Kx.1) E86.1) Ksd.1) Kse.1)) (Nat.le_of_eq g100.symm)) ltsf)
        have ne_sb_tsf : sb ≠ tsf := Nat.ne_of_lt (Nat.lt_trans (Nat.lt_of_lt_of_le (Nat.lt_of_lt_of_le Esb.lt (Nat.le_trans (Nat.le_trans (Nat.le_trans (Nat.le_trans Ksc.1 Kx.1) E86.1) Ksd.1) Kse.1)) (Nat.le_of_eq g100.symm)) ltsf)
        have ne_tsb_tsf : tsb ≠ tsf := Nat.ne_of_lt (Nat.lt_trans (Nat.lt_of_lt_of_le (Nat.lt_of_lt_of_le Asb.lt (Nat.le_trans (Nat.le_trans (Nat.le_trans (Nat.le_trans Ksc.1 Kx.1) E86.1) Ksd.1) Kse.1)) (Nat.le_of_eq g100.symm)) ltsf)
        have ne_sc_tsf : sc ≠ tsf := Nat.ne_of_lt (Nat.lt_trans (Nat.lt_of_lt_of_le (Nat.lt_of_lt_of_le Esc.lt (Nat.le_trans (Nat.le_trans (Nat.le_trans Kx.1 E86.1) Ksd.1) Kse.1)) (Nat.le_of_eq g100.symm)) ltsf)
        have ne_tsc_tsf : tsc ≠ tsf := Nat.ne_of_lt (Nat.lt_trans (Nat.lt_of_lt_of_le (Nat.lt_of_lt_of_le Asc.lt (Nat.le_trans (Nat.le_trans (Nat.le_trans Kx.1 E86.1) Ksd.1) Kse.1)) (Nat.le_of_eq g100.symm)) ltsf)
        have ne_y_tsf : y ≠ tsf := Nat.ne_of_lt (Nat.lt_trans (Nat.lt_of_lt_of_le (Nat.lt_of_lt_of_le A86.lt (Nat.le_trans Ksd.1 Kse.1)) (Nat.le_of_eq g100.symm)) ltsf)
        have ne_sd_tsf : sd ≠ tsf := Nat.ne_of_lt (Nat.lt_trans (Nat.lt_of_lt_of_le (Nat.lt_of_lt_of_le Esd.lt Kse.1) (Nat.le_of_eq g100.symm)) ltsf)
        have ne_tsd_tsf : tsd ≠ tsf := Nat.ne_of_lt (Nat.lt_trans (Nat.lt_of_lt_of_le (Nat.lt_of_lt_of_le Asd.lt Kse.1) (Nat.le_of_eq g100.symm)) ltsf)
        have ne_se_tsf : se ≠ tsf := Nat.ne_of_lt (Nat.lt_trans (Nat.lt_of_lt_of_le Ese.lt (Nat.le_of_eq g100.symm)) ltsf)
        have ne_tse_tsf : tse ≠ tsf := Nat.ne_of_lt (Nat.lt_trans (Nat.lt_of_lt_of_le Ase.lt (Nat.le_of_eq g100.symm)) ltsf)
        have hpsf := own_two r20 r21
        have f102 : Old Z n0 T100.heap := (f96.keep Ksf all0)
        have go103 : ∀ tgt, Steps p.tables e below (T100.setTop (mkF m 442 #[.val (.int p0), .val (.int p1), .val (.int p2), .val (.int p3), .val (.int p4), .val (.int b5), .val (.int b6), .val (.int b7), .val (.int b8), .val (.int b9), .val (.int v10), .val (.int v11), .val (.int v12), .val (.int v13), .val (.int v14), .val (.int v15), .val (.int v16), .val (.int v17), .val (.int v18), .val (.int v19), .val (.int v20), .val (.int v21), .val (.int v22), .val (.int v23), .val (.int v24), .val (.int v25), .val (.ref x), .val (.int v27), .unset, .unset] [(.int v25), (.ref sf), (.ref (own_vs g0 g1 g2 v23)), (.ref se), (.ref sd), (.ref y), (.ref y)])) tgt → Steps p.tables e below E0 tgt := fun tgt kont => go100 tgt (by
          show Steps p.tables e below (T100.setTop (mkF m 440 #[.val (.int p0), .val (.int p1), .val (.int p2), .val (.int p3), .val (.int p4), .val (.int b5), .val (.int b6), .val (.int b7), .val (.int b8), .val (.int b9), .val (.int v10), .val (.int v11), .val (.int v12), .val (.int v13), .val (.int v14), .val (.int v15), .val (.int v16), .val (.int v17), .val (.int v18), .val (.int v19), .val (.int v20), .val (.int v21), .val (.int v22), .val (.int v23), .val (.int v24), .val (.int v25), .val (.ref x), .val (.int v27), .unset, .unset] [(.ref sf), (.ref (own_vs g0 g1 g2 v23)), (.ref se), (.ref sd), (.ref y), (.ref y)])) tgt
          refine XS.iload X100.here hx rfl (hb hby at_440) rfl ?_
          exact kont)
        obtain ⟨_, _, ⟨T104, L104, k104, n104⟩, -, X104, ⟨Lc104, hQ104, l104, y104, z104⟩, st104⟩ := Jvm.LawKit.callS X100 hx (y := (⟨"bourseline/model/MemberSessionEqualsPinLaw", "rule", "(I)Lbourseline/model/SelfMatchInstruction;"⟩ : MethodName)) hown55 (mvT hZ55 (hw _ (List.mem_of_getElem? (i := 43) rfl))) (mvT hZ55 (hw _ (List.mem_of_getElem? (i := 44) rfl))) (mvT hZ55 (hw _ (List.mem_of_getElem? (i := 5) rfl))) (mvT hZ55 (hw _ (List.mem_of_getElem? (i := 45) rfl))) (by decide) (backOf (W := 6) (rmRL l Z a0 hw [] v25 r0 r1 r2 T100.heap n0 z101 (Sr0.ext f102.2) (Sr1.ext f102.2) (Sr2.ext f102.2)) hZ55 (hw _ (List.mem_of_getElem? (i := 45) rfl)) (hw _ (List.mem_of_getElem? (i := 5) rfl)) (by decide) (by decide)) (g := (mkF m 442 #[.val (.int p0), .val (.int p1), .val (.int p2), .val (.int p3), .val (.int p4), .val (.int b5), .val (.int b6), .val (.int b7), .val (.int b8), .val (.int b9), .val (.int v10), .val (.int v11), .val (.int v12), .val (.int v13), .val (.int v14), .val (.int v15), .val (.int v16), .val (.int v17), .val (.int v18), .val (.int v19), .val (.int v20), .val (.int v21), .val (.int v22), .val (.int v23), .val (.int v24), .val (.int v25), .val (.ref x), .val (.int v27), .unset, .unset] [(.int v25), (.ref sf), (.ref (own_vs g0 g1 g2 v23)), (.ref se), (.ref sd), (.ref y), (.ref y)])) rfl (by rw [hml]; rfl) (argsL := [(.int v25)]) (rest := [(.ref sf), (.ref (own_vs g0 g1 g2 v23)), (.ref se), (.ref sd), (.ref y), (.ref y)]) (lenOf pd_10 rfl) rfl (by show 2 * 0 + _ ≤ _; exact Nat.le_of_eq rfl) (hb hby at_442) (fun _ _ => ⟨rfl, rfl, (by decide : 28 + 0 ≤ _), (by decide : 186 + 0 ≤ _)⟩)
        dsimp only [Pt.U, Pt.locs, Pt.cells, Pt.slots] at X104 l104 y104 z104 st104 hQ104
        subst l104 y104 z104
        obtain ⟨rfl, N104q, e104⟩ := hQ104
        have N104 := Fr.app N100 N104q
        have go104 : ∀ tgt, Steps p.tables e below (T104.setTop (mkF m 445 #[.val (.int p0), .val (.int p1), .val (.int p2), .val (.int p3), .val (.int p4), .val (.int b5), .val (.int b6), .val (.int b7), .val (.int b8), .val (.int b9), .val (.int v10), .val (.int v11), .val (.int v12), .val (.int v13), .val (.int v14), .val (.int v15), .val (.int v16), .val (.int v17), .val (.int v18), .val (.int v19), .val (.int v20), .val (.int v21), .val (.int v22), .val (.int v23), .val (.int v24), .val (.int v25), .val (.ref x), .val (.int v27), .unset, .unset] [(own_rl r0 r1 r2 v25), (.ref sf), (.ref (own_vs g0 g1 g2 v23)), (.ref se), (.ref sd), (.ref y), (.ref y)])) tgt → Steps p.tables e below E0 tgt := fun tgt kont => go103 tgt (st104 tgt kont)
        have f105 : Exa Z T100.heap y "bourseline/model/MemberSession" := (((A86.keep Ksd).keep Kse).keep Ksf)
        have f106 : Fld Z T100.heap y "bourseline/model/MemberSession" "sender" "Ljava/lang/String;" .null := (((Fsender_y.keep Ksd nin0).keep Kse nin0).keep Ksf nin0)
        have f107 : Fld Z T100.heap y "bourseline/model/MemberSession" "target" "Ljava/lang/String;" .null := (((Ftarget_y.keep Ksd nin0).keep Kse nin0).keep Ksf nin0)
        have f108 : Fld Z T100.heap y "bourseline/model/MemberSession" "fixVersion" "Lbourseline/model/FixVersion;" .null := (((FfixVersion_y.keep Ksd nin0).keep Kse nin0).keep Ksf nin0)
        have f109 : Fld Z T100.heap y "bourseline/model/MemberSession" "member" "Ljava/lang/String;" .null := (((Fmember_y.keep Ksd nin0).keep Kse nin0).keep Ksf nin0)
        have f110 : Fld Z T100.heap y "bourseline/model/MemberSession" "selfMatchRule" "Lbourseline/model/SelfMatchInstruction;" .null := (((FselfMatchRule_y.keep Ksd nin0).keep Kse nin0).keep Ksf nin0)
        obtain ⟨_, _, ⟨T111, L111, k111, n111⟩, -, Xp111, hSp111, hgp111, ⟨Lc111, hQ111, l111, y111, z111⟩, st111⟩ := X104.specialBackS hx (y := (⟨"bourseline/model/MemberSession", "<init>", "(Ljava/lang/String;Ljava/lang/String;Lbourseline/model/FixVersion;Ljava/lang/String;Lbourseline/model/SelfMatchInstruction;)V"⟩ : MethodName)) rfl hown55 (mvT hZ55 (hw _ (List.mem_of_getElem? (i := 49) rfl))) (mvT hZ55 (hw _ (List.mem_of_getElem? (i := 50) rfl))) (mvT hZ55 (hw _ (List.mem_of_getElem? (i := 51) rfl))) (by decide) (backOfS (W := 1) (rmMI l Z a0 hw [] y sd se (own_vs g0 g1 g2 v23) sf (own_rl r0 r1 r2 v25) T100.heap n0 z101 (own_rlr r0 r1 r2 v25) f105 ge_y f106 f107 f108 f109 f110) hZ55 (hw _ (List.mem_of_getElem? (i := 51) rfl)) (hw _ (List.mem_of_getElem? (i := 2) rfl)) (by decide) (by decide)) (g := (mkF m 445 #[.val (.int p0), .val (.int p1), .val (.int p2), .val (.int p3), .val (.int p4), .val (.int b5), .val (.int b6), .val (.int b7), .val (.int b8), .val (.int b9), .val (.int v10), .val (.int v11), .val (.int v12), .val (.int v13), .val (.int v14), .val (.int v15), .val (.int v16), .val (.int v17), .val (.int v18), .val (.int v19), .val (.int v20), .val (.int v21), .val (.int v22), .val (.int v23), .val (.int v24), .val (.int v25), .val (.ref x), .val (.int v27), .unset, .unset] [(own_rl r0 r1 r2 v25), (.ref sf), (.ref (own_vs g0 g1 g2 v23)), (.ref se), (.ref sd), (.ref y), (.ref y)])) rfl (by rw [hml]; rfl) (Steps.refl _) (a := y) (argsL := [(.ref sd), (.ref se), (.ref (own_vs g0 g1 g2 v23)), (.ref sf), (own_rl r0 r1 r2 v25)]) (rest := [(.ref y)]) (lenOf pd_11 rfl) rfl (by show 2 * 0 + _ ≤ _; exact Nat.le_of_eq rfl) (hb hby at_445) (fun _ _ => ⟨rfl, e104, (by decide : 28 + 8 ≤ _), (by decide : 186 + 128 ≤ _)⟩)
        dsimp only [Pt.U, Pt.locs, Pt.cells, Pt.slots] at Xp111 hSp111 hgp111 l111 y111 z111 st111 hQ111
        subst l111 y111 z111
        obtain ⟨X111, hS111, hZ111, hown111⟩ := rebS hS55 (by rw [e104]; exact (Nat.le_trans (Nat.le_refl _) (Nat.le_trans (Nat.le_trans (Nat.le_trans E86.1 Ksd.1) Kse.1) Ksf.1))) Xp111 hSp111 hgp111 hZ55 hown55
        obtain ⟨rfl, N111q, Ky, Ey, Fy0, Fy1, Fy2, Fy3, Fy4⟩ := hQ111
        have N111 := Fr.app N104 N111q
        have z112 : n0 ≤ T111.heap.size := Nat.le_trans z101 Ky.1
        have go111 : ∀ tgt, Steps p.tables e below (T111.setTop (mkF m 448 #[.val (.int p0), .val (.int p1), .val (.int p2), .val (.int p3), .val (.int p4), .val (.int b5), .val (.int b6), .val (.int b7), .val (.int b8), .val (.int b9), .val (.int v10), .val (.int v11), .val (.int v12), .val (.int v13), .val (.int v14), .val (.int v15), .val (.int v16), .val (.int v17), .val (.int v18), .val (.int v19), .val (.int v20), .val (.int v21), .val (.int v22), .val (.int v23), .val (.int v24), .val (.int v25), .val (.ref x), .val (.int v27), .unset, .unset] [(.ref y)])) tgt → Steps p.tables e below E0 tgt := fun tgt kont => go104 tgt (st111.trans kont)
        have go113 : ∀ tgt, Steps p.tables e below (T111.setTop (mkF m 454 #[.val (.int p0), .val (.int p1), .val (.int p2), .val (.int p3), .val (.int p4), .val (.int b5), .val (.int b6), .val (.int b7), .val (.int b8), .val (.int b9), .val (.int v10), .val (.int v11), .val (.int v12), .val (.int v13), .val (.int v14), .val (.int v15), .val (.int v16), .val (.int v17), .val (.int v18), .val (.int v19), .val (.int v20), .val (.int v21), .val (.int v22), .val (.int v23), .val (.int v24), .val (.int v25), .val (.ref x), .val (.int v27), .val (.ref y), .unset] [(.int v12), (.int v10)])) tgt → Steps p.tables e below E0 tgt := fun tgt kont => go111 tgt (by
          show Steps p.tables e below (T111.setTop (mkF m 448 #[.val (.int p0), .val (.int p1), .val (.int p2), .val (.int p3), .val (.int p4), .val (.int b5), .val (.int b6), .val (.int b7), .val (.int b8), .val (.int b9), .val (.int v10), .val (.int v11), .val (.int v12), .val (.int v13), .val (.int v14), .val (.int v15), .val (.int v16), .val (.int v17), .val (.int v18), .val (.int v19), .val (.int v20), .val (.int v21), .val (.int v22), .val (.int v23), .val (.int v24), .val (.int v25), .val (.ref x), .val (.int v27), .unset, .unset] [(.ref y)])) tgt
          refine XS.astore X111.here hx rfl (hb hby at_448) rfl rfl (l' := #[.val (.int p0), .val (.int p1), .val (.int p2), .val (.int p3), .val (.int p4), .val (.int b5), .val (.int b6), .val (.int b7), .val (.int b8), .val (.int b9), .val (.int v10), .val (.int v11), .val (.int v12), .val (.int v13), .val (.int v14), .val (.int v15), .val (.int v16), .val (.int v17), .val (.int v18), .val (.int v19), .val (.int v20), .val (.int v21), .val (.int v22), .val (.int v23), .val (.int v24), .val (.int v25), .val (.ref x), .val (.int v27), .val (.ref y), .unset]) rfl ?_
          show Steps p.tables e below (T111.setTop (mkF m 450 #[.val (.int p0), .val (.int p1), .val (.int p2), .val (.int p3), .val (.int p4), .val (.int b5), .val (.int b6), .val (.int b7), .val (.int b8), .val (.int b9), .val (.int v10), .val (.int v11), .val (.int v12), .val (.int v13), .val (.int v14), .val (.int v15), .val (.int v16), .val (.int v17), .val (.int v18), .val (.int v19), .val (.int v20), .val (.int v21), .val (.int v22), .val (.int v23), .val (.int v24), .val (.int v25), .val (.ref x), .val (.int v27), .val (.ref y), .unset] [])) tgt
          refine XS.iload X111.here hx rfl (hb hby at_450) rfl ?_
          show Steps p.tables e below (T111.setTop (mkF m 452 #[.val (.int p0), .val (.int p1), .val (.int p2), .val (.int p3), .val (.int p4), .val (.int b5), .val (.int b6), .val (.int b7), .val (.int b8), .val (.int b9), .val (.int v10), .val (.int v11), .val (.int v12), .val (.int v13), .val (.int v14), .val (.int v15), .val (.int v16), .val (.int v17), .val (.int v18), .val (.int v19), .val (.int v20), .val (.int v21), .val (.int v22), .val (.int v23), .val (.int v24), .val (.int v25), .val (.ref x), .val (.int v27), .val (.ref y), .unset] [(.int v10)])) tgt
          refine XS.iload X111.here hx rfl (hb hby at_452) rfl ?_
          exact kont)
        obtain ⟨b29, hb29, go114⟩ : ∃ b29 : Int32, ((b29 = 1 ∧ (v10 = v12 ∧ v11 = v13 ∧ v14 = v16 ∧ v15 = v17 ∧ v22 = v23 ∧ v18 = v20 ∧ v19 = v21 ∧ v24 = v25)) ∨ (b29 = 0 ∧ ¬ (v10 = v12 ∧ v11 = v13 ∧ v14 = v16 ∧ v15 = v17 ∧ v22 = v23 ∧ v18 = v20 ∧ v19 = v21 ∧ v24 = v25))) ∧ ∀ tgt, Steps p.tables e below (T111.setTop (mkF m 513 #[.val (.int p0), .val (.int p1), .val (.int p2), .val (.int p3), .val (.int p4), .val (.int b5), .val (.int b6), .val (.int b7), .val (.int b8), .val (.int b9), .val (.int v10), .val (.int v11), .val (.int v12), .val (.int v13), .val (.int v14), .val (.int v15), .val (.int v16), .val (.int v17), .val (.int v18), .val (.int v19), .val (.int v20), .val (.int v21), .val (.int v22), .val (.int v23), .val (.int v24), .val (.int v25), .val (.ref x), .val (.int v27), .val (.ref y), .val (.int b29)] [])) tgt → Steps p.tables e below E0 tgt := by
          by_cases u0 : v10 = v12
          · by_cases u1 : v11 = v13
            · by_cases u2 : v14 = v16
              · by_cases u3 : v15 = v17
                · by_cases u4 : v22 = v23
                  · by_cases u5 : v18 = v20
                    · by_cases u6 : v19 = v21
                      · by_cases u7 : v24 = v25
                        · exact ⟨1, Or.inl ⟨rfl, u0, u1, u2, u3, u4, u5, u6, u7⟩, fun tgt kont => go113 tgt (by
                            show Steps p.tables e below (T111.setTop (mkF m 454 #[.val (.int p0), .val (.int p1), .val (.int p2), .val (.int p3), .val (.int p4), .val (.int b5), .val (.int b6), .val (.int b7), .val (.int b8), .val (.int b9), .val (.int v10), .val (.int v11), .val (.int v12), .val (.int v13), .val (.int v14), .val (.int v15), .val (.int v16), .val (.int v17), .val (.int v18), .val (.int v19), .val (.int v20), .val (.int v21), .val (.int v22), .val (.int v23), .val (.int v24), .val (.int v25), .val (.ref x), .val (.int v27), .val (.ref y), .unset] [(.int v12), (.int v10)])) tgt
                            refine XS.icmpNo X111.here hx rfl (hb hby at_454) rfl (teq u0).2 ?_
                            show Steps p.tables e below (T111.setTop (mkF m 457 #[.val (.int p0), .val (.int p1), .val (.int p2), .val (.int p3), .val (.int p4), .val (.int b5), .val (.int b6), .val (.int b7), .val (.int b8), .val (.int b9), .val (.int v10), .val (.int v11), .val (.int v12), .val (.int v13), .val (.int v14), .val (.int v15), .val (.int v16), .val (.int v17), .val (.int v18), .val (.int v19), .val (.int v20), .val (.int v21), .val (.int v22), .val (.int v23), .val (.int v24), .val (.int v25), .val (.ref x), .val (.int v27), .val (.ref y), .unset] [])) tgt
                            refine XS.iload X111.here hx rfl (hb hby at_457) rfl ?_
                            show Steps p.tables e below (T111.setTop (mkF m 459 #[.val (.int p0), .val (.int p1), .val (.int p2), .val (.int p3), .val (.int p4), .val (.int b5), .val (.int b6), .val (.int b7), .val (.int b8), .val (.int b9), .val (.int v10), .val (.int v11), .val (.int v12), .val (.int v13), .val (.int v14), .val (.int v15), .val (.int v16), .val (.int v17), .val (.int v18), .val (.int v19), .val (.int v20), .val (.int v21), .val (.int v22), .val (.int v23), .val (.int v24), .val (.int v25), .val (.ref x), .val (.int v27), .val (.ref y), .unset] [(.int v11)])) tgt
                            refine XS.iload X111.here hx rfl (hb hby at_459) rfl ?_
                            show Steps p.tables e below (T111.setTop (mkF m 461 #[.val (.int p0), .val (.int p1), .val (.int p2), .val (.int p3), .val (.int p4), .val (.int b5), .val (.int b6), .val (.int b7), .val (.int b8), .val (.int b9), .val (.int v10), .val (.int v11), .val (.int v12), .val (.int v13), .val (.int v14), .val (.int v15), .val (.int v16), .val (.int v17), .val (.int v18), .val (.int v19), .val (.int v20), .val (.int v21), .val (.int v22), .val (.int v23), .val (.int v24), .val (.int v25), .val (.ref x), .val (.int v27), .val (.ref y), .unset] [(.int v13), (.int v11)])) tgt
                            refine XS.icmpNo X111.here hx rfl (hb hby at_461) rfl (teq u1).2 ?_
                            show Steps p.tables e below (T111.setTop (mkF m 464 #[.val (.int p0), .val (.int p1), .val (.int p2), .val (.int p3), .val (.int p4), .val (.int b5), .val (.int b6), .val (.int b7), .val (.int b8), .val (.int b9), .val (.int v10), .val (.int v11), .val (.int v12), .val (.int v13), .val (.int v14), .val (.int v15), .val (.int v16), .val (.int v17), .val (.int v18), .val (.int v19), .val (.int v20), .val (.int v21), .val (.int v22), .val (.int v23), .val (.int v24), .val (.int v25), .val (.ref x), .val (.int v27), .val (.ref y), .unset] [])) tgt
                            refine XS.iload X111.here hx rfl (hb hby at_464) rfl ?_
                            show Steps p.tables e below (T111.setTop (mkF m 466 #[.val (.int p0), .val (.int p1), .val (.int p2), .val (.int p3), .val (.int p4), .val (.int b5), .val (.int b6), .val (.int b7), .val (.int b8), .val (.int b9), .val (.int v10), .val (.int v11), .val (.int v12), .val (.int v13), .val (.int v14), .val (.int v15), .val (.int v16), .val (.int v17), .val (.int v18), .val (.int v19), .val (.int v20), .val (.int v21), .val (.int v22), .val (.int v23), .val (.int v24), .val (.int v25), .val (.ref x), .val (.int v27), .val (.ref y), .unset] [(.int v14)])) tgt
                            refine XS.iload X111.here hx rfl (hb hby at_466) rfl ?_
                            show Steps p.tables e below (T111.setTop (mkF m 468 #[.val (.int p0), .val (.int p1), .val (.int p2), .val (.int p3), .val (.int p4), .val (.int b5), .val (.int b6), .val (.int b7), .val (.int b8), .val (.int b9), .val (.int v10), .val (.int v11), .val (.int v12), .val (.int v13), .val (.int v14), .val (.int v15), .val (.int v16), .val (.int v17), .val (.int v18), .val (.int v19), .val (.int v20), .val (.int v21), .val (.int v22), .val (.int v23), .val (.int v24), .val (.int v25), .val (.ref x), .val (.int v27), .val (.ref y), .unset] [(.int v16), (.int v14)])) tgt
                            refine XS.icmpNo X111.here hx rfl (hb hby at_468) rfl (teq u2).2 ?_
                            show Steps p.tables e below (T111.setTop (mkF m 471 #[.val (.int p0), .val (.int p1), .val (.int p2), .val (.int p3), .val (.int p4), .val (.int b5), .val (.int b6), .val (.int b7), .val (.int b8), .val (.int b9), .val (.int v10), .val (.int v11), .val (.int v12), .val (.int v13), .val (.int v14), .val (.int v15), .val (.int v16), .val (.int v17), .val (.int v18), .val (.int v19), .val (.int v20), .val (.int v21), .val (.int v22), .val (.int v23), .val (.int v24), .val (.int v25), .val (.ref x), .val (.int v27), .val (.ref y), .unset] [])) tgt
                            refine XS.iload X111.here hx rfl (hb hby at_471) rfl ?_
                            show Steps p.tables e below (T111.setTop (mkF m 473 #[.val (.int p0), .val (.int p1), .val (.int p2), .val (.int p3), .val (.int p4), .val (.int b5), .val (.int b6), .val (.int b7), .val (.int b8), .val (.int b9), .val (.int v10), .val (.int v11), .val (.int v12), .val (.int v13), .val (.int v14), .val (.int v15), .val (.int v16), .val (.int v17), .val (.int v18), .val (.int v19), .val (.int v20), .val (.int v21), .val (.int v22), .val (.int v23), .val (.int v24), .val (.int v25), .val (.ref x), .val (.int v27), .val (.ref y), .unset] [(.int v15)])) tgt
                            refine XS.iload X111.here hx rfl (hb hby at_473) rfl ?_
                            show Steps p.tables e below (T111.setTop (mkF m 475 #[.val (.int p0), .val (.int p1), .val (.int p2), .val (.int p3), .val (.int p4), .val (.int b5), .val (.int b6), .val (.int b7), .val (.int b8), .val (.int b9), .val (.int v10), .val (.int v11), .val (.int v12), .val (.int v13), .val (.int v14), .val (.int v15), .val (.int v16), .val (.int v17), .val (.int v18), .val (.int v19), .val (.int v20), .val (.int v21), .val (.int v22), .val (.int v23), .val (.int v24), .val (.int v25), .val (.ref x), .val (.int v27), .val (.ref y), .unset] [(.int v17), (.int v15)])) tgt
                            refine XS.icmpNo X111.here hx rfl (hb hby at_475) rfl (teq u3).2 ?_
                            show Steps p.tables e below (T111.setTop (mkF m 478 #[.val (.int p0), .val (.int p1), .val (.int p2), .val (.int p3), .val (.int p4), .val (.int b5), .val (.int b6), .val (.int b7), .val (.int b8), .val (.int b9), .val (.int v10), .val (.int v11), .val (.int v12), .val (.int v13), .val (.int v14), .val (.int v15), .val (.int v16), .val (.int v17), .val (.int v18), .val (.int v19), .val (.int v20), .val (.int v21), .val (.int v22), .val (.int v23), .val (.int v24), .val (.int v25), .val (.ref x), .val (.int v27), .val (.ref y), .unset] [])) tgt
                            refine XS.iload X111.here hx rfl (hb hby at_478) rfl ?_
                            show Steps p.tables e below (T111.setTop (mkF m 480 #[.val (.int p0), .val (.int p1), .val (.int p2), .val (.int p3), .val (.int p4), .val (.int b5), .val (.int b6), .val (.int b7), .val (.int b8), .val (.int b9), .val (.int v10), .val (.int v11), .val (.int v12), .val (.int v13), .val (.int v14), .val (.int v15), .val (.int v16), .val (.int v17), .val (.int v18), .val (.int v19), .val (.int v20), .val (.int v21), .val (.int v22), .val (.int v23), .val (.int v24), .val (.int v25), .val (.ref x), .val (.int v27), .val (.ref y), .unset] [(.int v22)])) tgt
                            refine XS.iload X111.here hx rfl (hb hby at_480) rfl ?_
                            show Steps p.tables e below (T111.setTop (mkF m 482 #[.val (.int p0), .val (.int p1), .val (.int p2), .val (.int p3), .val (.int p4), .val (.int b5), .val (.int b6), .val (.int b7), .val (.int b8), .val (.int b9), .val (.int v10), .val (.int v11), .val (.int v12), .val (.int v13), .val (.int v14), .val (.int v15), .val (.int v16), .val (.int v17), .val (.int v18), .val (.int v19), .val (.int v20), .val (.int v21), .val (.int v22), .val (.int v23), .val (.int v24), .val (.int v25), .val (.ref x), .val (.int v27), .val (.ref y), .unset] [(.int v23), (.int v22)])) tgt
                            refine XS.icmpNo X111.here hx rfl (hb hby at_482) rfl (teq u4).2 ?_
                            show Steps p.tables e below (T111.setTop (mkF m 485 #[.val (.int p0), .val (.int p1), .val (.int p2), .val (.int p3), .val (.int p4), .val (.int b5), .val (.int b6), .val (.int b7), .val (.int b8), .val (.int b9), .val (.int v10), .val (.int v11), .val (.int v12), .val (.int v13), .val (.int v14), .val (.int v15), .val (.int v16), .val (.int v17), .val (.int v18), .val (.int v19), .val (.int v20), .val (.int v21), .val (.int v22), .val (.int v23), .val (.int v24), .val (.int v25), .val (.ref x), .val (.int v27), .val (.ref y), .unset] [])) tgt
                            refine XS.iload X111.here hx rfl (hb hby at_485) rfl ?_
                            show Steps p.tables e below (T111.setTop (mkF m 487 #[.val (.int p0), .val (.int p1), .val (.int p2), .val (.int p3), .val (.int p4), .val (.int b5), .val (.int b6), .val (.int b7), .val (.int b8), .val (.int b9), .val (.int v10), .val (.int v11), .val (.int v12), .val (.int v13), .val (.int v14), .val (.int v15), .val (.int v16), .val (.int v17), .val (.int v18), .val (.int v19), .val (.int v20), .val (.int v21), .val (.int v22), .val (.int v23), .val (.int v24), .val (.int v25), .val (.ref x), .val (.int v27), .val (.ref y), .unset] [(.int v18)])) tgt
                            refine XS.iload X111.here hx rfl (hb hby at_487) rfl ?_
                            show Steps p.tables e below (T111.setTop (mkF m 489 #[.val (.int p0), .val (.int p1), .val (.int p2), .val (.int p3), .val (.int p4), .val (.int b5), .val (.int b6), .val (.int b7), .val (.int b8), .val (.int b9), .val (.int v10), .val (.int v11), .val (.int v12), .val (.int v13), .val (.int v14), .val (.int v15), .val (.int v16), .val (.int v17), .val (.int v18), .val (.int v19), .val (.int v20), .val (.int v21), .val (.int v22), .val (.int v23), .val (.int v24), .val (.int v25), .val (.ref x), .val (.int v27), .val (.ref y), .unset] [(.int v20), (.int v18)])) tgt
                            refine XS.icmpNo X111.here hx rfl (hb hby at_489) rfl (teq u5).2 ?_
                            show Steps p.tables e below (T111.setTop (mkF m 492 #[.val (.int p0), .val (.int p1), .val (.int p2), .val (.int p3), .val (.int p4), .val (.int b5), .val (.int b6), .val (.int b7), .val (.int b8), .val (.int b9), .val (.int v10), .val (.int v11), .val (.int v12), .val (.int v13), .val (.int v14), .val (.int v15), .val (.int v16), .val (.int v17), .val (.int v18), .val (.int v19), .val (.int v20), .val (.int v21), .val (.int v22), .val (.int v23), .val (.int v24), .val (.int v25), .val (.ref x), .val (.int v27), .val (.ref y), .unset] [])) tgt
                            refine XS.iload X111.here hx rfl (hb hby at_492) rfl ?_
                            show Steps p.tables e below (T111.setTop (mkF m 494 #[.val (.int p0), .val (.int p1), .val (.int p2), .val (.int p3), .val (.int p4), .val (.int b5), .val (.int b6), .val (.int b7), .val (.int b8), .val (.int b9), .val (.int v10), .val (.int v11), .val (.int v12), .val (.int v13), .val (.int v14), .val (.int v15), .val (.int v16), .val (.int v17), .val (.int v18), .val (.int v19), .val (.int v20), .val (.int v21), .val (.int v22), .val (.int v23), .val (.int v24), .val (.int v25), .val (.ref x), .val (.int v27), .val (.ref y), .unset] [(.int v19)])) tgt
                            refine XS.iload X111.here hx rfl (hb hby at_494) rfl ?_
                            show Steps p.tables e below (T111.setTop (mkF m 496 #[.val (.int p0), .val (.int p1), .val (.int p2), .val (.int p3), .val (.int p4), .val (.int b5), .val (.int b6), .val (.int b7), .val (.int b8), .val (.int b9), .val (.int v10), .val (.int v11), .val (.int v12), .val (.int v13), .val (.int v14), .val (.int v15), .val (.int v16), .val (.int v17), .val (.int v18), .val (.int v19), .val (.int v20), .val (.int v21), .val (.int v22), .val (.int v23), .val (.int v24), .val (.int v25), .val (.ref x), .val (.int v27), .val (.ref y), .unset] [(.int v21), (.int v19)])) tgt
                            refine XS.icmpNo X111.here hx rfl (hb hby at_496) rfl (teq u6).2 ?_
                            show Steps p.tables e below (T111.setTop (mkF m 499 #[.val (.int p0), .val (.int p1), .val (.int p2), .val (.int p3), .val (.int p4), .val (.int b5), .val (.int b6), .val (.int b7), .val (.int b8), .val (.int b9), .val (.int v10), .val (.int v11), .val (.int v12), .val (.int v13), .val (.int v14), .val (.int v15), .val (.int v16), .val (.int v17), .val (.int v18), .val (.int v19), .val (.int v20), .val (.int v21), .val (.int v22), .val (.int v23), .val (.int v24), .val (.int v25), .val (.ref x), .val (.int v27), .val (.ref y), .unset] [])) tgt
                            refine XS.iload X111.here hx rfl (hb hby at_499) rfl ?_
                            show Steps p.tables e below (T111.setTop (mkF m 501 #[.val (.int p0), .val (.int p1), .val (.int p2), .val (.int p3), .val (.int p4), .val (.int b5), .val (.int b6), .val (.int b7), .val (.int b8), .val (.int b9), .val (.int v10), .val (.int v11), .val (.int v12), .val (.int v13), .val (.int v14), .val (.int v15), .val (.int v16), .val (.int v17), .val (.int v18), .val (.int v19), .val (.int v20), .val (.int v21), .val (.int v22), .val (.int v23), .val (.int v24), .val (.int v25), .val (.ref x), .val (.int v27), .val (.ref y), .unset] [(.int v24)])) tgt
                            refine XS.iload X111.here hx rfl (hb hby at_501) rfl ?_
                            show Steps p.tables e below (T111.setTop (mkF m 503 #[.val (.int p0), .val (.int p1), .val (.int p2), .val (.int p3), .val (.int p4), .val (.int b5), .val (.int b6), .val (.int b7), .val (.int b8), .val (.int b9), .val (.int v10), .val (.int v11), .val (.int v12), .val (.int v13), .val (.int v14), .val (.int v15), .val (.int v16), .val (.int v17), .val (.int v18), .val (.int v19), .val (.int v20), .val (.int v21), .val (.int v22), .val (.int v23), .val (.int v24), .val (.int v25), .val (.ref x), .val (.int v27), .val (.ref y), .unset] [(.int v25), (.int v24)])) tgt
                            refine XS.icmpNo X111.here hx rfl (hb hby at_503) rfl (teq u7).2 ?_
                            show Steps p.tables e below (T111.setTop (mkF m 506 #[.val (.int p0), .val (.int p1), .val (.int p2), .val (.int p3), .val (.int p4), .val (.int b5), .val (.int b6), .val (.int b7), .val (.int b8), .val (.int b9), .val (.int v10), .val (.int v11), .val (.int v12), .val (.int v13), .val (.int v14), .val (.int v15), .val (.int v16), .val (.int v17), .val (.int v18), .val (.int v19), .val (.int v20), .val (.int v21), .val (.int v22), .val (.int v23), .val (.int v24), .val (.int v25), .val (.ref x), .val (.int v27), .val (.ref y), .unset] [])) tgt
                            refine XS.iconst X111.here hx rfl (hb hby at_506) ?_
                            show Steps p.tables e below (T111.setTop (mkF m 507 #[.val (.int p0), .val (.int p1), .val (.int p2), .val (.int p3), .val (.int p4), .val (.int b5), .val (.int b6), .val (.int b7), .val (.int b8), .val (.int b9), .val (.int v10), .val (.int v11), .val (.int v12), .val (.int v13), .val (.int v14), .val (.int v15), .val (.int v16), .val (.int v17), .val (.int v18), .val (.int v19), .val (.int v20), .val (.int v21), .val (.int v22), .val (.int v23), .val (.int v24), .val (.int v25), .val (.ref x), .val (.int v27), .val (.ref y), .unset] [(.int (1 : Int32))])) tgt
                            refine XS.goto X111.here hx rfl (pc0 := 507) (pc' := 511) rfl (hb hby at_507) (by decide) (by decide) ?_
                            show Steps p.tables e below (T111.setTop (mkF m 511 #[.val (.int p0), .val (.int p1), .val (.int p2), .val (.int p3), .val (.int p4), .val (.int b5), .val (.int b6), .val (.int b7), .val (.int b8), .val (.int b9), .val (.int v10), .val (.int v11), .val (.int v12), .val (.int v13), .val (.int v14), .val (.int v15), .val (.int v16), .val (.int v17), .val (.int v18), .val (.int v19), .val (.int v20), .val (.int v21), .val (.int v22), .val (.int v23), .val (.int v24), .val (.int v25), .val (.ref x), .val (.int v27), .val (.ref y), .unset] [(.int (1 : Int32))])) tgt
                            refine XS.istore X111.here hx rfl (hb hby at_511) rfl (l' := #[.val (.int p0), .val (.int p1), .val (.int p2), .val (.int p3), .val (.int p4), .val (.int b5), .val (.int b6), .val (.int b7), .val (.int b8), .val (.int b9), .val (.int v10), .val (.int v11), .val (.int v12), .val (.int v13), .val (.int v14), .val (.int v15), .val (.int v16), .val (.int v17), .val (.int v18), .val (.int v19), .val (.int v20), .val (.int v21), .val (.int v22), .val (.int v23), .val (.int v24), .val (.int v25), .val (.ref x), .val (.int v27), .val (.ref y), .val (.int (1 : Int32))]) rfl ?_
                            exact kont)⟩
                        · exact ⟨0, Or.inr ⟨rfl, fun q => u7 q.2.2.2.2.2.2.2⟩, fun tgt kont => go113 tgt (by
                            show Steps p.tables e below (T111.setTop (mkF m 454 #[.val (.int p0), .val (.int p1), .val (.int p2), .val (.int p3), .val (.int p4), .val (.int b5), .val (.int b6), .val (.int b7), .val (.int b8), .val (.int b9), .val (.int v10), .val (.int v11), .val (.int v12), .val (.int v13), .val (.int v14), .val (.int v15), .val (.int v16), .val (.int v17), .val (.int v18), .val (.int v19), .val (.int v20), .val (.int v21), .val (.int v22), .val (.int v23), .val (.int v24), .val (.int v25), .val (.ref x), .val (.int v27), .val (.ref y), .unset] [(.int v12), (.int v10)])) tgt
                            refine XS.icmpNo X111.here hx rfl (hb hby at_454) rfl (teq u0).2 ?_
                            show Steps p.tables e below (T111.setTop (mkF m 457 #[.val (.int p0), .val (.int p1), .val (.int p2), .val (.int p3), .val (.int p4), .val (.int b5), .val (.int b6), .val (.int b7), .val (.int b8), .val (.int b9), .val (.int v10), .val (.int v11), .val (.int v12), .val (.int v13), .val (.int v14), .val (.int v15), .val (.int v16), .val (.int v17), .val (.int v18), .val (.int v19), .val (.int v20), .val (.int v21), .val (.int v22), .val (.int v23), .val (.int v24), .val (.int v25), .val (.ref x), .val (.int v27), .val (.ref y), .unset] [])) tgt
                            refine XS.iload X111.here hx rfl (hb hby at_457) rfl ?_
                            show Steps p.tables e below (T111.setTop (mkF m 459 #[.val (.int p0), .val (.int p1), .val (.int p2), .val (.int p3), .val (.int p4), .val (.int b5), .val (.int b6), .val (.int b7), .val (.int b8), .val (.int b9), .val (.int v10), .val (.int v11), .val (.int v12), .val (.int v13), .val (.int v14), .val (.int v15), .val (.int v16), .val (.int v17), .val (.int v18), .val (.int v19), .val (.int v20), .val (.int v21), .val (.int v22), .val (.int v23), .val (.int v24), .val (.int v25), .val (.ref x), .val (.int v27), .val (.ref y), .unset] [(.int v11)])) tgt
                            refine XS.iload X111.here hx rfl (hb hby at_459) rfl ?_
                            show Steps p.tables e below (T111.setTop (mkF m 461 #[.val (.int p0), .val (.int p1), .val (.int p2), .val (.int p3), .val (.int p4), .val (.int b5), .val (.int b6), .val (.int b7), .val (.int b8), .val (.int b9), .val (.int v10), .val (.int v11), .val (.int v12), .val (.int v13), .val (.int v14), .val (.int v15), .val (.int v16), .val (.int v17), .val (.int v18), .val (.int v19), .val (.int v20), .val (.int v21), .val (.int v22), .val (.int v23), .val (.int v24), .val (.int v25), .val (.ref x), .val (.int v27), .val (.ref y), .unset] [(.int v13), (.int v11)])) tgt
                            refine XS.icmpNo X111.here hx rfl (hb hby at_461) rfl (teq u1).2 ?_
                            show Steps p.tables e below (T111.setTop (mkF m 464 #[.val (.int p0), .val (.int p1), .val (.int p2), .val (.int p3), .val (.int p4), .val (.int b5), .val (.int b6), .val (.int b7), .val (.int b8), .val (.int b9), .val (.int v10), .val (.int v11), .val (.int v12), .val (.int v13), .val (.int v14), .val (.int v15), .val (.int v16), .val (.int v17), .val (.int v18), .val (.int v19), .val (.int v20), .val (.int v21), .val (.int v22), .val (.int v23), .val (.int v24), .val (.int v25), .val (.ref x), .val (.int v27), .val (.ref y), .unset] [])) tgt
                            refine XS.iload X111.here hx rfl (hb hby at_464) rfl ?_
                            show Steps p.tables e below (T111.setTop (mkF m 466 #[.val (.int p0), .val (.int p1), .val (.int p2), .val (.int p3), .val (.int p4), .val (.int b5), .val (.int b6), .val (.int b7), .val (.int b8), .val (.int b9), .val (.int v10), .val (.int v11), .val (.int v12), .val (.int v13), .val (.int v14), .val (.int v15), .val (.int v16), .val (.int v17), .val (.int v18), .val (.int v19), .val (.int v20), .val (.int v21), .val (.int v22), .val (.int v23), .val (.int v24), .val (.int v25), .val (.ref x), .val (.int v27), .val (.ref y), .unset] [(.int v14)])) tgt
                            refine XS.iload X111.here hx rfl (hb hby at_466) rfl ?_
                            show Steps p.tables e below (T111.setTop (mkF m 468 #[.val (.int p0), .val (.int p1), .val (.int p2), .val (.int p3), .val (.int p4), .val (.int b5), .val (.int b6), .val (.int b7), .val (.int b8), .val (.int b9), .val (.int v10), .val (.int v11), .val (.int v12), .val (.int v13), .val (.int v14), .val (.int v15), .val (.int v16), .val (.int v17), .val (.int v18), .val (.int v19), .val (.int v20), .val (.int v21), .val (.int v22), .val (.int v23), .val (.int v24), .val (.int v25), .val (.ref x), .val (.int v27), .val (.ref y), .unset] [(.int v16), (.int v14)])) tgt
                            refine XS.icmpNo X111.here hx rfl (hb hby at_468) rfl (teq u2).2 ?_
                            show Steps p.tables e below (T111.setTop (mkF m 471 #[.val (.int p0), .val (.int p1), .val (.int p2), .val (.int p3), .val (.int p4), .val (.int b5), .val (.int b6), .val (.int b7), .val (.int b8), .val (.int b9), .val (.int v10), .val (.int v11), .val (.int v12), .val (.int v13), .val (.int v14), .val (.int v15), .val (.int v16), .val (.int v17), .val (.int v18), .val (.int v19), .val (.int v20), .val (.int v21), .val (.int v22), .val (.int v23), .val (.int v24), .val (.int v25), .val (.ref x), .val (.int v27), .val (.ref y), .unset] [])) tgt
                            refine XS.iload X111.here hx rfl (hb hby at_471) rfl ?_
                            show Steps p.tables e below (T111.setTop (mkF m 473 #[.val (.int p0), .val (.int p1), .val (.int p2), .val (.int p3), .val (.int p4), .val (.int b5), .val (.int b6), .val (.int b7), .val (.int b8), .val (.int b9), .val (.int v10), .val (.int v11), .val (.int v12), .val (.int v13), .val (.int v14), .val (.int v15), .val (.int v16), .val (.int v17), .val (.int v18), .val (.int v19), .val (.int v20), .val (.int v21), .val (.int v22), .val (.int v23), .val (.int v24), .val (.int v25), .val (.ref x), .val (.int v27), .val (.ref y), .unset] [(.int v15)])) tgt
                            refine XS.iload X111.here hx rfl (hb hby at_473) rfl ?_
                            show Steps p.tables e below (T111.setTop (mkF m 475 #[.val (.int p0), .val (.int p1), .val (.int p2), .val (.int p3), .val (.int p4), .val (.int b5), .val (.int b6), .val (.int b7), .val (.int b8), .val (.int b9), .val (.int v10), .val (.int v11), .val (.int v12), .val (.int v13), .val (.int v14), .val (.int v15), .val (.int v16), .val (.int v17), .val (.int v18), .val (.int v19), .val (.int v20), .val (.int v21), .val (.int v22), .val (.int v23), .val (.int v24), .val (.int v25), .val (.ref x), .val (.int v27), .val (.ref y), .unset] [(.int v17), (.int v15)])) tgt
                            refine XS.icmpNo X111.here hx rfl (hb hby at_475) rfl (teq u3).2 ?_
                            show Steps p.tables e below (T111.setTop (mkF m 478 #[.val (.int p0), .val (.int p1), .val (.int p2), .val (.int p3), .val (.int p4), .val (.int b5), .val (.int b6), .val (.int b7), .val (.int b8), .val (.int b9), .val (.int v10), .val (.int v11), .val (.int v12), .val (.int v13), .val (.int v14), .val (.int v15), .val (.int v16), .val (.int v17), .val (.int v18), .val (.int v19), .val (.int v20), .val (.int v21), .val (.int v22), .val (.int v23), .val (.int v24), .val (.int v25), .val (.ref x), .val (.int v27), .val (.ref y), .unset] [])) tgt
                            refine XS.iload X111.here hx rfl (hb hby at_478) rfl ?_
                            show Steps p.tables e below (T111.setTop (mkF m 480 #[.val (.int p0), .val (.int p1), .val (.int p2), .val (.int p3), .val (.int p4), .val (.int b5), .val (.int b6), .val (.int b7), .val (.int b8), .val (.int b9), .val (.int v10), .val (.int v11), .val (.int v12), .val (.int v13), .val (.int v14), .val (.int v15), .val (.int v16), .val (.int v17), .val (.int v18), .val (.int v19), .val (.int v20), .val (.int v21), .val (.int v22), .val (.int v23), .val (.int v24), .val (.int v25), .val (.ref x), .val (.int v27), .val (.ref y), .unset] [(.int v22)])) tgt
                            refine XS.iload X111.here hx rfl (hb hby at_480) rfl ?_
                            show Steps p.tables e below (T111.setTop (mkF m 482 #[.val (.int p0), .val (.int p1), .val (.int p2), .val (.int p3), .val (.int p4), .val (.int b5), .val (.int b6), .val (.int b7), .val (.int b8), .val (.int b9), .val (.int v10), .val (.int v11), .val (.int v12), .val (.int v13), .val (.int v14), .val (.int v15), .val (.int v16), .val (.int v17), .val (.int v18), .val (.int v19), .val (.int v20), .val (.int v21), .val (.int v22), .val (.int v23), .val (.int v24), .val (.int v25), .val (.ref x), .val (.int v27), .val (.ref y), .unset] [(.int v23), (.int v22)])) tgt
                            refine XS.icmpNo X111.here hx rfl (hb hby at_482) rfl (teq u4).2 ?_
                            show Steps p.tables e below (T111.setTop (mkF m 485 #[.val (.int p0), .val (.int p1), .val (.int p2), .val (.int p3), .val (.int p4), .val (.int b5), .val (.int b6), .val (.int b7), .val (.int b8), .val (.int b9), .val (.int v10), .val (.int v11), .val (.int v12), .val (.int v13), .val (.int v14), .val (.int v15), .val (.int v16), .val (.int v17), .val (.int v18), .val (.int v19), .val (.int v20), .val (.int v21), .val (.int v22), .val (.int v23), .val (.int v24), .val (.int v25), .val (.ref x), .val (.int v27), .val (.ref y), .unset] [])) tgt
                            refine XS.iload X111.here hx rfl (hb hby at_485) rfl ?_
                            show Steps p.tables e below (T111.setTop (mkF m 487 #[.val (.int p0), .val (.int p1), .val (.int p2), .val (.int p3), .val (.int p4), .val (.int b5), .val (.int b6), .val (.int b7), .val (.int b8), .val (.int b9), .val (.int v10), .val (.int v11), .val (.int v12), .val (.int v13), .val (.int v14), .val (.int v15), .val (.int v16), .val (.int v17), .val (.int v18), .val (.int v19), .val (.int v20), .val (.int v21), .val (.int v22), .val (.int v23), .val (.int v24), .val (.int v25), .val (.ref x), .val (.int v27), .val (.ref y), .unset] [(.int v18)])) tgt
                            refine XS.iload X111.here hx rfl (hb hby at_487) rfl ?_
                            show Steps p.tables e below (T111.setTop (mkF m 489 #[.val (.int p0), .val (.int p1), .val (.int p2), .val (.int p3), .val (.int p4), .val (.int b5), .val (.int b6), .val (.int b7), .val (.int b8), .val (.int b9), .val (.int v10), .val (.int v11), .val (.int v12), .val (.int v13), .val (.int v14), .val (.int v15), .val (.int v16), .val (.int v17), .val (.int v18), .val (.int v19), .val (.int v20), .val (.int v21), .val (.int v22), .val (.int v23), .val (.int v24), .val (.int v25), .val (.ref x), .val (.int v27), .val (.ref y), .unset] [(.int v20), (.int v18)])) tgt
                            refine XS.icmpNo X111.here hx rfl (hb hby at_489) rfl (teq u5).2 ?_
                            show Steps p.tables e below (T111.setTop (mkF m 492 #[.val (.int p0), .val (.int p1), .val (.int p2), .val (.int p3), .val (.int p4), .val (.int b5), .val (.int b6), .val (.int b7), .val (.int b8), .val (.int b9), .val (.int v10), .val (.int v11), .val (.int v12), .val (.int v13), .val (.int v14), .val (.int v15), .val (.int v16), .val (.int v17), .val (.int v18), .val (.int v19), .val (.int v20), .val (.int v21), .val (.int v22), .val (.int v23), .val (.int v24), .val (.int v25), .val (.ref x), .val (.int v27), .val (.ref y), .unset] [])) tgt
                            refine XS.iload X111.here hx rfl (hb hby at_492) rfl ?_
                            show Steps p.tables e below (T111.setTop (mkF m 494 #[.val (.int p0), .val (.int p1), .val (.int p2), .val (.int p3), .val (.int p4), .val (.int b5), .val (.int b6), .val (.int b7), .val (.int b8), .val (.int b9), .val (.int v10), .val (.int v11), .val (.int v12), .val (.int v13), .val (.int v14), .val (.int v15), .val (.int v16), .val (.int v17), .val (.int v18), .val (.int v19), .val (.int v20), .val (.int v21), .val (.int v22), .val (.int v23), .val (.int v24), .val (.int v25), .val (.ref x), .val (.int v27), .val (.ref y), .unset] [(.int v19)])) tgt
                            refine XS.iload X111.here hx rfl (hb hby at_494) rfl ?_
                            show Steps p.tables e below (T111.setTop (mkF m 496 #[.val (.int p0), .val (.int p1), .val (.int p2), .val (.int p3), .val (.int p4), .val (.int b5), .val (.int b6), .val (.int b7), .val (.int b8), .val (.int b9), .val (.int v10), .val (.int v11), .val (.int v12), .val (.int v13), .val (.int v14), .val (.int v15), .val (.int v16), .val (.int v17), .val (.int v18), .val (.int v19), .val (.int v20), .val (.int v21), .val (.int v22), .val (.int v23), .val (.int v24), .val (.int v25), .val (.ref x), .val (.int v27), .val (.ref y), .unset] [(.int v21), (.int v19)])) tgt
                            refine XS.icmpNo X111.here hx rfl (hb hby at_496) rfl (teq u6).2 ?_
                            show Steps p.tables e below (T111.setTop (mkF m 499 #[.val (.int p0), .val (.int p1), .val (.int p2), .val (.int p3), .val (.int p4), .val (.int b5), .val (.int b6), .val (.int b7), .val (.int b8), .val (.int b9), .val (.int v10), .val (.int v11), .val (.int v12), .val (.int v13), .val (.int v14), .val (.int v15), .val (.int v16), .val (.int v17), .val (.int v18), .val (.int v19), .val (.int v20), .val (.int v21), .val (.int v22), .val (.int v23), .val (.int v24), .val (.int v25), .val (.ref x), .val (.int v27), .val (.ref y), .unset] [])) tgt
                            refine XS.iload X111.here hx rfl (hb hby at_499) rfl ?_
                            show Steps p.tables e below (T111.setTop (mkF m 501 #[.val (.int p0), .val (.int p1), .val (.int p2), .val (.int p3), .val (.int p4), .val (.int b5), .val (.int b6), .val (.int b7), .val (.int b8), .val (.int b9), .val (.int v10), .val (.int v11), .val (.int v12), .val (.int v13), .val (.int v14), .val (.int v15), .val (.int v16), .val (.int v17), .val (.int v18), .val (.int v19), .val (.int v20), .val (.int v21), .val (.int v22), .val (.int v23), .val (.int v24), .val (.int v25), .val (.ref x), .val (.int v27), .val (.ref y), .unset] [(.int v24)])) tgt
                            refine XS.iload X111.here hx rfl (hb hby at_501) rfl ?_
                            show Steps p.tables e below (T111.setTop (mkF m 503 #[.val (.int p0), .val (.int p1), .val (.int p2), .val (.int p3), .val (.int p4), .val (.int b5), .val (.int b6), .val (.int b7), .val (.int b8), .val (.int b9), .val (.int v10), .val (.int v11), .val (.int v12), .val (.int v13), .val (.int v14), .val (.int v15), .val (.int v16), .val (.int v17), .val (.int v18), .val (.int v19), .val (.int v20), .val (.int v21), .val (.int v22), .val (.int v23), .val (.int v24), .val (.int v25), .val (.ref x), .val (.int v27), .val (.ref y), .unset] [(.int v25), (.int v24)])) tgt
                            refine XS.icmpYes X111.here hx rfl (pc0 := 503) (pc' := 510) rfl (hb hby at_503) rfl (feq u7).2 (by decide) (by decide) ?_
                            show Steps p.tables e below (T111.setTop (mkF m 510 #[.val (.int p0), .val (.int p1), .val (.int p2), .val (.int p3), .val (.int p4), .val (.int b5), .val (.int b6), .val (.int b7), .val (.int b8), .val (.int b9), .val (.int v10), .val (.int v11), .val (.int v12), .val (.int v13), .val (.int v14), .val (.int v15), .val (.int v16), .val (.int v17), .val (.int v18), .val (.int v19), .val (.int v20), .val (.int v21), .val (.int v22), .val (.int v23), .val (.int v24), .val (.int v25), .val (.ref x), .val (.int v27), .val (.ref y), .unset] [])) tgt
                            refine XS.iconst X111.here hx rfl (hb hby at_510) ?_
                            show Steps p.tables e below (T111.setTop (mkF m 511 #[.val (.int p0), .val (.int p1), .val (.int p2), .val (.int p3), .val (.int p4), .val (.int b5), .val (.int b6), .val (.int b7), .val (.int b8), .val (.int b9), .val (.int v10), .val (.int v11), .val (.int v12), .val (.int v13), .val (.int v14), .val (.int v15), .val (.int v16), .val (.int v17), .val (.int v18), .val (.int v19), .val (.int v20), .val (.int v21), .val (.int v22), .val (.int v23), .val (.int v24), .val (.int v25), .val (.ref x), .val (.int v27), .val (.ref y), .unset] [(.int (0 : Int32))])) tgt
                            refine XS.istore X111.here hx rfl (hb hby at_511) rfl (l' := #[.val (.int p0), .val (.int p1), .val (.int p2), .val (.int p3), .val (.int p4), .val (.int b5), .val (.int b6), .val (.int b7), .val (.int b8), .val (.int b9), .val (.int v10), .val (.int v11), .val (.int v12), .val (.int v13), .val (.int v14), .val (.int v15), .val (.int v16), .val (.int v17), .val (.int v18), .val (.int v19), .val (.int v20), .val (.int v21), .val (.int v22), .val (.int v23), .val (.int v24), .val (.int v25), .val (.ref x), .val (.int v27), .val (.ref y), .val (.int (0 : Int32))]) rfl ?_
                            exact kont)⟩
                      · exact ⟨0, Or.inr ⟨rfl, fun q => u6 q.2.2.2.2.2.2.1⟩, fun tgt kont => go113 tgt (by
                          show Steps p.tables e below (T111.setTop (mkF m 454 #[.val (.int p0), .val (.int p1), .val (.int p2), .val (.int p3), .val (.int p4), .val (.int b5), .val (.int b6), .val (.int b7), .val (.int b8), .val (.int b9), .val (.int v10), .val (.int v11), .val (.int v12), .val (.int v13), .val (.int v14), .val (.int v15), .val (.int v16), .val (.int v17), .val (.int v18), .val (.int v19), .val (.int v20), .val (.int v21), .val (.int v22), .val (.int v23), .val (.int v24), .val (.int v25), .val (.ref x), .val (.int v27), .val (.ref y), .unset] [(.int v12), (.int v10)])) tgt
                          refine XS.icmpNo X111.here hx rfl (hb hby at_454) rfl (teq u0).2 ?_
                          show Steps p.tables e below (T111.setTop (mkF m 457 #[.val (.int p0), .val (.int p1), .val (.int p2), .val (.int p3), .val (.int p4), .val (.int b5), .val (.int b6), .val (.int b7), .val (.int b8), .val (.int b9), .val (.int v10), .val (.int v11), .val (.int v12), .val (.int v13), .val (.int v14), .val (.int v15), .val (.int v16), .val (.int v17), .val (.int v18), .val (.int v19), .val (.int v20), .val (.int v21), .val (.int v22), .val (.int v23), .val (.int v24), .val (.int v25), .val (.ref x), .val (.int v27), .val (.ref y), .unset] [])) tgt
                          refine XS.iload X111.here hx rfl (hb hby at_457) rfl ?_
                          show Steps p.tables e below (T111.setTop (mkF m 459 #[.val (.int p0), .val (.int p1), .val (.int p2), .val (.int p3), .val (.int p4), .val (.int b5), .val (.int b6), .val (.int b7), .val (.int b8), .val (.int b9), .val (.int v10), .val (.int v11), .val (.int v12), .val (.int v13), .val (.int v14), .val (.int v15), .val (.int v16), .val (.int v17), .val (.int v18), .val (.int v19), .val (.int v20), .val (.int v21), .val (.int v22), .val (.int v23), .val (.int v24), .val (.int v25), .val (.ref x), .val (.int v27), .val (.ref y), .unset] [(.int v11)])) tgt
                          refine XS.iload X111.here hx rfl (hb hby at_459) rfl ?_
                          show Steps p.tables e below (T111.setTop (mkF m 461 #[.val (.int p0), .val (.int p1), .val (.int p2), .val (.int p3), .val (.int p4), .val (.int b5), .val (.int b6), .val (.int b7), .val (.int b8), .val (.int b9), .val (.int v10), .val (.int v11), .val (.int v12), .val (.int v13), .val (.int v14), .val (.int v15), .val (.int v16), .val (.int v17), .val (.int v18), .val (.int v19), .val (.int v20), .val (.int v21), .val (.int v22), .val (.int v23), .val (.int v24), .val (.int v25), .val (.ref x), .val (.int v27), .val (.ref y), .unset] [(.int v13), (.int v11)])) tgt
                          refine XS.icmpNo X111.here hx rfl (hb hby at_461) rfl (teq u1).2 ?_
                          show Steps p.tables e below (T111.setTop (mkF m 464 #[.val (.int p0), .val (.int p1), .val (.int p2), .val (.int p3), .val (.int p4), .val (.int b5), .val (.int b6), .val (.int b7), .val (.int b8), .val (.int b9), .val (.int v10), .val (.int v11), .val (.int v12), .val (.int v13), .val (.int v14), .val (.int v15), .val (.int v16), .val (.int v17), .val (.int v18), .val (.int v19), .val (.int v20), .val (.int v21), .val (.int v22), .val (.int v23), .val (.int v24), .val (.int v25), .val (.ref x), .val (.int v27), .val (.ref y), .unset] [])) tgt
                          refine XS.iload X111.here hx rfl (hb hby at_464) rfl ?_
                          show Steps p.tables e below (T111.setTop (mkF m 466 #[.val (.int p0), .val (.int p1), .val (.int p2), .val (.int p3), .val (.int p4), .val (.int b5), .val (.int b6), .val (.int b7), .val (.int b8), .val (.int b9), .val (.int v10), .val (.int v11), .val (.int v12), .val (.int v13), .val (.int v14), .val (.int v15), .val (.int v16), .val (.int v17), .val (.int v18), .val (.int v19), .val (.int v20), .val (.int v21), .val (.int v22), .val (.int v23), .val (.int v24), .val (.int v25), .val (.ref x), .val (.int v27), .val (.ref y), .unset] [(.int v14)])) tgt
                          refine XS.iload X111.here hx rfl (hb hby at_466) rfl ?_
                          show Steps p.tables e below (T111.setTop (mkF m 468 #[.val (.int p0), .val (.int p1), .val (.int p2), .val (.int p3), .val (.int p4), .val (.int b5), .val (.int b6), .val (.int b7), .val (.int b8), .val (.int b9), .val (.int v10), .val (.int v11), .val (.int v12), .val (.int v13), .val (.int v14), .val (.int v15), .val (.int v16), .val (.int v17), .val (.int v18), .val (.int v19), .val (.int v20), .val (.int v21), .val (.int v22), .val (.int v23), .val (.int v24), .val (.int v25), .val (.ref x), .val (.int v27), .val (.ref y), .unset] [(.int v16), (.int v14)])) tgt
                          refine XS.icmpNo X111.here hx rfl (hb hby at_468) rfl (teq u2).2 ?_
                          show Steps p.tables e below (T111.setTop (mkF m 471 #[.val (.int p0), .val (.int p1), .val (.int p2), .val (.int p3), .val (.int p4), .val (.int b5), .val (.int b6), .val (.int b7), .val (.int b8), .val (.int b9), .val (.int v10), .val (.int v11), .val (.int v12), .val (.int v13), .val (.int v14), .val (.int v15), .val (.int v16), .val (.int v17), .val (.int v18), .val (.int v19), .val (.int v20), .val (.int v21), .val (.int v22), .val (.int v23), .val (.int v24), .val (.int v25), .val (.ref x), .val (.int v27), .val (.ref y), .unset] [])) tgt
                          refine XS.iload X111.here hx rfl (hb hby at_471) rfl ?_
                          show Steps p.tables e below (T111.setTop (mkF m 473 #[.val (.int p0), .val (.int p1), .val (.int p2), .val (.int p3), .val (.int p4), .val (.int b5), .val (.int b6), .val (.int b7), .val (.int b8), .val (.int b9), .val (.int v10), .val (.int v11), .val (.int v12), .val (.int v13), .val (.int v14), .val (.int v15), .val (.int v16), .val (.int v17), .val (.int v18), .val (.int v19), .val (.int v20), .val (.int v21), .val (.int v22), .val (.int v23), .val (.int v24), .val (.int v25), .val (.ref x), .val (.int v27), .val (.ref y), .unset] [(.int v15)])) tgt
                          refine XS.iload X111.here hx rfl (hb hby at_473) rfl ?_
                          show Steps p.tables e below (T111.setTop (mkF m 475 #[.val (.int p0), .val (.int p1), .val (.int p2), .val (.int p3), .val (.int p4), .val (.int b5), .val (.int b6), .val (.int b7), .val (.int b8), .val (.int b9), .val (.int v10), .val (.int v11), .val (.int v12), .val (.int v13), .val (.int v14), .val (.int v15), .val (.int v16), .val (.int v17), .val (.int v18), .val (.int v19), .val (.int v20), .val (.int v21), .val (.int v22), .val (.int v23), .val (.int v24), .val (.int v25), .val (.ref x), .val (.int v27), .val (.ref y), .unset] [(.int v17), (.int v15)])) tgt
                          refine XS.icmpNo X111.here hx rfl (hb hby at_475) rfl (teq u3).2 ?_
                          show Steps p.tables e below (T111.setTop (mkF m 478 #[.val (.int p0), .val (.int p1), .val (.int p2), .val (.int p3), .val (.int p4), .val (.int b5), .val (.int b6), .val (.int b7), .val (.int b8), .val (.int b9), .val (.int v10), .val (.int v11), .val (.int v12), .val (.int v13), .val (.int v14), .val (.int v15), .val (.int v16), .val (.int v17), .val (.int v18), .val (.int v19), .val (.int v20), .val (.int v21), .val (.int v22), .val (.int v23), .val (.int v24), .val (.int v25), .val (.ref x), .val (.int v27), .val (.ref y), .unset] [])) tgt
                          refine XS.iload X111.here hx rfl (hb hby at_478) rfl ?_
                          show Steps p.tables e below (T111.setTop (mkF m 480 #[.val (.int p0), .val (.int p1), .val (.int p2), .val (.int p3), .val (.int p4), .val (.int b5), .val (.int b6), .val (.int b7), .val (.int b8), .val (.int b9), .val (.int v10), .val (.int v11), .val (.int v12), .val (.int v13), .val (.int v14), .val (.int v15), .val (.int v16), .val (.int v17), .val (.int v18), .val (.int v19), .val (.int v20), .val (.int v21), .val (.int v22), .val (.int v23), .val (.int v24), .val (.int v25), .val (.ref x), .val (.int v27), .val (.ref y), .unset] [(.int v22)])) tgt
                          refine XS.iload X111.here hx rfl (hb hby at_480) rfl ?_
                          show Steps p.tables e below (T111.setTop (mkF m 482 #[.val (.int p0), .val (.int p1), .val (.int p2), .val (.int p3), .val (.int p4), .val (.int b5), .val (.int b6), .val (.int b7), .val (.int b8), .val (.int b9), .val (.int v10), .val (.int v11), .val (.int v12), .val (.int v13), .val (.int v14), .val (.int v15), .val (.int v16), .val (.int v17), .val (.int v18), .val (.int v19), .val (.int v20), .val (.int v21), .val (.int v22), .val (.int v23), .val (.int v24), .val (.int v25), .val (.ref x), .val (.int v27), .val (.ref y), .unset] [(.int v23), (.int v22)])) tgt
                          refine XS.icmpNo X111.here hx rfl (hb hby at_482) rfl (teq u4).2 ?_
                          show Steps p.tables e below (T111.setTop (mkF m 485 #[.val (.int p0), .val (.int p1), .val (.int p2), .val (.int p3), .val (.int p4), .val (.int b5), .val (.int b6), .val (.int b7), .val (.int b8), .val (.int b9), .val (.int v10), .val (.int v11), .val (.int v12), .val (.int v13), .val (.int v14), .val (.int v15), .val (.int v16), .val (.int v17), .val (.int v18), .val (.int v19), .val (.int v20), .val (.int v21), .val (.int v22), .val (.int v23), .val (.int v24), .val (.int v25), .val (.ref x), .val (.int v27), .val (.ref y), .unset] [])) tgt
                          refine XS.iload X111.here hx rfl (hb hby at_485) rfl ?_
                          show Steps p.tables e below (T111.setTop (mkF m 487 #[.val (.int p0), .val (.int p1), .val (.int p2), .val (.int p3), .val (.int p4), .val (.int b5), .val (.int b6), .val (.int b7), .val (.int b8), .val (.int b9), .val (.int v10), .val (.int v11), .val (.int v12), .val (.int v13), .val (.int v14), .val (.int v15), .val (.int v16), .val (.int v17), .val (.int v18), .val (.int v19), .val (.int v20), .val (.int v21), .val (.int v22), .val (.int v23), .val (.int v24), .val (.int v25), .val (.ref x), .val (.int v27), .val (.ref y), .unset] [(.int v18)])) tgt
                          refine XS.iload X111.here hx rfl (hb hby at_487) rfl ?_
                          show Steps p.tables e below (T111.setTop (mkF m 489 #[.val (.int p0), .val (.int p1), .val (.int p2), .val (.int p3), .val (.int p4), .val (.int b5), .val (.int b6), .val (.int b7), .val (.int b8), .val (.int b9), .val (.int v10), .val (.int v11), .val (.int v12), .val (.int v13), .val (.int v14), .val (.int v15), .val (.int v16), .val (.int v17), .val (.int v18), .val (.int v19), .val (.int v20), .val (.int v21), .val (.int v22), .val (.int v23), .val (.int v24), .val (.int v25), .val (.ref x), .val (.int v27), .val (.ref y), .unset] [(.int v20), (.int v18)])) tgt
                          refine XS.icmpNo X111.here hx rfl (hb hby at_489) rfl (teq u5).2 ?_
                          show Steps p.tables e below (T111.setTop (mkF m 492 #[.val (.int p0), .val (.int p1), .val (.int p2), .val (.int p3), .val (.int p4), .val (.int b5), .val (.int b6), .val (.int b7), .val (.int b8), .val (.int b9), .val (.int v10), .val (.int v11), .val (.int v12), .val (.int v13), .val (.int v14), .val (.int v15), .val (.int v16), .val (.int v17), .val (.int v18), .val (.int v19), .val (.int v20), .val (.int v21), .val (.int v22), .val (.int v23), .val (.int v24), .val (.int v25), .val (.ref x), .val (.int v27), .val (.ref y), .unset] [])) tgt
                          refine XS.iload X111.here hx rfl (hb hby at_492) rfl ?_
                          show Steps p.tables e below (T111.setTop (mkF m 494 #[.val (.int p0), .val (.int p1), .val (.int p2), .val (.int p3), .val (.int p4), .val (.int b5), .val (.int b6), .val (.int b7), .val (.int b8), .val (.int b9), .val (.int v10), .val (.int v11), .val (.int v12), .val (.int v13), .val (.int v14), .val (.int v15), .val (.int v16), .val (.int v17), .val (.int v18), .val (.int v19), .val (.int v20), .val (.int v21), .val (.int v22), .val (.int v23), .val (.int v24), .val (.int v25), .val (.ref x), .val (.int v27), .val (.ref y), .unset] [(.int v19)])) tgt
                          refine XS.iload X111.here hx rfl (hb hby at_494) rfl ?_
                          show Steps p.tables e below (T111.setTop (mkF m 496 #[.val (.int p0), .val (.int p1), .val (.int p2), .val (.int p3), .val (.int p4), .val (.int b5), .val (.int b6), .val (.int b7), .val (.int b8), .val (.int b9), .val (.int v10), .val (.int v11), .val (.int v12), .val (.int v13), .val (.int v14), .val (.int v15), .val (.int v16), .val (.int v17), .val (.int v18), .val (.int v19), .val (.int v20), .val (.int v21), .val (.int v22), .val (.int v23), .val (.int v24), .val (.int v25), .val (.ref x), .val (.int v27), .val (.ref y), .unset] [(.int v21), (.int v19)])) tgt
                          refine XS.icmpYes X111.here hx rfl (pc0 := 496) (pc' := 510) rfl (hb hby at_496) rfl (feq u6).2 (by decide) (by decide) ?_
                          show Steps p.tables e below (T111.setTop (mkF m 510 #[.val (.int p0), .val (.int p1), .val (.int p2), .val (.int p3), .val (.int p4), .val (.int b5), .val (.int b6), .val (.int b7), .val (.int b8), .val (.int b9), .val (.int v10), .val (.int v11), .val (.int v12), .val (.int v13), .val (.int v14), .val (.int v15), .val (.int v16), .val (.int v17), .val (.int v18), .val (.int v19), .val (.int v20), .val (.int v21), .val (.int v22), .val (.int v23), .val (.int v24), .val (.int v25), .val (.ref x), .val (.int v27), .val (.ref y), .unset] [])) tgt
                          refine XS.iconst X111.here hx rfl (hb hby at_510) ?_
                          show Steps p.tables e below (T111.setTop (mkF m 511 #[.val (.int p0), .val (.int p1), .val (.int p2), .val (.int p3), .val (.int p4), .val (.int b5), .val (.int b6), .val (.int b7), .val (.int b8), .val (.int b9), .val (.int v10), .val (.int v11), .val (.int v12), .val (.int v13), .val (.int v14), .val (.int v15), .val (.int v16), .val (.int v17), .val (.int v18), .val (.int v19), .val (.int v20), .val (.int v21), .val (.int v22), .val (.int v23), .val (.int v24), .val (.int v25), .val (.ref x), .val (.int v27), .val (.ref y), .unset] [(.int (0 : Int32))])) tgt
                          refine XS.istore X111.here hx rfl (hb hby at_511) rfl (l' := #[.val (.int p0), .val (.int p1), .val (.int p2), .val (.int p3), .val (.int p4), .val (.int b5), .val (.int b6), .val (.int b7), .val (.int b8), .val (.int b9), .val (.int v10), .val (.int v11), .val (.int v12), .val (.int v13), .val (.int v14), .val (.int v15), .val (.int v16), .val (.int v17), .val (.int v18), .val (.int v19), .val (.int v20), .val (.int v21), .val (.int v22), .val (.int v23), .val (.int v24), .val (.int v25), .val (.ref x), .val (.int v27), .val (.ref y), .val (.int (0 : Int32))]) rfl ?_
                          exact kont)⟩
                    · exact ⟨0, Or.inr ⟨rfl, fun q => u5 q.2.2.2.2.2.1⟩, fun tgt kont => go113 tgt (by
                        show Steps p.tables e below (T111.setTop (mkF m 454 #[.val (.int p0), .val (.int p1), .val (.int p2), .val (.int p3), .val (.int p4), .val (.int b5), .val (.int b6), .val (.int b7), .val (.int b8), .val (.int b9), .val (.int v10), .val (.int v11), .val (.int v12), .val (.int v13), .val (.int v14), .val (.int v15), .val (.int v16), .val (.int v17), .val (.int v18), .val (.int v19), .val (.int v20), .val (.int v21), .val (.int v22), .val (.int v23), .val (.int v24), .val (.int v25), .val (.ref x), .val (.int v27), .val (.ref y), .unset] [(.int v12), (.int v10)])) tgt
                        refine XS.icmpNo X111.here hx rfl (hb hby at_454) rfl (teq u0).2 ?_
                        show Steps p.tables e below (T111.setTop (mkF m 457 #[.val (.int p0), .val (.int p1), .val (.int p2), .val (.int p3), .val (.int p4), .val (.int b5), .val (.int b6), .val (.int b7), .val (.int b8), .val (.int b9), .val (.int v10), .val (.int v11), .val (.int v12), .val (.int v13), .val (.int v14), .val (.int v15), .val (.int v16), .val (.int v17), .val (.int v18), .val (.int v19), .val (.int v20), .val (.int v21), .val (.int v22), .val (.int v23), .val (.int v24), .val (.int v25), .val (.ref x), .val (.int v27), .val (.ref y), .unset] [])) tgt
                        refine XS.iload X111.here hx rfl (hb hby at_457) rfl ?_
                        show Steps p.tables e below (T111.setTop (mkF m 459 #[.val (.int p0), .val (.int p1), .val (.int p2), .val (.int p3), .val (.int p4), .val (.int b5), .val (.int b6), .val (.int b7), .val (.int b8), .val (.int b9), .val (.int v10), .val (.int v11), .val (.int v12), .val (.int v13), .val (.int v14), .val (.int v15), .val (.int v16), .val (.int v17), .val (.int v18), .val (.int v19), .val (.int v20), .val (.int v21), .val (.int v22), .val (.int v23), .val (.int v24), .val (.int v25), .val (.ref x), .val (.int v27), .val (.ref y), .unset] [(.int v11)])) tgt
                        refine XS.iload X111.here hx rfl (hb hby at_459) rfl ?_
                        show Steps p.tables e below (T111.setTop (mkF m 461 #[.val (.int p0), .val (.int p1), .val (.int p2), .val (.int p3), .val (.int p4), .val (.int b5), .val (.int b6), .val (.int b7), .val (.int b8), .val (.int b9), .val (.int v10), .val (.int v11), .val (.int v12), .val (.int v13), .val (.int v14), .val (.int v15), .val (.int v16), .val (.int v17), .val (.int v18), .val (.int v19), .val (.int v20), .val (.int v21), .val (.int v22), .val (.int v23), .val (.int v24), .val (.int v25), .val (.ref x), .val (.int v27), .val (.ref y), .unset] [(.int v13), (.int v11)])) tgt
                        refine XS.icmpNo X111.here hx rfl (hb hby at_461) rfl (teq u1).2 ?_
                        show Steps p.tables e below (T111.setTop (mkF m 464 #[.val (.int p0), .val (.int p1), .val (.int p2), .val (.int p3), .val (.int p4), .val (.int b5), .val (.int b6), .val (.int b7), .val (.int b8), .val (.int b9), .val (.int v10), .val (.int v11), .val (.int v12), .val (.int v13), .val (.int v14), .val (.int v15), .val (.int v16), .val (.int v17), .val (.int v18), .val (.int v19), .val (.int v20), .val (.int v21), .val (.int v22), .val (.int v23), .val (.int v24), .val (.int v25), .val (.ref x), .val (.int v27), .val (.ref y), .unset] [])) tgt
                        refine XS.iload X111.here hx rfl (hb hby at_464) rfl ?_
                        show Steps p.tables e below (T111.setTop (mkF m 466 #[.val (.int p0), .val (.int p1), .val (.int p2), .val (.int p3), .val (.int p4), .val (.int b5), .val (.int b6), .val (.int b7), .val (.int b8), .val (.int b9), .val (.int v10), .val (.int v11), .val (.int v12), .val (.int v13), .val (.int v14), .val (.int v15), .val (.int v16), .val (.int v17), .val (.int v18), .val (.int v19), .val (.int v20), .val (.int v21), .val (.int v22), .val (.int v23), .val (.int v24), .val (.int v25), .val (.ref x), .val (.int v27), .val (.ref y), .unset] [(.int v14)])) tgt
                        refine XS.iload X111.here hx rfl (hb hby at_466) rfl ?_
                        show Steps p.tables e below (T111.setTop (mkF m 468 #[.val (.int p0), .val (.int p1), .val (.int p2), .val (.int p3), .val (.int p4), .val (.int b5), .val (.int b6), .val (.int b7), .val (.int b8), .val (.int b9), .val (.int v10), .val (.int v11), .val (.int v12), .val (.int v13), .val (.int v14), .val (.int v15), .val (.int v16), .val (.int v17), .val (.int v18), .val (.int v19), .val (.int v20), .val (.int v21), .val (.int v22), .val (.int v23), .val (.int v24), .val (.int v25), .val (.ref x), .val (.int v27), .val (.ref y), .unset] [(.int v16), (.int v14)])) tgt
                        refine XS.icmpNo X111.here hx rfl (hb hby at_468) rfl (teq u2).2 ?_
                        show Steps p.tables e below (T111.setTop (mkF m 471 #[.val (.int p0), .val (.int p1), .val (.int p2), .val (.int p3), .val (.int p4), .val (.int b5), .val (.int b6), .val (.int b7), .val (.int b8), .val (.int b9), .val (.int v10), .val (.int v11), .val (.int v12), .val (.int v13), .val (.int v14), .val (.int v15), .val (.int v16), .val (.int v17), .val (.int v18), .val (.int v19), .val (.int v20), .val (.int v21), .val (.int v22), .val (.int v23), .val (.int v24), .val (.int v25), .val (.ref x), .val (.int v27), .val (.ref y), .unset] [])) tgt
                        refine XS.iload X111.here hx rfl (hb hby at_471) rfl ?_
                        show Steps p.tables e below (T111.setTop (mkF m 473 #[.val (.int p0), .val (.int p1), .val (.int p2), .val (.int p3), .val (.int p4), .val (.int b5), .val (.int b6), .val (.int b7), .val (.int b8), .val (.int b9), .val (.int v10), .val (.int v11), .val (.int v12), .val (.int v13), .val (.int v14), .val (.int v15), .val (.int v16), .val (.int v17), .val (.int v18), .val (.int v19), .val (.int v20), .val (.int v21), .val (.int v22), .val (.int v23), .val (.int v24), .val (.int v25), .val (.ref x), .val (.int v27), .val (.ref y), .unset] [(.int v15)])) tgt
                        refine XS.iload X111.here hx rfl (hb hby at_473) rfl ?_
                        show Steps p.tables e below (T111.setTop (mkF m 475 #[.val (.int p0), .val (.int p1), .val (.int p2), .val (.int p3), .val (.int p4), .val (.int b5), .val (.int b6), .val (.int b7), .val (.int b8), .val (.int b9), .val (.int v10), .val (.int v11), .val (.int v12), .val (.int v13), .val (.int v14), .val (.int v15), .val (.int v16), .val (.int v17), .val (.int v18), .val (.int v19), .val (.int v20), .val (.int v21), .val (.int v22), .val (.int v23), .val (.int v24), .val (.int v25), .val (.ref x), .val (.int v27), .val (.ref y), .unset] [(.int v17), (.int v15)])) tgt
                        refine XS.icmpNo X111.here hx rfl (hb hby at_475) rfl (teq u3).2 ?_
                        show Steps p.tables e below (T111.setTop (mkF m 478 #[.val (.int p0), .val (.int p1), .val (.int p2), .val (.int p3), .val (.int p4), .val (.int b5), .val (.int b6), .val (.int b7), .val (.int b8), .val (.int b9), .val (.int v10), .val (.int v11), .val (.int v12), .val (.int v13), .val (.int v14), .val (.int v15), .val (.int v16), .val (.int v17), .val (.int v18), .val (.int v19), .val (.int v20), .val (.int v21), .val (.int v22), .val (.int v23), .val (.int v24), .val (.int v25), .val (.ref x), .val (.int v27), .val (.ref y), .unset] [])) tgt
                        refine XS.iload X111.here hx rfl (hb hby at_478) rfl ?_
                        show Steps p.tables e below (T111.setTop (mkF m 480 #[.val (.int p0), .val (.int p1), .val (.int p2), .val (.int p3), .val (.int p4), .val (.int b5), .val (.int b6), .val (.int b7), .val (.int b8), .val (.int b9), .val (.int v10), .val (.int v11), .val (.int v12), .val (.int v13), .val (.int v14), .val (.int v15), .val (.int v16), .val (.int v17), .val (.int v18), .val (.int v19), .val (.int v20), .val (.int v21), .val (.int v22), .val (.int v23), .val (.int v24), .val (.int v25), .val (.ref x), .val (.int v27), .val (.ref y), .unset] [(.int v22)])) tgt
                        refine XS.iload X111.here hx rfl (hb hby at_480) rfl ?_
                        show Steps p.tables e below (T111.setTop (mkF m 482 #[.val (.int p0), .val (.int p1), .val (.int p2), .val (.int p3), .val (.int p4), .val (.int b5), .val (.int b6), .val (.int b7), .val (.int b8), .val (.int b9), .val (.int v10), .val (.int v11), .val (.int v12), .val (.int v13), .val (.int v14), .val (.int v15), .val (.int v16), .val (.int v17), .val (.int v18), .val (.int v19), .val (.int v20), .val (.int v21), .val (.int v22), .val (.int v23), .val (.int v24), .val (.int v25), .val (.ref x), .val (.int v27), .val (.ref y), .unset] [(.int v23), (.int v22)])) tgt
                        refine XS.icmpNo X111.here hx rfl (hb hby at_482) rfl (teq u4).2 ?_
                        show Steps p.tables e below (T111.setTop (mkF m 485 #[.val (.int p0), .val (.int p1), .val (.int p2), .val (.int p3), .val (.int p4), .val (.int b5), .val (.int b6), .val (.int b7), .val (.int b8), .val (.int b9), .val (.int v10), .val (.int v11), .val (.int v12), .val (.int v13), .val (.int v14), .val (.int v15), .val (.int v16), .val (.int v17), .val (.int v18), .val (.int v19), .val (.int v20), .val (.int v21), .val (.int v22), .val (.int v23), .val (.int v24), .val (.int v25), .val (.ref x), .val (.int v27), .val (.ref y), .unset] [])) tgt
                        refine XS.iload X111.here hx rfl (hb hby at_485) rfl ?_
                        show Steps p.tables e below (T111.setTop (mkF m 487 #[.val (.int p0), .val (.int p1), .val (.int p2), .val (.int p3), .val (.int p4), .val (.int b5), .val (.int b6), .val (.int b7), .val (.int b8), .val (.int b9), .val (.int v10), .val (.int v11), .val (.int v12), .val (.int v13), .val (.int v14), .val (.int v15), .val (.int v16), .val (.int v17), .val (.int v18), .val (.int v19), .val (.int v20), .val (.int v21), .val (.int v22), .val (.int v23), .val (.int v24), .val (.int v25), .val (.ref x), .val (.int v27), .val (.ref y), .unset] [(.int v18)])) tgt
                        refine XS.iload X111.here hx rfl (hb hby at_487) rfl ?_
                        show Steps p.tables e below (T111.setTop (mkF m 489 #[.val (.int p0), .val (.int p1), .val (.int p2), .val (.int p3), .val (.int p4), .val (.int b5), .val (.int b6), .val (.int b7), .val (.int b8), .val (.int b9), .val (.int v10), .val (.int v11), .val (.int v12), .val (.int v13), .val (.int v14), .val (.int v15), .val (.int v16), .val (.int v17), .val (.int v18), .val (.int v19), .val (.int v20), .val (.int v21), .val (.int v22), .val (.int v23), .val (.int v24), .val (.int v25), .val (.ref x), .val (.int v27), .val (.ref y), .unset] [(.int v20), (.int v18)])) tgt
                        refine XS.icmpYes X111.here hx rfl (pc0 := 489) (pc' := 510) rfl (hb hby at_489) rfl (feq u5).2 (by decide) (by decide) ?_
                        show Steps p.tables e below (T111.setTop (mkF m 510 #[.val (.int p0), .val (.int p1), .val (.int p2), .val (.int p3), .val (.int p4), .val (.int b5), .val (.int b6), .val (.int b7), .val (.int b8), .val (.int b9), .val (.int v10), .val (.int v11), .val (.int v12), .val (.int v13), .val (.int v14), .val (.int v15), .val (.int v16), .val (.int v17), .val (.int v18), .val (.int v19), .val (.int v20), .val (.int v21), .val (.int v22), .val (.int v23), .val (.int v24), .val (.int v25), .val (.ref x), .val (.int v27), .val (.ref y), .unset] [])) tgt
                        refine XS.iconst X111.here hx rfl (hb hby at_510) ?_
                        show Steps p.tables e below (T111.setTop (mkF m 511 #[.val (.int p0), .val (.int p1), .val (.int p2), .val (.int p3), .val (.int p4), .val (.int b5), .val (.int b6), .val (.int b7), .val (.int b8), .val (.int b9), .val (.int v10), .val (.int v11), .val (.int v12), .val (.int v13), .val (.int v14), .val (.int v15), .val (.int v16), .val (.int v17), .val (.int v18), .val (.int v19), .val (.int v20), .val (.int v21), .val (.int v22), .val (.int v23), .val (.int v24), .val (.int v25), .val (.ref x), .val (.int v27), .val (.ref y), .unset] [(.int (0 : Int32))])) tgt
                        refine XS.istore X111.here hx rfl (hb hby at_511) rfl (l' := #[.val (.int p0), .val (.int p1), .val (.int p2), .val (.int p3), .val (.int p4), .val (.int b5), .val (.int b6), .val (.int b7), .val (.int b8), .val (.int b9), .val (.int v10), .val (.int v11), .val (.int v12), .val (.int v13), .val (.int v14), .val (.int v15), .val (.int v16), .val (.int v17), .val (.int v18), .val (.int v19), .val (.int v20), .val (.int v21), .val (.int v22), .val (.int v23), .val (.int v24), .val (.int v25), .val (.ref x), .val (.int v27), .val (.ref y), .val (.int (0 : Int32))]) rfl ?_
                        exact kont)⟩
                  · exact ⟨0, Or.inr ⟨rfl, fun q => u4 q.2.2.2.2.1⟩, fun tgt kont => go113 tgt (by
                      show Steps p.tables e below (T111.setTop (mkF m 454 #[.val (.int p0), .val (.int p1), .val (.int p2), .val (.int p3), .val (.int p4), .val (.int b5), .val (.int b6), .val (.int b7), .val (.int b8), .val (.int b9), .val (.int v10), .val (.int v11), .val (.int v12), .val (.int v13), .val (.int v14), .val (.int v15), .val (.int v16), .val (.int v17), .val (.int v18), .val (.int v19), .val (.int v20), .val (.int v21), .val (.int v22), .val (.int v23), .val (.int v24), .val (.int v25), .val (.ref x), .val (.int v27), .val (.ref y), .unset] [(.int v12), (.int v10)])) tgt
                      refine XS.icmpNo X111.here hx rfl (hb hby at_454) rfl (teq u0).2 ?_
                      show Steps p.tables e below (T111.setTop (mkF m 457 #[.val (.int p0), .val (.int p1), .val (.int p2), .val (.int p3), .val (.int p4), .val (.int b5), .val (.int b6), .val (.int b7), .val (.int b8), .val (.int b9), .val (.int v10), .val (.int v11), .val (.int v12), .val (.int v13), .val (.int v14), .val (.int v15), .val (.int v16), .val (.int v17), .val (.int v18), .val (.int v19), .val (.int v20), .val (.int v21), .val (.int v22), .val (.int v23), .val (.int v24), .val (.int v25), .val (.ref x), .val (.int v27), .val (.ref y), .unset] [])) tgt
                      refine XS.iload X111.here hx rfl (hb hby at_457) rfl ?_
                      show Steps p.tables e below (T111.setTop (mkF m 459 #[.val (.int p0), .val (.int p1), .val (.int p2), .val (.int p3), .val (.int p4), .val (.int b5), .val (.int b6), .val (.int b7), .val (.int b8), .val (.int b9), .val (.int v10), .val (.int v11), .val (.int v12), .val (.int v13), .val (.int v14), .val (.int v15), .val (.int v16), .val (.int v17), .val (.int v18), .val (.int v19), .val (.int v20), .val (.int v21), .val (.int v22), .val (.int v23), .val (.int v24), .val (.int v25), .val (.ref x), .val (.int v27), .val (.ref y), .unset] [(.int v11)])) tgt
                      refine XS.iload X111.here hx rfl (hb hby at_459) rfl ?_
                      show Steps p.tables e below (T111.setTop (mkF m 461 #[.val (.int p0), .val (.int p1), .val (.int p2), .val (.int p3), .val (.int p4), .val (.int b5), .val (.int b6), .val (.int b7), .val (.int b8), .val (.int b9), .val (.int v10), .val (.int v11), .val (.int v12), .val (.int v13), .val (.int v14), .val (.int v15), .val (.int v16), .val (.int v17), .val (.int v18), .val (.int v19), .val (.int v20), .val (.int v21), .val (.int v22), .val (.int v23), .val (.int v24), .val (.int v25), .val (.ref x), .val (.int v27), .val (.ref y), .unset] [(.int v13), (.int v11)])) tgt
                      refine XS.icmpNo X111.here hx rfl (hb hby at_461) rfl (teq u1).2 ?_
                      show Steps p.tables e below (T111.setTop (mkF m 464 #[.val (.int p0), .val (.int p1), .val (.int p2), .val (.int p3), .val (.int p4), .val (.int b5), .val (.int b6), .val (.int b7), .val (.int b8), .val (.int b9), .val (.int v10), .val (.int v11), .val (.int v12), .val (.int v13), .val (.int v14), .val (.int v15), .val (.int v16), .val (.int v17), .val (.int v18), .val (.int v19), .val (.int v20), .val (.int v21), .val (.int v22), .val (.int v23), .val (.int v24), .val (.int v25), .val (.ref x), .val (.int v27), .val (.ref y), .unset] [])) tgt
                      refine XS.iload X111.here hx rfl (hb hby at_464) rfl ?_
                      show Steps p.tables e below (T111.setTop (mkF m 466 #[.val (.int p0), .val (.int p1), .val (.int p2), .val (.int p3), .val (.int p4), .val (.int b5), .val (.int b6), .val (.int b7), .val (.int b8), .val (.int b9), .val (.int v10), .val (.int v11), .val (.int v12), .val (.int v13), .val (.int v14), .val (.int v15), .val (.int v16), .val (.int v17), .val (.int v18), .val (.int v19), .val (.int v20), .val (.int v21), .val (.int v22), .val (.int v23), .val (.int v24), .val (.int v25), .val (.ref x), .val (.int v27), .val (.ref y), .unset] [(.int v14)])) tgt
                      refine XS.iload X111.here hx rfl (hb hby at_466) rfl ?_
                      show Steps p.tables e below (T111.setTop (mkF m 468 #[.val (.int p0), .val (.int p1), .val (.int p2), .val (.int p3), .val (.int p4), .val (.int b5), .val (.int b6), .val (.int b7), .val (.int b8), .val (.int b9), .val (.int v10), .val (.int v11), .val (.int v12), .val (.int v13), .val (.int v14), .val (.int v15), .val (.int v16), .val (.int v17), .val (.int v18), .val (.int v19), .val (.int v20), .val (.int v21), .val (.int v22), .val (.int v23), .val (.int v24), .val (.int v25), .val (.ref x), .val (.int v27), .val (.ref y), .unset] [(.int v16), (.int v14)])) tgt
                      refine XS.icmpNo X111.here hx rfl (hb hby at_468) rfl (teq u2).2 ?_
                      show Steps p.tables e below (T111.setTop (mkF m 471 #[.val (.int p0), .val (.int p1), .val (.int p2), .val (.int p3), .val (.int p4), .val (.int b5), .val (.int b6), .val (.int b7), .val (.int b8), .val (.int b9), .val (.int v10), .val (.int v11), .val (.int v12), .val (.int v13), .val (.int v14), .val (.int v15), .val (.int v16), .val (.int v17), .val (.int v18), .val (.int v19), .val (.int v20), .val (.int v21), .val (.int v22), .val (.int v23), .val (.int v24), .val (.int v25), .val (.ref x), .val (.int v27), .val (.ref y), .unset] [])) tgt
                      refine XS.iload X111.here hx rfl (hb hby at_471) rfl ?_
                      show Steps p.tables e below (T111.setTop (mkF m 473 #[.val (.int p0), .val (.int p1), .val (.int p2), .val (.int p3), .val (.int p4), .val (.int b5), .val (.int b6), .val (.int b7), .val (.int b8), .val (.int b9), .val (.int v10), .val (.int v11), .val (.int v12), .val (.int v13), .val (.int v14), .val (.int v15), .val (.int v16), .val (.int v17), .val (.int v18), .val (.int v19), .val (.int v20), .val (.int v21), .val (.int v22), .val (.int v23), .val (.int v24), .val (.int v25), .val (.ref x), .val (.int v27), .val (.ref y), .unset] [(.int v15)])) tgt
                      refine XS.iload X111.here hx rfl (hb hby at_473) rfl ?_
                      show Steps p.tables e below (T111.setTop (mkF m 475 #[.val (.int p0), .val (.int p1), .val (.int p2), .val (.int p3), .val (.int p4), .val (.int b5), .val (.int b6), .val (.int b7), .val (.int b8), .val (.int b9), .val (.int v10), .val (.int v11), .val (.int v12), .val (.int v13), .val (.int v14), .val (.int v15), .val (.int v16), .val (.int v17), .val (.int v18), .val (.int v19), .val (.int v20), .val (.int v21), .val (.int v22), .val (.int v23), .val (.int v24), .val (.int v25), .val (.ref x), .val (.int v27), .val (.ref y), .unset] [(.int v17), (.int v15)])) tgt
                      refine XS.icmpNo X111.here hx rfl (hb hby at_475) rfl (teq u3).2 ?_
                      show Steps p.tables e below (T111.setTop (mkF m 478 #[.val (.int p0), .val (.int p1), .val (.int p2), .val (.int p3), .val (.int p4), .val (.int b5), .val (.int b6), .val (.int b7), .val (.int b8), .val (.int b9), .val (.int v10), .val (.int v11), .val (.int v12), .val (.int v13), .val (.int v14), .val (.int v15), .val (.int v16), .val (.int v17), .val (.int v18), .val (.int v19), .val (.int v20), .val (.int v21), .val (.int v22), .val (.int v23), .val (.int v24), .val (.int v25), .val (.ref x), .val (.int v27), .val (.ref y), .unset] [])) tgt
                      refine XS.iload X111.here hx rfl (hb hby at_478) rfl ?_
                      show Steps p.tables e below (T111.setTop (mkF m 480 #[.val (.int p0), .val (.int p1), .val (.int p2), .val (.int p3), .val (.int p4), .val (.int b5), .val (.int b6), .val (.int b7), .val (.int b8), .val (.int b9), .val (.int v10), .val (.int v11), .val (.int v12), .val (.int v13), .val (.int v14), .val (.int v15), .val (.int v16), .val (.int v17), .val (.int v18), .val (.int v19), .val (.int v20), .val (.int v21), .val (.int v22), .val (.int v23), .val (.int v24), .val (.int v25), .val (.ref x), .val (.int v27), .val (.ref y), .unset] [(.int v22)])) tgt
                      refine XS.iload X111.here hx rfl (hb hby at_480) rfl ?_
                      show Steps p.tables e below (T111.setTop (mkF m 482 #[.val (.int p0), .val (.int p1), .val (.int p2), .val (.int p3), .val (.int p4), .val (.int b5), .val (.int b6), .val (.int b7), .val (.int b8), .val (.int b9), .val (.int v10), .val (.int v11), .val (.int v12), .val (.int v13), .val (.int v14), .val (.int v15), .val (.int v16), .val (.int v17), .val (.int v18), .val (.int v19), .val (.int v20), .val (.int v21), .val (.int v22), .val (.int v23), .val (.int v24), .val (.int v25), .val (.ref x), .val (.int v27), .val (.ref y), .unset] [(.int v23), (.int v22)])) tgt
                      refine XS.icmpYes X111.here hx rfl (pc0 := 482) (pc' := 510) rfl (hb hby at_482) rfl (feq u4).2 (by decide) (by decide) ?_
                      show Steps p.tables e below (T111.setTop (mkF m 510 #[.val (.int p0), .val (.int p1), .val (.int p2), .val (.int p3), .val (.int p4), .val (.int b5), .val (.int b6), .val (.int b7), .val (.int b8), .val (.int b9), .val (.int v10), .val (.int v11), .val (.int v12), .val (.int v13), .val (.int v14), .val (.int v15), .val (.int v16), .val (.int v17), .val (.int v18), .val (.int v19), .val (.int v20), .val (.int v21), .val (.int v22), .val (.int v23), .val (.int v24), .val (.int v25), .val (.ref x), .val (.int v27), .val (.ref y), .unset] [])) tgt
                      refine XS.iconst X111.here hx rfl (hb hby at_510) ?_
                      show Steps p.tables e below (T111.setTop (mkF m 511 #[.val (.int p0), .val (.int p1), .val (.int p2), .val (.int p3), .val (.int p4), .val (.int b5), .val (.int b6), .val (.int b7), .val (.int b8), .val (.int b9), .val (.int v10), .val (.int v11), .val (.int v12), .val (.int v13), .val (.int v14), .val (.int v15), .val (.int v16), .val (.int v17), .val (.int v18), .val (.int v19), .val (.int v20), .val (.int v21), .val (.int v22), .val (.int v23), .val (.int v24), .val (.int v25), .val (.ref x), .val (.int v27), .val (.ref y), .unset] [(.int (0 : Int32))])) tgt
                      refine XS.istore X111.here hx rfl (hb hby at_511) rfl (l' := #[.val (.int p0), .val (.int p1), .val (.int p2), .val (.int p3), .val (.int p4), .val (.int b5), .val (.int b6), .val (.int b7), .val (.int b8), .val (.int b9), .val (.int v10), .val (.int v11), .val (.int v12), .val (.int v13), .val (.int v14), .val (.int v15), .val (.int v16), .val (.int v17), .val (.int v18), .val (.int v19), .val (.int v20), .val (.int v21), .val (.int v22), .val (.int v23), .val (.int v24), .val (.int v25), .val (.ref x), .val (.int v27), .val (.ref y), .val (.int (0 : Int32))]) rfl ?_
                      exact kont)⟩
                · exact ⟨0, Or.inr ⟨rfl, fun q => u3 q.2.2.2.1⟩, fun tgt kont => go113 tgt (by
                    show Steps p.tables e below (T111.setTop (mkF m 454 #[.val (.int p0), .val (.int p1), .val (.int p2), .val (.int p3), .val (.int p4), .val (.int b5), .val (.int b6), .val (.int b7), .val (.int b8), .val (.int b9), .val (.int v10), .val (.int v11), .val (.int v12), .val (.int v13), .val (.int v14), .val (.int v15), .val (.int v16), .val (.int v17), .val (.int v18), .val (.int v19), .val (.int v20), .val (.int v21), .val (.int v22), .val (.int v23), .val (.int v24), .val (.int v25), .val (.ref x), .val (.int v27), .val (.ref y), .unset] [(.int v12), (.int v10)])) tgt
                    refine XS.icmpNo X111.here hx rfl (hb hby at_454) rfl (teq u0).2 ?_
                    show Steps p.tables e below (T111.setTop (mkF m 457 #[.val (.int p0), .val (.int p1), .val (.int p2), .val (.int p3), .val (.int p4), .val (.int b5), .val (.int b6), .val (.int b7), .val (.int b8), .val (.int b9), .val (.int v10), .val (.int v11), .val (.int v12), .val (.int v13), .val (.int v14), .val (.int v15), .val (.int v16), .val (.int v17), .val (.int v18), .val (.int v19), .val (.int v20), .val (.int v21), .val (.int v22), .val (.int v23), .val (.int v24), .val (.int v25), .val (.ref x), .val (.int v27), .val (.ref y), .unset] [])) tgt
                    refine XS.iload X111.here hx rfl (hb hby at_457) rfl ?_
                    show Steps p.tables e below (T111.setTop (mkF m 459 #[.val (.int p0), .val (.int p1), .val (.int p2), .val (.int p3), .val (.int p4), .val (.int b5), .val (.int b6), .val (.int b7), .val (.int b8), .val (.int b9), .val (.int v10), .val (.int v11), .val (.int v12), .val (.int v13), .val (.int v14), .val (.int v15), .val (.int v16), .val (.int v17), .val (.int v18), .val (.int v19), .val (.int v20), .val (.int v21), .val (.int v22), .val (.int v23), .val (.int v24), .val (.int v25), .val (.ref x), .val (.int v27), .val (.ref y), .unset] [(.int v11)])) tgt
                    refine XS.iload X111.here hx rfl (hb hby at_459) rfl ?_
                    show Steps p.tables e below (T111.setTop (mkF m 461 #[.val (.int p0), .val (.int p1), .val (.int p2), .val (.int p3), .val (.int p4), .val (.int b5), .val (.int b6), .val (.int b7), .val (.int b8), .val (.int b9), .val (.int v10), .val (.int v11), .val (.int v12), .val (.int v13), .val (.int v14), .val (.int v15), .val (.int v16), .val (.int v17), .val (.int v18), .val (.int v19), .val (.int v20), .val (.int v21), .val (.int v22), .val (.int v23), .val (.int v24), .val (.int v25), .val (.ref x), .val (.int v27), .val (.ref y), .unset] [(.int v13), (.int v11)])) tgt
                    refine XS.icmpNo X111.here hx rfl (hb hby at_461) rfl (teq u1).2 ?_
                    show Steps p.tables e below (T111.setTop (mkF m 464 #[.val (.int p0), .val (.int p1), .val (.int p2), .val (.int p3), .val (.int p4), .val (.int b5), .val (.int b6), .val (.int b7), .val (.int b8), .val (.int b9), .val (.int v10), .val (.int v11), .val (.int v12), .val (.int v13), .val (.int v14), .val (.int v15), .val (.int v16), .val (.int v17), .val (.int v18), .val (.int v19), .val (.int v20), .val (.int v21), .val (.int v22), .val (.int v23), .val (.int v24), .val (.int v25), .val (.ref x), .val (.int v27), .val (.ref y), .unset] [])) tgt
                    refine XS.iload X111.here hx rfl (hb hby at_464) rfl ?_
                    show Steps p.tables e below (T111.setTop (mkF m 466 #[.val (.int p0), .val (.int p1), .val (.int p2), .val (.int p3), .val (.int p4), .val (.int b5), .val (.int b6), .val (.int b7), .val (.int b8), .val (.int b9), .val (.int v10), .val (.int v11), .val (.int v12), .val (.int v13), .val (.int v14), .val (.int v15), .val (.int v16), .val (.int v17), .val (.int v18), .val (.int v19), .val (.int v20), .val (.int v21), .val (.int v22), .val (.int v23), .val (.int v24), .val (.int v25), .val (.ref x), .val (.int v27), .val (.ref y), .unset] [(.int v14)])) tgt
                    refine XS.iload X111.here hx rfl (hb hby at_466) rfl ?_
                    show Steps p.tables e below (T111.setTop (mkF m 468 #[.val (.int p0), .val (.int p1), .val (.int p2), .val (.int p3), .val (.int p4), .val (.int b5), .val (.int b6), .val (.int b7), .val (.int b8), .val (.int b9), .val (.int v10), .val (.int v11), .val (.int v12), .val (.int v13), .val (.int v14), .val (.int v15), .val (.int v16), .val (.int v17), .val (.int v18), .val (.int v19), .val (.int v20), .val (.int v21), .val (.int v22), .val (.int v23), .val (.int v24), .val (.int v25), .val (.ref x), .val (.int v27), .val (.ref y), .unset] [(.int v16), (.int v14)])) tgt
                    refine XS.icmpNo X111.here hx rfl (hb hby at_468) rfl (teq u2).2 ?_
                    show Steps p.tables e below (T111.setTop (mkF m 471 #[.val (.int p0), .val (.int p1), .val (.int p2), .val (.int p3), .val (.int p4), .val (.int b5), .val (.int b6), .val (.int b7), .val (.int b8), .val (.int b9), .val (.int v10), .val (.int v11), .val (.int v12), .val (.int v13), .val (.int v14), .val (.int v15), .val (.int v16), .val (.int v17), .val (.int v18), .val (.int v19), .val (.int v20), .val (.int v21), .val (.int v22), .val (.int v23), .val (.int v24), .val (.int v25), .val (.ref x), .val (.int v27), .val (.ref y), .unset] [])) tgt
                    refine XS.iload X111.here hx rfl (hb hby at_471) rfl ?_
                    show Steps p.tables e below (T111.setTop (mkF m 473 #[.val (.int p0), .val (.int p1), .val (.int p2), .val (.int p3), .val (.int p4), .val (.int b5), .val (.int b6), .val (.int b7), .val (.int b8), .val (.int b9), .val (.int v10), .val (.int v11), .val (.int v12), .val (.int v13), .val (.int v14), .val (.int v15), .val (.int v16), .val (.int v17), .val (.int v18), .val (.int v19), .val (.int v20), .val (.int v21), .val (.int v22), .val (.int v23), .val (.int v24), .val (.int v25), .val (.ref x), .val (.int v27), .val (.ref y), .unset] [(.int v15)])) tgt
                    refine XS.iload X111.here hx rfl (hb hby at_473) rfl ?_
                    show Steps p.tables e below (T111.setTop (mkF m 475 #[.val (.int p0), .val (.int p1), .val (.int p2), .val (.int p3), .val (.int p4), .val (.int b5), .val (.int b6), .val (.int b7), .val (.int b8), .val (.int b9), .val (.int v10), .val (.int v11), .val (.int v12), .val (.int v13), .val (.int v14), .val (.int v15), .val (.int v16), .val (.int v17), .val (.int v18), .val (.int v19), .val (.int v20), .val (.int v21), .val (.int v22), .val (.int v23), .val (.int v24), .val (.int v25), .val (.ref x), .val (.int v27), .val (.ref y), .unset] [(.int v17), (.int v15)])) tgt
                    refine XS.icmpYes X111.here hx rfl (pc0 := 475) (pc' := 510) rfl (hb hby at_475) rfl (feq u3).2 (by decide) (by decide) ?_
                    show Steps p.tables e below (T111.setTop (mkF m 510 #[.val (.int p0), .val (.int p1), .val (.int p2), .val (.int p3), .val (.int p4), .val (.int b5), .val (.int b6), .val (.int b7), .val (.int b8), .val (.int b9), .val (.int v10), .val (.int v11), .val (.int v12), .val (.int v13), .val (.int v14), .val (.int v15), .val (.int v16), .val (.int v17), .val (.int v18), .val (.int v19), .val (.int v20), .val (.int v21), .val (.int v22), .val (.int v23), .val (.int v24), .val (.int v25), .val (.ref x), .val (.int v27), .val (.ref y), .unset] [])) tgt
                    refine XS.iconst X111.here hx rfl (hb hby at_510) ?_
                    show Steps p.tables e below (T111.setTop (mkF m 511 #[.val (.int p0), .val (.int p1), .val (.int p2), .val (.int p3), .val (.int p4), .val (.int b5), .val (.int b6), .val (.int b7), .val (.int b8), .val (.int b9), .val (.int v10), .val (.int v11), .val (.int v12), .val (.int v13), .val (.int v14), .val (.int v15), .val (.int v16), .val (.int v17), .val (.int v18), .val (.int v19), .val (.int v20), .val (.int v21), .val (.int v22), .val (.int v23), .val (.int v24), .val (.int v25), .val (.ref x), .val (.int v27), .val (.ref y), .unset] [(.int (0 : Int32))])) tgt
                    refine XS.istore X111.here hx rfl (hb hby at_511) rfl (l' := #[.val (.int p0), .val (.int p1), .val (.int p2), .val (.int p3), .val (.int p4), .val (.int b5), .val (.int b6), .val (.int b7), .val (.int b8), .val (.int b9), .val (.int v10), .val (.int v11), .val (.int v12), .val (.int v13), .val (.int v14), .val (.int v15), .val (.int v16), .val (.int v17), .val (.int v18), .val (.int v19), .val (.int v20), .val (.int v21), .val (.int v22), .val (.int v23), .val (.int v24), .val (.int v25), .val (.ref x), .val (.int v27), .val (.ref y), .val (.int (0 : Int32))]) rfl ?_
                    exact kont)⟩
              · exact ⟨0, Or.inr ⟨rfl, fun q => u2 q.2.2.1⟩, fun tgt kont => go113 tgt (by
                  show Steps p.tables e below (T111.setTop (mkF m 454 #[.val (.int p0), .val (.int p1), .val (.int p2), .val (.int p3), .val (.int p4), .val (.int b5), .val (.int b6), .val (.int b7), .val (.int b8), .val (.int b9), .val (.int v10), .val (.int v11), .val (.int v12), .val (.int v13), .val (.int v14), .val (.int v15), .val (.int v16), .val (.int v17), .val (.int v18), .val (.int v19), .val (.int v20), .val (.int v21), .val (.int v22), .val (.int v23), .val (.int v24), .val (.int v25), .val (.ref x), .val (.int v27), .val (.ref y), .unset] [(.int v12), (.int v10)])) tgt
                  refine XS.icmpNo X111.here hx rfl (hb hby at_454) rfl (teq u0).2 ?_
                  show Steps p.tables e below (T111.setTop (mkF m 457 #[.val (.int p0), .val (.int p1), .val (.int p2), .val (.int p3), .val (.int p4), .val (.int b5), .val (.int b6), .val (.int b7), .val (.int b8), .val (.int b9), .val (.int v10), .val (.int v11), .val (.int v12), .val (.int v13), .val (.int v14), .val (.int v15), .val (.int v16), .val (.int v17), .val (.int v18), .val (.int v19), .val (.int v20), .val (.int v21), .val (.int v22), .val (.int v23), .val (.int v24), .val (.int v25), .val (.ref x), .val (.int v27), .val (.ref y), .unset] [])) tgt
                  refine XS.iload X111.here hx rfl (hb hby at_457) rfl ?_
                  show Steps p.tables e below (T111.setTop (mkF m 459 #[.val (.int p0), .val (.int p1), .val (.int p2), .val (.int p3), .val (.int p4), .val (.int b5), .val (.int b6), .val (.int b7), .val (.int b8), .val (.int b9), .val (.int v10), .val (.int v11), .val (.int v12), .val (.int v13), .val (.int v14), .val (.int v15), .val (.int v16), .val (.int v17), .val (.int v18), .val (.int v19), .val (.int v20), .val (.int v21), .val (.int v22), .val (.int v23), .val (.int v24), .val (.int v25), .val (.ref x), .val (.int v27), .val (.ref y), .unset] [(.int v11)])) tgt
                  refine XS.iload X111.here hx rfl (hb hby at_459) rfl ?_
                  show Steps p.tables e below (T111.setTop (mkF m 461 #[.val (.int p0), .val (.int p1), .val (.int p2), .val (.int p3), .val (.int p4), .val (.int b5), .val (.int b6), .val (.int b7), .val (.int b8), .val (.int b9), .val (.int v10), .val (.int v11), .val (.int v12), .val (.int v13), .val (.int v14), .val (.int v15), .val (.int v16), .val (.int v17), .val (.int v18), .val (.int v19), .val (.int v20), .val (.int v21), .val (.int v22), .val (.int v23), .val (.int v24), .val (.int v25), .val (.ref x), .val (.int v27), .val (.ref y), .unset] [(.int v13), (.int v11)])) tgt
                  refine XS.icmpNo X111.here hx rfl (hb hby at_461) rfl (teq u1).2 ?_
                  show Steps p.tables e below (T111.setTop (mkF m 464 #[.val (.int p0), .val (.int p1), .val (.int p2), .val (.int p3), .val (.int p4), .val (.int b5), .val (.int b6), .val (.int b7), .val (.int b8), .val (.int b9), .val (.int v10), .val (.int v11), .val (.int v12), .val (.int v13), .val (.int v14), .val (.int v15), .val (.int v16), .val (.int v17), .val (.int v18), .val (.int v19), .val (.int v20), .val (.int v21), .val (.int v22), .val (.int v23), .val (.int v24), .val (.int v25), .val (.ref x), .val (.int v27), .val (.ref y), .unset] [])) tgt
                  refine XS.iload X111.here hx rfl (hb hby at_464) rfl ?_
                  show Steps p.tables e below (T111.setTop (mkF m 466 #[.val (.int p0), .val (.int p1), .val (.int p2), .val (.int p3), .val (.int p4), .val (.int b5), .val (.int b6), .val (.int b7), .val (.int b8), .val (.int b9), .val (.int v10), .val (.int v11), .val (.int v12), .val (.int v13), .val (.int v14), .val (.int v15), .val (.int v16), .val (.int v17), .val (.int v18), .val (.int v19), .val (.int v20), .val (.int v21), .val (.int v22), .val (.int v23), .val (.int v24), .val (.int v25), .val (.ref x), .val (.int v27), .val (.ref y), .unset] [(.int v14)])) tgt
                  refine XS.iload X111.here hx rfl (hb hby at_466) rfl ?_
                  show Steps p.tables e below (T111.setTop (mkF m 468 #[.val (.int p0), .val (.int p1), .val (.int p2), .val (.int p3), .val (.int p4), .val (.int b5), .val (.int b6), .val (.int b7), .val (.int b8), .val (.int b9), .val (.int v10), .val (.int v11), .val (.int v12), .val (.int v13), .val (.int v14), .val (.int v15), .val (.int v16), .val (.int v17), .val (.int v18), .val (.int v19), .val (.int v20), .val (.int v21), .val (.int v22), .val (.int v23), .val (.int v24), .val (.int v25), .val (.ref x), .val (.int v27), .val (.ref y), .unset] [(.int v16), (.int v14)])) tgt
                  refine XS.icmpYes X111.here hx rfl (pc0 := 468) (pc' := 510) rfl (hb hby at_468) rfl (feq u2).2 (by decide) (by decide) ?_
                  show Steps p.tables e below (T111.setTop (mkF m 510 #[.val (.int p0), .val (.int p1), .val (.int p2), .val (.int p3), .val (.int p4), .val (.int b5), .val (.int b6), .val (.int b7), .val (.int b8), .val (.int b9), .val (.int v10), .val (.int v11), .val (.int v12), .val (.int v13), .val (.int v14), .val (.int v15), .val (.int v16), .val (.int v17), .val (.int v18), .val (.int v19), .val (.int v20), .val (.int v21), .val (.int v22), .val (.int v23), .val (.int v24), .val (.int v25), .val (.ref x), .val (.int v27), .val (.ref y), .unset] [])) tgt
                  refine XS.iconst X111.here hx rfl (hb hby at_510) ?_
                  show Steps p.tables e below (T111.setTop (mkF m 511 #[.val (.int p0), .val (.int p1), .val (.int p2), .val (.int p3), .val (.int p4), .val (.int b5), .val (.int b6), .val (.int b7), .val (.int b8), .val (.int b9), .val (.int v10), .val (.int v11), .val (.int v12), .val (.int v13), .val (.int v14), .val (.int v15), .val (.int v16), .val (.int v17), .val (.int v18), .val (.int v19), .val (.int v20), .val (.int v21), .val (.int v22), .val (.int v23), .val (.int v24), .val (.int v25), .val (.ref x), .val (.int v27), .val (.ref y), .unset] [(.int (0 : Int32))])) tgt
                  refine XS.istore X111.here hx rfl (hb hby at_511) rfl (l' := #[.val (.int p0), .val (.int p1), .val (.int p2), .val (.int p3), .val (.int p4), .val (.int b5), .val (.int b6), .val (.int b7), .val (.int b8), .val (.int b9), .val (.int v10), .val (.int v11), .val (.int v12), .val (.int v13), .val (.int v14), .val (.int v15), .val (.int v16), .val (.int v17), .val (.int v18), .val (.int v19), .val (.int v20), .val (.int v21), .val (.int v22), .val (.int v23), .val (.int v24), .val (.int v25), .val (.ref x), .val (.int v27), .val (.ref y), .val (.int (0 : Int32))]) rfl ?_
                  exact kont)⟩
            · exact ⟨0, Or.inr ⟨rfl, fun q => u1 q.2.1⟩, fun tgt kont => go113 tgt (by
                show Steps p.tables e below (T111.setTop (mkF m 454 #[.val (.int p0), .val (.int p1), .val (.int p2), .val (.int p3), .val (.int p4), .val (.int b5), .val (.int b6), .val (.int b7), .val (.int b8), .val (.int b9), .val (.int v10), .val (.int v11), .val (.int v12), .val (.int v13), .val (.int v14), .val (.int v15), .val (.int v16), .val (.int v17), .val (.int v18), .val (.int v19), .val (.int v20), .val (.int v21), .val (.int v22), .val (.int v23), .val (.int v24), .val (.int v25), .val (.ref x), .val (.int v27), .val (.ref y), .unset] [(.int v12), (.int v10)])) tgt
                refine XS.icmpNo X111.here hx rfl (hb hby at_454) rfl (teq u0).2 ?_
                show Steps p.tables e below (T111.setTop (mkF m 457 #[.val (.int p0), .val (.int p1), .val (.int p2), .val (.int p3), .val (.int p4), .val (.int b5), .val (.int b6), .val (.int b7), .val (.int b8), .val (.int b9), .val (.int v10), .val (.int v11), .val (.int v12), .val (.int v13), .val (.int v14), .val (.int v15), .val (.int v16), .val (.int v17), .val (.int v18), .val (.int v19), .val (.int v20), .val (.int v21), .val (.int v22), .val (.int v23), .val (.int v24), .val (.int v25), .val (.ref x), .val (.int v27), .val (.ref y), .unset] [])) tgt
                refine XS.iload X111.here hx rfl (hb hby at_457) rfl ?_
                show Steps p.tables e below (T111.setTop (mkF m 459 #[.val (.int p0), .val (.int p1), .val (.int p2), .val (.int p3), .val (.int p4), .val (.int b5), .val (.int b6), .val (.int b7), .val (.int b8), .val (.int b9), .val (.int v10), .val (.int v11), .val (.int v12), .val (.int v13), .val (.int v14), .val (.int v15), .val (.int v16), .val (.int v17), .val (.int v18), .val (.int v19), .val (.int v20), .val (.int v21), .val (.int v22), .val (.int v23), .val (.int v24), .val (.int v25), .val (.ref x), .val (.int v27), .val (.ref y), .unset] [(.int v11)])) tgt
                refine XS.iload X111.here hx rfl (hb hby at_459) rfl ?_
                show Steps p.tables e below (T111.setTop (mkF m 461 #[.val (.int p0), .val (.int p1), .val (.int p2), .val (.int p3), .val (.int p4), .val (.int b5), .val (.int b6), .val (.int b7), .val (.int b8), .val (.int b9), .val (.int v10), .val (.int v11), .val (.int v12), .val (.int v13), .val (.int v14), .val (.int v15), .val (.int v16), .val (.int v17), .val (.int v18), .val (.int v19), .val (.int v20), .val (.int v21), .val (.int v22), .val (.int v23), .val (.int v24), .val (.int v25), .val (.ref x), .val (.int v27), .val (.ref y), .unset] [(.int v13), (.int v11)])) tgt
                refine XS.icmpYes X111.here hx rfl (pc0 := 461) (pc' := 510) rfl (hb hby at_461) rfl (feq u1).2 (by decide) (by decide) ?_
                show Steps p.tables e below (T111.setTop (mkF m 510 #[.val (.int p0), .val (.int p1), .val (.int p2), .val (.int p3), .val (.int p4), .val (.int b5), .val (.int b6), .val (.int b7), .val (.int b8), .val (.int b9), .val (.int v10), .val (.int v11), .val (.int v12), .val (.int v13), .val (.int v14), .val (.int v15), .val (.int v16), .val (.int v17), .val (.int v18), .val (.int v19), .val (.int v20), .val (.int v21), .val (.int v22), .val (.int v23), .val (.int v24), .val (.int v25), .val (.ref x), .val (.int v27), .val (.ref y), .unset] [])) tgt
                refine XS.iconst X111.here hx rfl (hb hby at_510) ?_
                show Steps p.tables e below (T111.setTop (mkF m 511 #[.val (.int p0), .val (.int p1), .val (.int p2), .val (.int p3), .val (.int p4), .val (.int b5), .val (.int b6), .val (.int b7), .val (.int b8), .val (.int b9), .val (.int v10), .val (.int v11), .val (.int v12), .val (.int v13), .val (.int v14), .val (.int v15), .val (.int v16), .val (.int v17), .val (.int v18), .val (.int v19), .val (.int v20), .val (.int v21), .val (.int v22), .val (.int v23), .val (.int v24), .val (.int v25), .val (.ref x), .val (.int v27), .val (.ref y), .unset] [(.int (0 : Int32))])) tgt
                refine XS.istore X111.here hx rfl (hb hby at_511) rfl (l' := #[.val (.int p0), .val (.int p1), .val (.int p2), .val (.int p3), .val (.int p4), .val (.int b5), .val (.int b6), .val (.int b7), .val (.int b8), .val (.int b9), .val (.int v10), .val (.int v11), .val (.int v12), .val (.int v13), .val (.int v14), .val (.int v15), .val (.int v16), .val (.int v17), .val (.int v18), .val (.int v19), .val (.int v20), .val (.int v21), .val (.int v22), .val (.int v23), .val (.int v24), .val (.int v25), .val (.ref x), .val (.int v27), .val (.ref y), .val (.int (0 : Int32))]) rfl ?_
                exact kont)⟩
          · exact ⟨0, Or.inr ⟨rfl, fun q => u0 q.1⟩, fun tgt kont => go113 tgt (by
              show Steps p.tables e below (T111.setTop (mkF m 454 #[.val (.int p0), .val (.int p1), .val (.int p2), .val (.int p3), .val (.int p4), .val (.int b5), .val (.int b6), .val (.int b7), .val (.int b8), .val (.int b9), .val (.int v10), .val (.int v11), .val (.int v12), .val (.int v13), .val (.int v14), .val (.int v15), .val (.int v16), .val (.int v17), .val (.int v18), .val (.int v19), .val (.int v20), .val (.int v21), .val (.int v22), .val (.int v23), .val (.int v24), .val (.int v25), .val (.ref x), .val (.int v27), .val (.ref y), .unset] [(.int v12), (.int v10)])) tgt
              refine XS.icmpYes X111.here hx rfl (pc0 := 454) (pc' := 510) rfl (hb hby at_454) rfl (feq u0).2 (by decide) (by decide) ?_
              show Steps p.tables e below (T111.setTop (mkF m 510 #[.val (.int p0), .val (.int p1), .val (.int p2), .val (.int p3), .val (.int p4), .val (.int b5), .val (.int b6), .val (.int b7), .val (.int b8), .val (.int b9), .val (.int v10), .val (.int v11), .val (.int v12), .val (.int v13), .val (.int v14), .val (.int v15), .val (.int v16), .val (.int v17), .val (.int v18), .val (.int v19), .val (.int v20), .val (.int v21), .val (.int v22), .val (.int v23), .val (.int v24), .val (.int v25), .val (.ref x), .val (.int v27), .val (.ref y), .unset] [])) tgt
              refine XS.iconst X111.here hx rfl (hb hby at_510) ?_
              show Steps p.tables e below (T111.setTop (mkF m 511 #[.val (.int p0), .val (.int p1), .val (.int p2), .val (.int p3), .val (.int p4), .val (.int b5), .val (.int b6), .val (.int b7), .val (.int b8), .val (.int b9), .val (.int v10), .val (.int v11), .val (.int v12), .val (.int v13), .val (.int v14), .val (.int v15), .val (.int v16), .val (.int v17), .val (.int v18), .val (.int v19), .val (.int v20), .val (.int v21), .val (.int v22), .val (.int v23), .val (.int v24), .val (.int v25), .val (.ref x), .val (.int v27), .val (.ref y), .unset] [(.int (0 : Int32))])) tgt
              refine XS.istore X111.here hx rfl (hb hby at_511) rfl (l' := #[.val (.int p0), .val (.int p1), .val (.int p2), .val (.int p3), .val (.int p4), .val (.int b5), .val (.int b6), .val (.int b7), .val (.int b8), .val (.int b9), .val (.int v10), .val (.int v11), .val (.int v12), .val (.int v13), .val (.int v14), .val (.int v15), .val (.int v16), .val (.int v17), .val (.int v18), .val (.int v19), .val (.int v20), .val (.int v21), .val (.int v22), .val (.int v23), .val (.int v24), .val (.int v25), .val (.ref x), .val (.int v27), .val (.ref y), .val (.int (0 : Int32))]) rfl ?_
              exact kont)⟩
        have f115 : Exa Z T111.heap x "bourseline/model/MemberSession" := (((((Ex.ext E86).keep Ksd).keep Kse).keep Ksf).keep Ky)
        have f116 : Fld Z T111.heap x "bourseline/model/MemberSession" "sender" "Ljava/lang/String;" (.ref sa) := (((((Fx0.ext E86).keep Ksd nin0).keep Kse nin0).keep Ksf nin0).keep Ky (ninS ne_x_y nin0))
        have f117 : Fld Z T111.heap x "bourseline/model/MemberSession" "target" "Ljava/lang/String;" (.ref sb) := (((((Fx1.ext E86).keep Ksd nin0).keep Kse nin0).keep Ksf nin0).keep Ky (ninS ne_x_y nin0))
        have f118 : Fld Z T111.heap x "bourseline/model/MemberSession" "fixVersion" "Lbourseline/model/FixVersion;" (.ref (own_vs g0 g1 g2 v22)) := (((((Fx2.ext E86).keep Ksd nin0).keep Kse nin0).keep Ksf nin0).keep Ky (ninS ne_x_y nin0))
        have f119 : Fld Z T111.heap x "bourseline/model/MemberSession" "member" "Ljava/lang/String;" (.ref sc) := (((((Fx3.ext E86).keep Ksd nin0).keep Kse nin0).keep Ksf nin0).keep Ky (ninS ne_x_y nin0))
        have f120 : Fld Z T111.heap x "bourseline/model/MemberSession" "selfMatchRule" "Lbourseline/model/SelfMatchInstruction;" (own_rl r0 r1 r2 v24) := (((((Fx4.ext E86).keep Ksd nin0).keep Kse nin0).keep Ksf nin0).keep Ky (ninS ne_x_y nin0))
        have f121 : Exa Z T111.heap sa "java/lang/String" := ((((((((Esa.keep Ksb).keep Ksc).keep Kx).ext E86).keep Ksd).keep Kse).keep Ksf).keep Ky)
        have f122 : Fld Z T111.heap sa "java/lang/String" "value" "[B" (.ref tsa) := ((((((((Vsa.keep Ksb nin0).keep Ksc nin0).keep Kx (ninS (Ne.symm ne_x_sa) nin0)).ext E86).keep Ksd nin0).keep Kse nin0).keep Ksf nin0).keep Ky (ninS ne_sa_y nin0))
        have f123 : Fld Z T111.heap sa "java/lang/String" "coder" "B" (.int (0 : Int32)) := ((((((((Csa.keep Ksb nin0).keep Ksc nin0).keep Kx (ninS (Ne.symm ne_x_sa) nin0)).ext E86).keep Ksd nin0).keep Kse nin0).keep Ksf nin0).keep Ky (ninS ne_sa_y nin0))
        have f124 : Arv Z T111.heap tsa ksa .byte (2 : Int32) ((([v10, v11] : List Int32).map (fun c => c.toInt8.toInt32)).map Value.int) (.int (0 : Int32)) := ((((((((Asa.keep Ksb nin0).keep Ksc nin0).keep Kx (ninS (Ne.symm ne_x_tsa) nin0)).ext E86).keep Ksd nin0).keep Kse nin0).keep Ksf nin0).keep Ky (ninS ne_tsa_y nin0))
        have f125 : Exa Z T111.heap sb "java/lang/String" := (((((((Esb.keep Ksc).keep Kx).ext E86).keep Ksd).keep Kse).keep Ksf).keep Ky)
        have f126 : Fld Z T111.heap sb "java/lang/String" "value" "[B" (.ref tsb) := (((((((Vsb.keep Ksc nin0).keep Kx (ninS (Ne.symm ne_x_sb) nin0)).ext E86).keep Ksd nin0).keep Kse nin0).keep Ksf nin0).keep Ky (ninS ne_sb_y nin0))
        have f127 : Fld Z T111.heap sb "java/lang/String" "coder" "B" (.int (0 : Int32)) := (((((((Csb.keep Ksc nin0).keep Kx (ninS (Ne.symm ne_x_sb) nin0)).ext E86).keep Ksd nin0).keep Kse nin0).keep Ksf nin0).keep Ky (ninS ne_sb_y nin0))
        have f128 : Arv Z T111.heap tsb ksb .byte (2 : Int32) ((([v14, v15] : List Int32).map (fun c => c.toInt8.toInt32)).map Value.int) (.int (0 : Int32)) := (((((((Asb.keep Ksc nin0).keep Kx (ninS (Ne.symm ne_x_tsb) nin0)).ext E86).keep Ksd nin0).keep Kse nin0).keep Ksf nin0).keep Ky (ninS ne_tsb_y nin0))
        have f129 : Exa Z T111.heap sc "java/lang/String" := ((((((Esc.keep Kx).ext E86).keep Ksd).keep Kse).keep Ksf).keep Ky)
        have f130 : Fld Z T111.heap sc "java/lang/String" "value" "[B" (.ref tsc) := ((((((Vsc.keep Kx (ninS (Ne.symm ne_x_sc) nin0)).ext E86).keep Ksd nin0).keep Kse nin0).keep Ksf nin0).keep Ky (ninS ne_sc_y nin0))
        have f131 : Fld Z T111.heap sc "java/lang/String" "coder" "B" (.int (0 : Int32)) := ((((((Csc.keep Kx (ninS (Ne.symm ne_x_sc) nin0)).ext E86).keep Ksd nin0).keep Kse nin0).keep Ksf nin0).keep Ky (ninS ne_sc_y nin0))
        have f132 : Arv Z T111.heap tsc ksc .byte (2 : Int32) ((([v18, v19] : List Int32).map (fun c => c.toInt8.toInt32)).map Value.int) (.int (0 : Int32)) := ((((((Asc.keep Kx (ninS (Ne.symm ne_x_tsc) nin0)).ext E86).keep Ksd nin0).keep Kse nin0).keep Ksf nin0).keep Ky (ninS ne_tsc_y nin0))
        have f133 : Exa Z T111.heap sd "java/lang/String" := (((Esd.keep Kse).keep Ksf).keep Ky)
        have f134 : Fld Z T111.heap sd "java/lang/String" "value" "[B" (.ref tsd) := (((Vsd.keep Kse nin0).keep Ksf nin0).keep Ky (ninS (Ne.symm ne_y_sd) nin0))
        have f135 : Fld Z T111.heap sd "java/lang/String" "coder" "B" (.int (0 : Int32)) := (((Csd.keep Kse nin0).keep Ksf nin0).keep Ky (ninS (Ne.symm ne_y_sd) nin0))
        have f136 : Arv Z T111.heap tsd ksd .byte (2 : Int32) ((([v12, v13] : List Int32).map (fun c => c.toInt8.toInt32)).map Value.int) (.int (0 : Int32)) := (((Asd.keep Kse nin0).keep Ksf nin0).keep Ky (ninS (Ne.symm ne_y_tsd) nin0))
        have f137 : Exa Z T111.heap se "java/lang/String" := ((Ese.keep Ksf).keep Ky)
        have f138 : Fld Z T111.heap se "java/lang/String" "value" "[B" (.ref tse) := ((Vse.keep Ksf nin0).keep Ky (ninS (Ne.symm ne_y_se) nin0))
        have f139 : Fld Z T111.heap se "java/lang/String" "coder" "B" (.int (0 : Int32)) := ((Cse.keep Ksf nin0).keep Ky (ninS (Ne.symm ne_y_se) nin0))
        have f140 : Arv Z T111.heap tse kse .byte (2 : Int32) ((([v16, v17] : List Int32).map (fun c => c.toInt8.toInt32)).map Value.int) (.int (0 : Int32)) := ((Ase.keep Ksf nin0).keep Ky (ninS (Ne.symm ne_y_tse) nin0))
        have f141 : Exa Z T111.heap sf "java/lang/String" := (Esf.keep Ky)
        have f142 : Fld Z T111.heap sf "java/lang/String" "value" "[B" (.ref tsf) := (Vsf.keep Ky (ninS (Ne.symm ne_y_sf) nin0))
        have f143 : Fld Z T111.heap sf "java/lang/String" "coder" "B" (.int (0 : Int32)) := (Csf.keep Ky (ninS (Ne.symm ne_y_sf) nin0))
        have f144 : Arv Z T111.heap tsf ksf .byte (2 : Int32) ((([v20, v21] : List Int32).map (fun c => c.toInt8.toInt32)).map Value.int) (.int (0 : Int32)) := (Asf.keep Ky (ninS (Ne.symm ne_y_tsf) nin0))
        have f145 : Old Z n0 T111.heap := (f102.keep Ky (allS ge_y all0))
        have go146 : ∀ tgt, Steps p.tables e below (T111.setTop (mkF m 517 #[.val (.int p0), .val (.int p1), .val (.int p2), .val (.int p3), .val (.int p4), .val (.int b5), .val (.int b6), .val (.int b7), .val (.int b8), .val (.int b9), .val (.int v10), .val (.int v11), .val (.int v12), .val (.int v13), .val (.int v14), .val (.int v15), .val (.int v16), .val (.int v17), .val (.int v18), .val (.int v19), .val (.int v20), .val (.int v21), .val (.int v22), .val (.int v23), .val (.int v24), .val (.int v25), .val (.ref x), .val (.int v27), .val (.ref y), .val (.int b29)] [(.ref y), (.ref x)])) tgt → Steps p.tables e below E0 tgt := fun tgt kont => go114 tgt (by
          show Steps p.tables e below (T111.setTop (mkF m 513 #[.val (.int p0), .val (.int p1), .val (.int p2), .val (.int p3), .val (.int p4), .val (.int b5), .val (.int b6), .val (.int b7), .val (.int b8), .val (.int b9), .val (.int v10), .val (.int v11), .val (.int v12), .val (.int v13), .val (.int v14), .val (.int v15), .val (.int v16), .val (.int v17), .val (.int v18), .val (.int v19), .val (.int v20), .val (.int v21), .val (.int v22), .val (.int v23), .val (.int v24), .val (.int v25), .val (.ref x), .val (.int v27), .val (.ref y), .val (.int b29)] [])) tgt
          refine XS.aload X111.here hx rfl (hb hby at_513) rfl rfl ?_
          show Steps p.tables e below (T111.setTop (mkF m 515 #[.val (.int p0), .val (.int p1), .val (.int p2), .val (.int p3), .val (.int p4), .val (.int b5), .val (.int b6), .val (.int b7), .val (.int b8), .val (.int b9), .val (.int v10), .val (.int v11), .val (.int v12), .val (.int v13), .val (.int v14), .val (.int v15), .val (.int v16), .val (.int v17), .val (.int v18), .val (.int v19), .val (.int v20), .val (.int v21), .val (.int v22), .val (.int v23), .val (.int v24), .val (.int v25), .val (.ref x), .val (.int v27), .val (.ref y), .val (.int b29)] [(.ref x)])) tgt
          refine XS.aload X111.here hx rfl (hb hby at_515) rfl rfl ?_
          exact kont)
        obtain ⟨cq147, kq147, q147a, q147b, q147c⟩ := isOf hZ111 rfl f115
        obtain ⟨vv147, _, ⟨T147, L147, k147, n147⟩, -, X147, ⟨Lc147, hQ147, l147, y147, z147⟩, st147⟩ := X111.virtualBack hx (y := (⟨"bourseline/model/MemberSession", "equals", "(Ljava/lang/Object;)Z"⟩ : MethodName)) (z := (⟨"bourseline/model/MemberSession", "equals", "(Ljava/lang/Object;)Z"⟩ : MethodName)) hown111 (mvT hZ111 (hw _ (List.mem_of_getElem? (i := 78) rfl))) (mvT hZ111 (hw _ (List.mem_of_getElem? (i := 79) rfl))) (notFace_of_selects (args := #[]) (mvT hZ111 (hw _ (List.mem_of_getElem? (i := 81) rfl)))) (mvT hZ111 (hw _ (List.mem_of_getElem? (i := 81) rfl))) (mvT hZ111 (hw _ (List.mem_of_getElem? (i := 80) rfl))) (by decide) (backOf (W := 0) (rmEM l Z a0 hw [] x y sa tsa ksa v10 v11 sb tsb ksb v14 v15 sc tsc ksc v18 v19 sd tsd ksd v12 v13 se tse kse v16 v17 sf tsf ksf v20 v21 (own_vs g0 g1 g2 v22) (own_vs g0 g1 g2 v23) (own_rl r0 r1 r2 v24) (own_rl r0 r1 r2 v25) G T111.heap n0 z112 (own_rlr r0 r1 r2 v24) (own_rlr r0 r1 r2 v25) f115 Ey f116 f117 f118 f119 f120 Fy0 Fy1 Fy2 Fy3 Fy4 f121 f122 f123 f124 hpsa f125 f126 f127 f128 hpsb f129 f130 f131 f132 hpsc f133 f134 f135 f136 hpsd f137 f138 f139 f140 hpse f141 f142 f143 f144 hpsf (SC.ext f145.2) hG) hZ111 (hw _ (List.mem_of_getElem? (i := 82) rfl)) (hw _ (List.mem_of_getElem? (i := 2) rfl)) (by decide) (by decide)) q147a q147c (g := (mkF m 517 #[.val (.int p0), .val (.int p1), .val (.int p2), .val (.int p3), .val (.int p4), .val (.int b5), .val (.int b6), .val (.int b7), .val (.int b8), .val (.int b9), .val (.int v10), .val (.int v11), .val (.int v12), .val (.int v13), .val (.int v14), .val (.int v15), .val (.int v16), .val (.int v17), .val (.int v18), .val (.int v19), .val (.int v20), .val (.int v21), .val (.int v22), .val (.int v23), .val (.int v24), .val (.int v25), .val (.ref x), .val (.int v27), .val (.ref y), .val (.int b29)] [(.ref y), (.ref x)])) rfl (by rw [hml]; rfl) (Steps.refl _) (argsL := [(.ref y)]) (rest := []) (lenOf pd_7 rfl) rfl (by show 2 * 0 + _ ≤ _; exact Nat.le_of_eq rfl) (hb hby at_517) (fun _ _ => ⟨rfl, rfl, (by decide : 36 + 0 ≤ _), (by decide : 314 + 0 ≤ _)⟩)
        dsimp only [Pt.U, Pt.locs, Pt.cells, Pt.slots] at X147 l147 y147 z147 st147 hQ147
        subst l147 y147 z147
        obtain ⟨hv147, N147q, e147⟩ := hQ147
        obtain ⟨ra, rfl, hra⟩ : ∃ r : Int32, vv147 = some (.int r) ∧ ((r = 1 ∧ ([v10, v11] : List Int32) = ([v12, v13] : List Int32) ∧ ([v14, v15] : List Int32) = ([v16, v17] : List Int32) ∧ (own_vs g0 g1 g2 v22) = (own_vs g0 g1 g2 v23) ∧ ([v18, v19] : List Int32) = ([v20, v21] : List Int32) ∧ (own_rl r0 r1 r2 v24) = (own_rl r0 r1 r2 v25)) ∨ (r = 0 ∧ ¬ (([v10, v11] : List Int32) = ([v12, v13] : List Int32) ∧ ([v14, v15] : List Int32) = ([v16, v17] : List Int32) ∧ (own_vs g0 g1 g2 v22) = (own_vs g0 g1 g2 v23) ∧ ([v18, v19] : List Int32) = ([v20, v21] : List Int32) ∧ (own_rl r0 r1 r2 v24) = (own_rl r0 r1 r2 v25)))) := by
          rcases hv147 with ⟨q, u⟩ | ⟨q, u⟩
          · exact ⟨1, q, Or.inl ⟨rfl, u⟩⟩
          · exact ⟨0, q, Or.inr ⟨rfl, u⟩⟩
        have N147 := Fr.app N111 N147q
        have go147 : ∀ tgt, Steps p.tables e below (T147.setTop (mkF m 520 #[.val (.int p0), .val (.int p1), .val (.int p2), .val (.int p3), .val (.int p4), .val (.int b5), .val (.int b6), .val (.int b7), .val (.int b8), .val (.int b9), .val (.int v10), .val (.int v11), .val (.int v12), .val (.int v13), .val (.int v14), .val (.int v15), .val (.int v16), .val (.int v17), .val (.int v18), .val (.int v19), .val (.int v20), .val (.int v21), .val (.int v22), .val (.int v23), .val (.int v24), .val (.int v25), .val (.ref x), .val (.int v27), .val (.ref y), .val (.int b29)] [(.int ra)])) tgt → Steps p.tables e below E0 tgt := fun tgt kont => go146 tgt (st147.trans kont)
        have cra : ra = b29 := by
          have iff1 := own_vsi ng1 ng2 ng3 r22 r23
          have iff2 := own_rli nr1 nr2 nr3 r24 r25
          simp only [List.cons.injEq, and_true, iff1, iff2] at hra
          rcases hra with ⟨q1, q2⟩ | ⟨q1, q2⟩ <;> rcases hb29 with ⟨u1, u2⟩ | ⟨u1, u2⟩ <;> rw [q1, u1]
          · exact absurd (by obtain ⟨⟨z1, z2⟩, ⟨z3, z4⟩, z5, ⟨z6, z7⟩, z8⟩ := q2; simp_all) u2
          · exact absurd (by obtain ⟨z1, z2, z3, z4, z5, z6, z7, z8⟩ := u2; simp_all) q2
        have go148 : ∀ tgt, Steps p.tables e below (T147.setTop (mkF m 529 #[.val (.int p0), .val (.int p1), .val (.int p2), .val (.int p3), .val (.int p4), .val (.int b5), .val (.int b6), .val (.int b7), .val (.int b8), .val (.int b9), .val (.int v10), .val (.int v11), .val (.int v12), .val (.int v13), .val (.int v14), .val (.int v15), .val (.int v16), .val (.int v17), .val (.int v18), .val (.int v19), .val (.int v20), .val (.int v21), .val (.int v22), .val (.int v23), .val (.int v24), .val (.int v25), .val (.ref x), .val (.int v27), .val (.ref y), .val (.int b29)] [(.ref x), (.ref y)])) tgt → Steps p.tables e below E0 tgt := fun tgt kont => go147 tgt (by
          show Steps p.tables e below (T147.setTop (mkF m 520 #[.val (.int p0), .val (.int p1), .val (.int p2), .val (.int p3), .val (.int p4), .val (.int b5), .val (.int b6), .val (.int b7), .val (.int b8), .val (.int b9), .val (.int v10), .val (.int v11), .val (.int v12), .val (.int v13), .val (.int v14), .val (.int v15), .val (.int v16), .val (.int v17), .val (.int v18), .val (.int v19), .val (.int v20), .val (.int v21), .val (.int v22), .val (.int v23), .val (.int v24), .val (.int v25), .val (.ref x), .val (.int v27), .val (.ref y), .val (.int b29)] [(.int ra)])) tgt
          refine XS.iload X147.here hx rfl (hb hby at_520) rfl ?_
          show Steps p.tables e below (T147.setTop (mkF m 522 #[.val (.int p0), .val (.int p1), .val (.int p2), .val (.int p3), .val (.int p4), .val (.int b5), .val (.int b6), .val (.int b7), .val (.int b8), .val (.int b9), .val (.int v10), .val (.int v11), .val (.int v12), .val (.int v13), .val (.int v14), .val (.int v15), .val (.int v16), .val (.int v17), .val (.int v18), .val (.int v19), .val (.int v20), .val (.int v21), .val (.int v22), .val (.int v23), .val (.int v24), .val (.int v25), .val (.ref x), .val (.int v27), .val (.ref y), .val (.int b29)] [(.int b29), (.int ra)])) tgt
          refine XS.icmpNo X147.here hx rfl (hb hby at_522) rfl (teq cra).2 ?_
          show Steps p.tables e below (T147.setTop (mkF m 525 #[.val (.int p0), .val (.int p1), .val (.int p2), .val (.int p3), .val (.int p4), .val (.int b5), .val (.int b6), .val (.int b7), .val (.int b8), .val (.int b9), .val (.int v10), .val (.int v11), .val (.int v12), .val (.int v13), .val (.int v14), .val (.int v15), .val (.int v16), .val (.int v17), .val (.int v18), .val (.int v19), .val (.int v20), .val (.int v21), .val (.int v22), .val (.int v23), .val (.int v24), .val (.int v25), .val (.ref x), .val (.int v27), .val (.ref y), .val (.int b29)] [])) tgt
          refine XS.aload X147.here hx rfl (hb hby at_525) rfl rfl ?_
          show Steps p.tables e below (T147.setTop (mkF m 527 #[.val (.int p0), .val (.int p1), .val (.int p2), .val (.int p3), .val (.int p4), .val (.int b5), .val (.int b6), .val (.int b7), .val (.int b8), .val (.int b9), .val (.int v10), .val (.int v11), .val (.int v12), .val (.int v13), .val (.int v14), .val (.int v15), .val (.int v16), .val (.int v17), .val (.int v18), .val (.int v19), .val (.int v20), .val (.int v21), .val (.int v22), .val (.int v23), .val (.int v24), .val (.int v25), .val (.ref x), .val (.int v27), .val (.ref y), .val (.int b29)] [(.ref y)])) tgt
          refine XS.aload X147.here hx rfl (hb hby at_527) rfl rfl ?_
          exact kont)
        obtain ⟨cq149, kq149, q149a, q149b, q149c⟩ := isOf hZ111 e147 Ey
        obtain ⟨vv149, _, ⟨T149, L149, k149, n149⟩, -, X149, ⟨Lc149, hQ149, l149, y149, z149⟩, st149⟩ := X147.virtualBack hx (y := (⟨"bourseline/model/MemberSession", "equals", "(Ljava/lang/Object;)Z"⟩ : MethodName)) (z := (⟨"bourseline/model/MemberSession", "equals", "(Ljava/lang/Object;)Z"⟩ : MethodName)) hown111 (mvT hZ111 (hw _ (List.mem_of_getElem? (i := 78) rfl))) (mvT hZ111 (hw _ (List.mem_of_getElem? (i := 79) rfl))) (notFace_of_selects (args := #[]) (mvT hZ111 (hw _ (List.mem_of_getElem? (i := 81) rfl)))) (mvT hZ111 (hw _ (List.mem_of_getElem? (i := 81) rfl))) (mvT hZ111 (hw _ (List.mem_of_getElem? (i := 80) rfl))) (by decide) (backOf (W := 0) (rmEM l Z a0 hw [] y x sd tsd ksd v12 v13 se tse kse v16 v17 sf tsf ksf v20 v21 sa tsa ksa v10 v11 sb tsb ksb v14 v15 sc tsc ksc v18 v19 (own_vs g0 g1 g2 v23) (own_vs g0 g1 g2 v22) (own_rl r0 r1 r2 v25) (own_rl r0 r1 r2 v24) G T111.heap n0 z112 (own_rlr r0 r1 r2 v25) (own_rlr r0 r1 r2 v24) Ey f115 Fy0 Fy1 Fy2 Fy3 Fy4 f116 f117 f118 f119 f120 f133 f134 f135 f136 hpsd f137 f138 f139 f140 hpse f141 f142 f143 f144 hpsf f121 f122 f123 f124 hpsa f125 f126 f127 f128 hpsb f129 f130 f131 f132 hpsc (SC.ext f145.2) hG) hZ111 (hw _ (List.mem_of_getElem? (i := 82) rfl)) (hw _ (List.mem_of_getElem? (i := 2) rfl)) (by decide) (by decide)) q149a q149c (g := (mkF m 529 #[.val (.int p0), .val (.int p1), .val (.int p2), .val (.int p3), .val (.int p4), .val (.int b5), .val (.int b6), .val (.int b7), .val (.int b8), .val (.int b9), .val (.int v10), .val (.int v11), .val (.int v12), .val (.int v13), .val (.int v14), .val (.int v15), .val (.int v16), .val (.int v17), .val (.int v18), .val (.int v19), .val (.int v20), .val (.int v21), .val (.int v22), .val (.int v23), .val (.int v24), .val (.int v25), .val (.ref x), .val (.int v27), .val (.ref y), .val (.int b29)] [(.ref x), (.ref y)])) rfl (by rw [hml]; rfl) (Steps.refl _) (argsL := [(.ref x)]) (rest := []) (lenOf pd_7 rfl) rfl (by show 2 * 0 + _ ≤ _; exact Nat.le_of_eq rfl) (hb hby at_529) (fun _ _ => ⟨rfl, e147, (by decide : 36 + 0 ≤ _), (by decide : 314 + 0 ≤ _)⟩)
        dsimp only [Pt.U, Pt.locs, Pt.cells, Pt.slots] at X149 l149 y149 z149 st149 hQ149
        subst l149 y149 z149
        obtain ⟨hv149, N149q, e149⟩ := hQ149
        obtain ⟨rb, rfl, hrb⟩ : ∃ r : Int32, vv149 = some (.int r) ∧ ((r = 1 ∧ ([v12, v13] : List Int32) = ([v10, v11] : List Int32) ∧ ([v16, v17] : List Int32) = ([v14, v15] : List Int32) ∧ (own_vs g0 g1 g2 v23) = (own_vs g0 g1 g2 v22) ∧ ([v20, v21] : List Int32) = ([v18, v19] : List Int32) ∧ (own_rl r0 r1 r2 v25) = (own_rl r0 r1 r2 v24)) ∨ (r = 0 ∧ ¬ (([v12, v13] : List Int32) = ([v10, v11] : List Int32) ∧ ([v16, v17] : List Int32) = ([v14, v15] : List Int32) ∧ (own_vs g0 g1 g2 v23) = (own_vs g0 g1 g2 v22) ∧ ([v20, v21] : List Int32) = ([v18, v19] : List Int32) ∧ (own_rl r0 r1 r2 v25) = (own_rl r0 r1 r2 v24)))) := by
          rcases hv149 with ⟨q, u⟩ | ⟨q, u⟩
          · exact ⟨1, q, Or.inl ⟨rfl, u⟩⟩
          · exact ⟨0, q, Or.inr ⟨rfl, u⟩⟩
        have N149 := Fr.app N147 N149q
        have go149 : ∀ tgt, Steps p.tables e below (T149.setTop (mkF m 532 #[.val (.int p0), .val (.int p1), .val (.int p2), .val (.int p3), .val (.int p4), .val (.int b5), .val (.int b6), .val (.int b7), .val (.int b8), .val (.int b9), .val (.int v10), .val (.int v11), .val (.int v12), .val (.int v13), .val (.int v14), .val (.int v15), .val (.int v16), .val (.int v17), .val (.int v18), .val (.int v19), .val (.int v20), .val (.int v21), .val (.int v22), .val (.int v23), .val (.int v24), .val (.int v25), .val (.ref x), .val (.int v27), .val (.ref y), .val (.int b29)] [(.int rb)])) tgt → Steps p.tables e below E0 tgt := fun tgt kont => go148 tgt (st149.trans kont)
        have crb : rb = b29 := by
          have iff1 := own_vsi ng1 ng2 ng3 r23 r22
          have iff2 := own_rli nr1 nr2 nr3 r25 r24
          simp only [List.cons.injEq, and_true, iff1, iff2] at hrb
          rcases hrb with ⟨q1, q2⟩ | ⟨q1, q2⟩ <;> rcases hb29 with ⟨u1, u2⟩ | ⟨u1, u2⟩ <;> rw [q1, u1]
          · exact absurd (by obtain ⟨⟨z1, z2⟩, ⟨z3, z4⟩, z5, ⟨z6, z7⟩, z8⟩ := q2; simp_all) u2
          · exact absurd (by obtain ⟨z1, z2, z3, z4, z5, z6, z7, z8⟩ := u2; simp_all) q2
        have go150 : ∀ tgt, Steps p.tables e below (T149.setTop (mkF m 542 #[.val (.int p0), .val (.int p1), .val (.int p2), .val (.int p3), .val (.int p4), .val (.int b5), .val (.int b6), .val (.int b7), .val (.int b8), .val (.int b9), .val (.int v10), .val (.int v11), .val (.int v12), .val (.int v13), .val (.int v14), .val (.int v15), .val (.int v16), .val (.int v17), .val (.int v18), .val (.int v19), .val (.int v20), .val (.int v21), .val (.int v22), .val (.int v23), .val (.int v24), .val (.int v25), .val (.ref x), .val (.int v27), .val (.ref y), .val (.int b29)] [(.int (1 : Int32))])) tgt → Steps p.tables e below E0 tgt := fun tgt kont => go149 tgt (by
          show Steps p.tables e below (T149.setTop (mkF m 532 #[.val (.int p0), .val (.int p1), .val (.int p2), .val (.int p3), .val (.int p4), .val (.int b5), .val (.int b6), .val (.int b7), .val (.int b8), .val (.int b9), .val (.int v10), .val (.int v11), .val (.int v12), .val (.int v13), .val (.int v14), .val (.int v15), .val (.int v16), .val (.int v17), .val (.int v18), .val (.int v19), .val (.int v20), .val (.int v21), .val (.int v22), .val (.int v23), .val (.int v24), .val (.int v25), .val (.ref x), .val (.int v27), .val (.ref y), .val (.int b29)] [(.int rb)])) tgt
          refine XS.iload X149.here hx rfl (hb hby at_532) rfl ?_
          show Steps p.tables e below (T149.setTop (mkF m 534 #[.val (.int p0), .val (.int p1), .val (.int p2), .val (.int p3), .val (.int p4), .val (.int b5), .val (.int b6), .val (.int b7), .val (.int b8), .val (.int b9), .val (.int v10), .val (.int v11), .val (.int v12), .val (.int v13), .val (.int v14), .val (.int v15), .val (.int v16), .val (.int v17), .val (.int v18), .val (.int v19), .val (.int v20), .val (.int v21), .val (.int v22), .val (.int v23), .val (.int v24), .val (.int v25), .val (.ref x), .val (.int v27), .val (.ref y), .val (.int b29)] [(.int b29), (.int rb)])) tgt
          refine XS.icmpNo X149.here hx rfl (hb hby at_534) rfl (teq crb).2 ?_
          show Steps p.tables e below (T149.setTop (mkF m 537 #[.val (.int p0), .val (.int p1), .val (.int p2), .val (.int p3), .val (.int p4), .val (.int b5), .val (.int b6), .val (.int b7), .val (.int b8), .val (.int b9), .val (.int v10), .val (.int v11), .val (.int v12), .val (.int v13), .val (.int v14), .val (.int v15), .val (.int v16), .val (.int v17), .val (.int v18), .val (.int v19), .val (.int v20), .val (.int v21), .val (.int v22), .val (.int v23), .val (.int v24), .val (.int v25), .val (.ref x), .val (.int v27), .val (.ref y), .val (.int b29)] [])) tgt
          refine XS.iconst X149.here hx rfl (hb hby at_537) ?_
          show Steps p.tables e below (T149.setTop (mkF m 538 #[.val (.int p0), .val (.int p1), .val (.int p2), .val (.int p3), .val (.int p4), .val (.int b5), .val (.int b6), .val (.int b7), .val (.int b8), .val (.int b9), .val (.int v10), .val (.int v11), .val (.int v12), .val (.int v13), .val (.int v14), .val (.int v15), .val (.int v16), .val (.int v17), .val (.int v18), .val (.int v19), .val (.int v20), .val (.int v21), .val (.int v22), .val (.int v23), .val (.int v24), .val (.int v25), .val (.ref x), .val (.int v27), .val (.ref y), .val (.int b29)] [(.int (1 : Int32))])) tgt
          refine XS.goto X149.here hx rfl (pc0 := 538) (pc' := 542) rfl (hb hby at_538) (by decide) (by decide) ?_
          exact kont)
        obtain ⟨fs, hr, hrun, hended, hW⟩ := X149.leaveW hS111 (by rw [e149]; exact (Nat.le_refl _)) (v := some (.int (1 : Int32))) (fun h => by rw [Bd.returns] at h; cases h)
        refine ⟨_, _, go150 _ ?_, hrun, hended, _, _, rfl, ?_, hW.1, hW.2.1, hW.2.2.1, hW.2.2.2.mono (by decide) (by decide)⟩
        · show Steps p.tables e below (T149.setTop (mkF m 542 #[.val (.int p0), .val (.int p1), .val (.int p2), .val (.int p3), .val (.int p4), .val (.int b5), .val (.int b6), .val (.int b7), .val (.int b8), .val (.int b9), .val (.int v10), .val (.int v11), .val (.int v12), .val (.int v13), .val (.int v14), .val (.int v15), .val (.int v16), .val (.int v17), .val (.int v18), .val (.int v19), .val (.int v20), .val (.int v21), .val (.int v22), .val (.int v23), .val (.int v24), .val (.int v25), .val (.ref x), .val (.int v27), .val (.ref y), .val (.int b29)] [(.int (1 : Int32))])) _
          exact retN X149 hx (t := .boolean) Bd.returns (by simp) (hb hby at_542) hr
        · show QL Z p0 p1 p2 p3 p4 G g0 g1 g2 r0 r1 r2 h0 n0 _ T149.heap _
          rw [e149]
          exact ⟨rfl, N149⟩
theorem own_eqint {args : Array Value} {s : State} {t : Term} {k : Int32} (h : (Jvm.Cond.eq t (.int k)).value args s none s [] = some true) : t.eval args s none [] s = some (.int k) := by
  simp only [Cond.value, Term.eval] at h
  cases ht : t.eval args s none [] s with
  | none => simp [ht] at h
  | some x => cases x <;> simp [ht] at h ⊢; exact h
set_option maxRecDepth 65536 in
set_option maxHeartbeats 40000000 in
theorem comes_1 {Post : Tables → Env → Array Value → State → Outcome → State → Prop} (hpost : ∀ tb e args s v u, (limb_1_1.after args s (.returned v) u = true ∧ limb_1_2.after args s (.returned v) u = true ∧ True) → ReturnedEndW s (.returned v) u (Jvm.fieldLocs frame_1_writes args s ++ Jvm.arrayLocs frame_1_arrays args s ++ Jvm.staticLocs frame_1_statics s) 56 4352 → Post tb e args s (.returned v) u) :
    ArmFor flags0 classFile x code maxLocals ret World_1 tables_1 room_1 Calls_1 rest_1 Pre_1 Post := by
  intro l hfl _ _ p e ha hc hk s m args below hf hA hF happ hP
  obtain ⟨hcalls, hrest, hpre⟩ := hP
  obtain ⟨-, -, -, hnamed, -, -, -, hat⟩ := (Spec.applies_iff hf).mp happ
  obtain ⟨hg, hn⟩ := and_e (Cond.before_iff.mp (show (Jvm.Cond.and given_1 narrow_1).before args s = true from hpre))
  obtain ⟨h1, r0⟩ := and_e hg
  obtain ⟨t0, r1⟩ := and_e r0
  obtain ⟨t1, r2⟩ := and_e r1
  obtain ⟨t2, r3⟩ := and_e r2
  obtain ⟨t3, r4⟩ := and_e r3
  have t4 := r4
  obtain ⟨w0, w1, w2, w3, w4, rfl⟩ : ∃ w0 w1 w2 w3 w4 : Value, args = #[w0, w1, w2, w3, w4] := by
    have hs : args.size = 5 := by simpa [Cond.value, given_1] using h1
    obtain ⟨L⟩ := args
    match L, hs with
    | [w0, w1, w2, w3, w4], _ => exact ⟨w0, w1, w2, w3, w4, rfl⟩
  have hw := fun d (hd : d ∈ tables_1) => atoms_spec (ws := Jvm.Cond.code x code maxLocals ret :: tables_1) hat d (List.mem_cons_of_mem _ hd)
  have hfit : Fit s := fun {y c} hc i hi => by
    obtain ⟨ha, rfl⟩ := Array.getElem?_eq_some_iff.mp hc
    have q := List.all_eq_true.mp ((Array.all_eq_true_iff_forall_mem.mp hF) _ (Array.getElem_mem ha)) i (List.mem_range.mpr hi)
    simpa [Array.getElem?_eq_getElem hi] using q
  obtain ⟨i0, e0⟩ := is_v t0
  obtain rfl : w0 = (.int i0) := Option.some.inj e0
  obtain ⟨i1, e1⟩ := is_v t1
  obtain rfl : w1 = (.int i1) := Option.some.inj e1
  obtain ⟨i2, e2⟩ := is_v t2
  obtain rfl : w2 = (.int i2) := Option.some.inj e2
  obtain ⟨i3, e3⟩ := is_v t3
  obtain rfl : w3 = (.int i3) := Option.some.inj e3
  obtain ⟨i4, e4⟩ := is_v t4
  obtain rfl : w4 = (.int i4) := Option.some.inj e4
  obtain ⟨hsets, hown0⟩ := atoms_of _ (rest_1_c_eq ▸ (show rest_1_c.before _ s = true from hrest))
  have nC := not_v (Cond.before_iff.mp (hsets _ (List.mem_of_getElem? (i := 2) rfl)))
  obtain ⟨iC, eC⟩ := is_v (Cond.before_iff.mp (hsets _ (List.mem_of_getElem? (i := 1) rfl)))
  have SC : Sta s s.heap "java/lang/String" "COMPACT_STRINGS" "Z" (.int iC) := Sta.start eC (Or.inl (hsets _ (List.mem_of_getElem? (i := 0) rfl)))
  have cC : ¬ (iC = (0 : Int32)) := gotF (Cond.eq_ints eC (Term.int_eval (0))) nC
  obtain ⟨nexactly_g1, nn0⟩ := and_e hn
  obtain ⟨nexactly_r0, nn1⟩ := and_e nn0
  obtain ⟨nexactly_g0, nn2⟩ := and_e nn1
  obtain ⟨nexactly_g2, nn3⟩ := and_e nn2
  obtain ⟨nexactly_r1, nn4⟩ := and_e nn3
  obtain ⟨nord_g1, nn5⟩ := and_e nn4
  obtain ⟨nord_g0, nn6⟩ := and_e nn5
  obtain ⟨nexactly_r2, nn7⟩ := and_e nn6
  obtain ⟨nord_g2, nn8⟩ := and_e nn7
  obtain ⟨nord_r2, nn9⟩ := and_e nn8
  obtain ⟨nord_r0, nn10⟩ := and_e nn9
  have nord_r1 := nn10
  obtain ⟨ag0, eg0⟩ := exa_v nexactly_g0
  have Sg0 : Sta s s.heap "bourseline/model/FixVersion" "FIX_4_2" "Lbourseline/model/FixVersion;" (.ref ag0) := Sta.start eg0 (Or.inr ⟨(hw _ (List.mem_of_getElem? (i := 41) rfl)), (hw _ (List.mem_of_getElem? (i := 84) rfl))⟩)
  have Fg0 : Fld s s.heap ag0 "java/lang/Enum" "ordinal" "I" (.int (0 : Int32)) := Fld.start ((fld_at eg0).symm.trans (own_eqint nord_g0))
  obtain ⟨ag1, eg1⟩ := exa_v nexactly_g1
  have Sg1 : Sta s s.heap "bourseline/model/FixVersion" "FIX_4_4" "Lbourseline/model/FixVersion;" (.ref ag1) := Sta.start eg1 (Or.inr ⟨(hw _ (List.mem_of_getElem? (i := 41) rfl)), (hw _ (List.mem_of_getElem? (i := 42) rfl))⟩)
  have Fg1 : Fld s s.heap ag1 "java/lang/Enum" "ordinal" "I" (.int (1 : Int32)) := Fld.start ((fld_at eg1).symm.trans (own_eqint nord_g1))
  obtain ⟨ag2, eg2⟩ := exa_v nexactly_g2
  have Sg2 : Sta s s.heap "bourseline/model/FixVersion" "FIX_5_0_SP2" "Lbourseline/model/FixVersion;" (.ref ag2) := Sta.start eg2 (Or.inr ⟨(hw _ (List.mem_of_getElem? (i := 41) rfl)), (hw _ (List.mem_of_getElem? (i := 86) rfl))⟩)
  have Fg2 : Fld s s.heap ag2 "java/lang/Enum" "ordinal" "I" (.int (2 : Int32)) := Fld.start ((fld_at eg2).symm.trans (own_eqint nord_g2))
  obtain ⟨ar0, er0⟩ := exa_v nexactly_r0
  have Sr0 : Sta s s.heap "bourseline/model/SelfMatchInstruction" "CANCEL_AGGRESSIVE" "Lbourseline/model/SelfMatchInstruction;" (.ref ar0) := Sta.start er0 (Or.inr ⟨(hw _ (List.mem_of_getElem? (i := 47) rfl)), (hw _ (List.mem_of_getElem? (i := 48) rfl))⟩)
  have Fr0 : Fld s s.heap ar0 "java/lang/Enum" "ordinal" "I" (.int (0 : Int32)) := Fld.start ((fld_at er0).symm.trans (own_eqint nord_r0))
  obtain ⟨ar1, er1⟩ := exa_v nexactly_r1
  have Sr1 : Sta s s.heap "bourseline/model/SelfMatchInstruction" "CANCEL_PASSIVE" "Lbourseline/model/SelfMatchInstruction;" (.ref ar1) := Sta.start er1 (Or.inr ⟨(hw _ (List.mem_of_getElem? (i := 47) rfl)), (hw _ (List.mem_of_getElem? (i := 102) rfl))⟩)
  have Fr1 : Fld s s.heap ar1 "java/lang/Enum" "ordinal" "I" (.int (1 : Int32)) := Fld.start ((fld_at er1).symm.trans (own_eqint nord_r1))
  obtain ⟨ar2, er2⟩ := exa_v nexactly_r2
  have Sr2 : Sta s s.heap "bourseline/model/SelfMatchInstruction" "CANCEL_BOTH" "Lbourseline/model/SelfMatchInstruction;" (.ref ar2) := Sta.start er2 (Or.inr ⟨(hw _ (List.mem_of_getElem? (i := 47) rfl)), (hw _ (List.mem_of_getElem? (i := 104) rfl))⟩)
  have Fr2 : Fld s s.heap ar2 "java/lang/Enum" "ordinal" "I" (.int (2 : Int32)) := Fld.start ((fld_at er2).symm.trans (own_eqint nord_r2))
  obtain ⟨n, o, h1, h2, h3, _, L, rfl, ⟨rfl, N⟩, hq⟩ := rmL l s _ hw tables_1 i0 i1 i2 i3 i4 iC ag0 ag1 ag2 ar0 ar1 ar2  s.heap s.heap.size (Nat.le_refl _)  SC cC Sg0 Sg1 Sg2 Sr0 Sr1 Sr2 (Old.start s) (Fg0.ne Fg1 (fun q => absurd (Value.int.inj q) (by decide))) (Fg0.ne Fg2 (fun q => absurd (Value.int.inj q) (by decide))) (Fg1.ne Fg2 (fun q => absurd (Value.int.inj q) (by decide))) (Fr0.ne Fr1 (fun q => absurd (Value.int.inj q) (by decide))) (Fr0.ne Fr2 (fun q => absurd (Value.int.inj q) (by decide))) (Fr1.ne Fr2 (fun q => absurd (Value.int.inj q) (by decide))) p e ha hc hk s m _ below hf ((Spec.applies_iff_loose hf).mp happ).1 ⟨rfl, State.Warmed39.refl s, rfl⟩ trivial
  refine ⟨n, _, h1, h2, h3, hpost _ _ _ _ _ _ ⟨Cond.after_iff.mpr rfl, Cond.after_iff.mpr (eq_i res_at (Term.int_eval (1)) rfl), trivial⟩ ⟨hq.1, hq.2.1, hq.2.2.1, (hq.2.2.2.sift fun y hy => Or.inr (N y hy)).mono (by decide) (by decide)⟩⟩
theorem main_1_1 : Claimed_1_1 := comes_1 fun _ _ _ _ _ _ h hF => ⟨h.1, hF⟩
theorem main_1_2 : Claimed_1_2 := comes_1 fun _ _ _ _ _ _ h hF => ⟨h.2.1, hF⟩
end Jvm.Pilot.@@N@@
namespace Jvm.Pilot.@@N@@
open Jvm Jvm.ClassFile Sem Op Lib Jvm.Free Jvm.Stand Jvm.Pilot.@@N@@.Jvm.D
/-! MADE BY PROGRAM (witnessworld.py) out of the Statement's table words and the real class files: 25 classes; the members and pool entries that the words name. The judged class is class 1, her method 4. -/
namespace start1
open Jvm.ClassFile
def u (s : String) : CpInfo := .utf8 (stringToUtf16 s)
/-- a pool by its gaps: so many unusable entries, then the entry; so many at the end -/
def gap : Nat → List CpInfo → List CpInfo
  | 0, r => r
  | n + 1, r => .unusable :: gap n r
def poolList (es : List (Nat × CpInfo)) (last : Nat) : List CpInfo := es.foldr (fun e r => gap e.1 (e.2 :: r)) (gap last [])
def pool (es : List (Nat × CpInfo)) (last : Nat) : Array CpInfo := ⟨poolList es last⟩
def fileOf (pool : Array CpInfo) (this : Nat) (attrs : Array Attribute := #[]) (ms : Array MethodInfo := #[]) (fl : Nat := 33) (sup : Nat := 0) (ifs : Array Nat := #[]) (fds : Array FieldInfo := #[]) : ClassFile where
  minorVersion := 0
  majorVersion := 65
  constantPool := pool
  accessFlags := fl
  thisClass := this
  superClass := sup
  interfaces := ifs
  fields := fds
  methods := ms
  attributes := attrs
def plain (name : String) (sup : Option ClassId) : Class where
  name := name
  kind := .ordinary
  loader := none
  accessFlags := 33
  super := sup
  interfaces := #[]
  cf := none
  fields := #[]
  methods := #[]
  instanceTypes := #[]
  staticTypes := #[]
  resolved := #[]
  callSites := []
  init := .initialized
  statics := none
  mirror := none

def pool0 : Array CpInfo := pool [(5, u "<init>"), (0, u "()V"), (1, .class_ 10), (1, u "java/lang/Object")] 113

def k0c0 : Code := { maxStack := 0, maxLocals := 1, code := object_method_1_code, exceptionTable := #[], attributes := #[] }
def k0m0 : Method := { name := "<init>", desc := "()V", sig := { parameters := [], returnType := none }, accessFlags := 1, code := some k0c0 }
/-- java/lang/Object -/
def k0 : Class := { plain "java/lang/Object" none with
  accessFlags := 33
  interfaces := #[]
  cf := some (fileOf pool0 8 #[] #[{ accessFlags := 1, nameIndex := 5, descriptorIndex := 6, attributes := #[] }] 33 0 #[] #[])
  fields := #[]
  methods := #[k0m0]
  instanceTypes := #[]
  staticTypes := #[]
  resolved := Array.replicate 124 none
  statics := none }

def pool1 : Array CpInfo := pool [(2, .class_ 4), (1, u "java/lang/Object"), (0, u "<init>"), (0, u "()V"), (0, .class_ 8), (0, u "java/lang/String"), (0, .methodref 7 10), (0, .nameAndType 5 11), (0, u "([C)V"), (0, .fieldref 13 14), (0, .class_ 15), (0, .nameAndType 16 17), (0, u "bourseline/model/FixVersion"), (0, u "FIX_4_2"), (0, u "Lbourseline/model/FixVersion;"), (0, .fieldref 13 19), (0, .nameAndType 20 17), (0, u "FIX_4_4"), (0, .fieldref 13 22), (0, .nameAndType 23 17), (0, u "FIX_5_0_SP2"), (0, .fieldref 25 26), (0, .class_ 27), (0, .nameAndType 28 29), (0, u "bourseline/model/SelfMatchInstruction"), (0, u "CANCEL_AGGRESSIVE"), (0, u "Lbourseline/model/SelfMatchInstruction;"), (0, .fieldref 25 31), (0, .nameAndType 32 29), (0, u "CANCEL_PASSIVE"), (0, .fieldref 25 34), (0, .nameAndType 35 29), (0, u "CANCEL_BOTH"), (0, .class_ 37), (0, u "bourseline/model/MemberSession"), (0, .methodref 39 40), (0, .class_ 41), (0, .nameAndType 42 43), (0, u "bourseline/model/MemberSessionEqualsPinLaw"), (0, u "str"), (0, u "(II)Ljava/lang/String;"), (0, .methodref 39 45), (0, .nameAndType 46 47), (0, u "version"), (0, u "(I)Lbourseline/model/FixVersion;"), (0, .methodref 39 49), (0, .nameAndType 50 51), (0, u "rule"), (0, u "(I)Lbourseline/model/SelfMatchInstruction;"), (0, .methodref 36 53), (0, .nameAndType 5 54), (0, u "(Ljava/lang/String;Ljava/lang/String;Lbourseline/model/FixVersion;Ljava/lang/String;Lbourseline/model/SelfMatchInstruction;)V"), (0, .methodref 36 56), (0, .nameAndType 57 58), (0, u "equals"), (0, u "(Ljava/lang/Object;)Z"), (3, u "law"), (0, u "(IIIII)Z")] 2

def k1m0 : Method := { name := "<init>", desc := "()V", sig := { parameters := [], returnType := none }, accessFlags := 1, code := none }
def k1c1 : Code := { maxStack := 6, maxLocals := 2, code := method_2_code, exceptionTable := #[], attributes := #[] }
def k1m1 : Method := { name := "str", desc := "(II)Ljava/lang/String;", sig := { parameters := [.int, .int], returnType := some (.object "java/lang/String") }, accessFlags := 10, code := some k1c1 }
def k1c2 : Code := { maxStack := 2, maxLocals := 1, code := method_3_code, exceptionTable := #[], attributes := #[] }
def k1m2 : Method := { name := "version", desc := "(I)Lbourseline/model/FixVersion;", sig := { parameters := [.int], returnType := some (.object "bourseline/model/FixVersion") }, accessFlags := 10, code := some k1c2 }
def k1c3 : Code := { maxStack := 2, maxLocals := 1, code := method_4_code, exceptionTable := #[], attributes := #[] }
def k1m3 : Method := { name := "rule", desc := "(I)Lbourseline/model/SelfMatchInstruction;", sig := { parameters := [.int], returnType := some (.object "bourseline/model/SelfMatchInstruction") }, accessFlags := 10, code := some k1c3 }
def k1c4 : Code := { maxStack := 7, maxLocals := 30, code := code, exceptionTable := #[], attributes := #[] }
def k1m4 : Method := { name := "law", desc := "(IIIII)Z", sig := { parameters := [.int, .int, .int, .int, .int], returnType := some .boolean }, accessFlags := 9, code := some k1c4 }
/-- bourseline/model/MemberSessionEqualsPinLaw -/
def k1 : Class := { plain "bourseline/model/MemberSessionEqualsPinLaw" (some 0) with
  accessFlags := 49
  interfaces := #[]
  cf := some (fileOf pool1 39 #[] #[{ accessFlags := 1, nameIndex := 5, descriptorIndex := 6, attributes := #[] }, { accessFlags := 10, nameIndex := 42, descriptorIndex := 43, attributes := #[] }, { accessFlags := 10, nameIndex := 46, descriptorIndex := 47, attributes := #[] }, { accessFlags := 10, nameIndex := 50, descriptorIndex := 51, attributes := #[] }, { accessFlags := 9, nameIndex := 62, descriptorIndex := 63, attributes := #[] }] 49 2 #[] #[])
  fields := #[]
  methods := #[k1m0, k1m1, k1m2, k1m3, k1m4]
  instanceTypes := #[]
  staticTypes := #[]
  resolved := Array.replicate 66 none
  statics := none }

def pool2 : Array CpInfo := pool [(1, .methodref 2 3), (0, .class_ 4), (0, .nameAndType 5 6), (0, u "java/lang/Object"), (0, u "<init>"), (0, u "()V"), (0, .class_ 8), (0, u "java/lang/Record")] 13

def k2c0 : Code := { maxStack := 1, maxLocals := 1, code := jdk_30_method_1_code, exceptionTable := #[], attributes := #[] }
def k2m0 : Method := { name := "<init>", desc := "()V", sig := { parameters := [], returnType := none }, accessFlags := 4, code := some k2c0 }
/-- java/lang/Record -/
def k2 : Class := { plain "java/lang/Record" (some 0) with
  accessFlags := 1057
  interfaces := #[]
  cf := some (fileOf pool2 7 #[] #[{ accessFlags := 4, nameIndex := 5, descriptorIndex := 6, attributes := #[] }] 1057 2 #[] #[])
  fields := #[]
  methods := #[k2m0]
  instanceTypes := #[]
  staticTypes := #[]
  resolved := Array.replicate 22 none
  statics := none }

def pool3 : Array CpInfo := pool [(1, .methodref 2 3), (0, .class_ 4), (0, .nameAndType 5 6), (0, u "java/lang/Record"), (0, u "<init>"), (0, u "()V"), (0, .string 8), (0, u "sender"), (0, .methodref 10 11), (0, .class_ 12), (0, .nameAndType 13 14), (0, u "java/util/Objects"), (0, u "requireNonNull"), (0, u "(Ljava/lang/Object;Ljava/lang/String;)Ljava/lang/Object;"), (0, .string 16), (0, u "target"), (0, .string 18), (0, u "fixVersion"), (0, .string 20), (0, u "member"), (0, .fieldref 22 23), (0, .class_ 24), (0, .nameAndType 8 25), (0, u "bourseline/model/MemberSession"), (0, u "Ljava/lang/String;"), (0, .fieldref 22 27), (0, .nameAndType 16 25), (0, .fieldref 22 29), (0, .nameAndType 18 30), (0, u "Lbourseline/model/FixVersion;"), (0, .fieldref 22 32), (0, .nameAndType 20 25), (0, .fieldref 22 34), (0, .nameAndType 35 36), (0, u "selfMatchRule"), (0, u "Lbourseline/model/SelfMatchInstruction;"), (0, .methodref 38 39), (0, .class_ 40), (0, .nameAndType 41 42), (0, u "java/lang/String"), (0, u "equals"), (0, u "(Ljava/lang/Object;)Z"), (8, u "(Ljava/lang/String;Ljava/lang/String;Lbourseline/model/FixVersion;Ljava/lang/String;Lbourseline/model/SelfMatchInstruction;)V")] 31

def k3c0 : Code := { maxStack := 2, maxLocals := 6, code := prog_44_method_1_code, exceptionTable := #[], attributes := #[] }
def k3m0 : Method := { name := "<init>", desc := "(Ljava/lang/String;Ljava/lang/String;Lbourseline/model/FixVersion;Ljava/lang/String;Lbourseline/model/SelfMatchInstruction;)V", sig := { parameters := [(.object "java/lang/String"), (.object "java/lang/String"), (.object "bourseline/model/FixVersion"), (.object "java/lang/String"), (.object "bourseline/model/SelfMatchInstruction")], returnType := none }, accessFlags := 1, code := some k3c0 }
def k3c1 : Code := { maxStack := 2, maxLocals := 3, code := prog_44_method_2_code, exceptionTable := #[], attributes := #[] }
def k3m1 : Method := { name := "equals", desc := "(Ljava/lang/Object;)Z", sig := { parameters := [(.object "java/lang/Object")], returnType := some .boolean }, accessFlags := 1, code := some k3c1 }
/-- bourseline/model/MemberSession -/
def k3 : Class := { plain "bourseline/model/MemberSession" (some 2) with
  accessFlags := 49
  interfaces := #[]
  cf := some (fileOf pool3 22 #[] #[{ accessFlags := 1, nameIndex := 5, descriptorIndex := 51, attributes := #[] }, { accessFlags := 1, nameIndex := 41, descriptorIndex := 42, attributes := #[] }] 49 2 #[] #[{ accessFlags := 18, nameIndex := 8, descriptorIndex := 25, attributes := #[] }, { accessFlags := 18, nameIndex := 16, descriptorIndex := 25, attributes := #[] }, { accessFlags := 18, nameIndex := 18, descriptorIndex := 30, attributes := #[] }, { accessFlags := 18, nameIndex := 20, descriptorIndex := 25, attributes := #[] }, { accessFlags := 18, nameIndex := 35, descriptorIndex := 36, attributes := #[] }])
  fields := #[{ name := "sender", type := (.object "java/lang/String"), accessFlags := 18, slot := 0, constantValue := 0 }, { name := "target", type := (.object "java/lang/String"), accessFlags := 18, slot := 1, constantValue := 0 }, { name := "fixVersion", type := (.object "bourseline/model/FixVersion"), accessFlags := 18, slot := 2, constantValue := 0 }, { name := "member", type := (.object "java/lang/String"), accessFlags := 18, slot := 3, constantValue := 0 }, { name := "selfMatchRule", type := (.object "bourseline/model/SelfMatchInstruction"), accessFlags := 18, slot := 4, constantValue := 0 }]
  methods := #[k3m0, k3m1]
  instanceTypes := #[(.object "java/lang/String"), (.object "java/lang/String"), (.object "bourseline/model/FixVersion"), (.object "java/lang/String"), (.object "bourseline/model/SelfMatchInstruction")]
  staticTypes := #[]
  resolved := Array.replicate 83 none
  statics := none }

def pool4 : Array CpInfo := pool [(1, .class_ 2), (0, u "java/io/Serializable"), (0, .class_ 4), (0, u "java/lang/Object")] 2

/-- java/io/Serializable -/
def k4 : Class := { plain "java/io/Serializable" (some 0) with
  accessFlags := 1537
  interfaces := #[]
  cf := some (fileOf pool4 1 #[] #[] 1537 3 #[] #[])
  fields := #[]
  methods := #[]
  instanceTypes := #[]
  staticTypes := #[]
  resolved := Array.replicate 7 none
  statics := none }

def pool5 : Array CpInfo := pool [(1, .class_ 2), (0, u "java/lang/Comparable"), (0, .class_ 4), (0, u "java/lang/Object")] 7

/-- java/lang/Comparable -/
def k5 : Class := { plain "java/lang/Comparable" (some 0) with
  accessFlags := 1537
  interfaces := #[]
  cf := some (fileOf pool5 1 #[] #[] 1537 3 #[] #[])
  fields := #[]
  methods := #[]
  instanceTypes := #[]
  staticTypes := #[]
  resolved := Array.replicate 12 none
  statics := none }

def pool6 : Array CpInfo := pool [(2, .class_ 4), (1, u "java/lang/CharSequence"), (42, .class_ 48), (0, u "java/lang/CharSequence$1CodePointIterator"), (10, .class_ 60), (0, u "java/lang/CharSequence$1CharIterator"), (5, .class_ 67), (0, u "java/lang/Object")] 63

/-- java/lang/CharSequence -/
def k6 : Class := { plain "java/lang/CharSequence" (some 0) with
  accessFlags := 1537
  interfaces := #[]
  cf := some (fileOf pool6 2 #[.nestMembers #[47, 59]] #[] 1537 66 #[] #[])
  fields := #[]
  methods := #[]
  instanceTypes := #[]
  staticTypes := #[]
  resolved := Array.replicate 131 none
  statics := none }

def pool7 : Array CpInfo := pool [(1, .class_ 2), (0, u "java/lang/constant/Constable"), (0, .class_ 4), (0, u "java/lang/Object")] 6

/-- java/lang/constant/Constable -/
def k7 : Class := { plain "java/lang/constant/Constable" (some 0) with
  accessFlags := 1537
  interfaces := #[]
  cf := some (fileOf pool7 1 #[] #[] 1537 3 #[] #[])
  fields := #[]
  methods := #[]
  instanceTypes := #[]
  staticTypes := #[]
  resolved := Array.replicate 11 none
  statics := none }

def pool8 : Array CpInfo := pool [(1, .class_ 2), (0, u "java/lang/constant/ConstantDesc"), (0, .class_ 4), (0, u "java/lang/Object")] 32

/-- java/lang/constant/ConstantDesc -/
def k8 : Class := { plain "java/lang/constant/ConstantDesc" (some 0) with
  accessFlags := 1537
  interfaces := #[]
  cf := some (fileOf pool8 1 #[] #[] 1537 3 #[] #[])
  fields := #[]
  methods := #[]
  instanceTypes := #[]
  staticTypes := #[]
  resolved := Array.replicate 37 none
  statics := none }

def pool9 : Array CpInfo := pool [(1, .methodref 2 3), (0, .class_ 4), (0, .nameAndType 5 6), (0, u "java/lang/Object"), (0, u "<init>"), (0, u "()V"), (2, .fieldref 10 11), (0, .class_ 12), (0, .nameAndType 13 14), (0, u "java/lang/String"), (0, u "value"), (0, u "[B"), (0, .fieldref 10 16), (0, .nameAndType 17 18), (0, u "coder"), (0, u "B"), (2, u "hash"), (0, u "I"), (2, u "hashIsZero"), (0, u "Z"), (0, .methodref 10 28), (0, .nameAndType 5 29), (0, u "([CIILjava/lang/Void;)V"), (8, .fieldref 10 39), (0, .nameAndType 40 26), (0, u "COMPACT_STRINGS"), (1, .class_ 44), (1, u "java/lang/StringUTF16"), (0, u "compress"), (1, .methodref 42 48), (0, .nameAndType 49 50), (0, u "coderFromArrayLen"), (0, u "([BI)B"), (56, .class_ 109), (1, u "java/lang/StringLatin1"), (67, .methodref 42 178), (0, .nameAndType 45 179), (0, u "([CII)[B"), (361, .methodref 107 542), (0, .nameAndType 543 544), (0, u "equals"), (0, u "([B[B)Z"), (28, u "(Ljava/lang/Object;)Z"), (1, .class_ 576), (0, u "java/lang/CharSequence"), (22, u "CASE_INSENSITIVE_ORDER"), (0, u "Ljava/util/Comparator;"), (409, u "([C)V"), (90, u "serialPersistentFields"), (0, u "[Ljava/io/ObjectStreamField;"), (0, .class_ 1104), (0, u "java/lang/String$CaseInsensitiveComparator"), (1, .class_ 1107), (0, u "java/io/Serializable"), (0, .class_ 1109), (0, u "java/lang/Comparable"), (0, .class_ 1111), (0, u "java/lang/constant/Constable"), (0, .class_ 1113), (0, u "java/lang/constant/ConstantDesc"), (2, u "serialVersionUID"), (0, u "J"), (3, u "REPL"), (0, u "C"), (2, u "LATIN1"), (1, u "UTF16")] 323

def k9m0 : Method := { name := "<init>", desc := "()V", sig := { parameters := [], returnType := none }, accessFlags := 1, code := none }
def k9c1 : Code := { maxStack := 5, maxLocals := 2, code := jdk_42_method_3_code, exceptionTable := #[], attributes := #[] }
def k9m1 : Method := { name := "<init>", desc := "([C)V", sig := { parameters := [(.array .char)], returnType := none }, accessFlags := 1, code := some k9c1 }
def k9c2 : Code := { maxStack := 2, maxLocals := 3, code := jdk_42_method_66_code, exceptionTable := #[], attributes := #[] }
def k9m2 : Method := { name := "equals", desc := "(Ljava/lang/Object;)Z", sig := { parameters := [(.object "java/lang/Object")], returnType := some .boolean }, accessFlags := 1, code := some k9c2 }
def k9c3 : Code := { maxStack := 4, maxLocals := 6, code := jdk_42_method_149_code, exceptionTable := #[], attributes := #[] }
def k9m3 : Method := { name := "<init>", desc := "([CIILjava/lang/Void;)V", sig := { parameters := [(.array .char), .int, .int, (.object "java/lang/Void")], returnType := none }, accessFlags := 2, code := some k9c3 }
/-- java/lang/String -/
def k9 : Class := { plain "java/lang/String" (some 0) with
  accessFlags := 49
  interfaces := #[4, 5, 6, 7, 8]
  cf := some (fileOf pool9 10 #[.nestMembers #[1103]] #[{ accessFlags := 1, nameIndex := 5, descriptorIndex := 6, attributes := #[] }, { accessFlags := 1, nameIndex := 5, descriptorIndex := 1010, attributes := #[] }, { accessFlags := 1, nameIndex := 543, descriptorIndex := 573, attributes := #[] }, { accessFlags := 2, nameIndex := 5, descriptorIndex := 29, attributes := #[] }] 49 2 #[1106, 1108, 575, 1110, 1112] #[{ accessFlags := 18, nameIndex := 13, descriptorIndex := 14, attributes := #[] }, { accessFlags := 18, nameIndex := 17, descriptorIndex := 18, attributes := #[] }, { accessFlags := 2, nameIndex := 21, descriptorIndex := 22, attributes := #[] }, { accessFlags := 2, nameIndex := 25, descriptorIndex := 26, attributes := #[] }, { accessFlags := 26, nameIndex := 1116, descriptorIndex := 1117, attributes := #[] }, { accessFlags := 24, nameIndex := 40, descriptorIndex := 26, attributes := #[] }, { accessFlags := 26, nameIndex := 1101, descriptorIndex := 1102, attributes := #[] }, { accessFlags := 26, nameIndex := 1121, descriptorIndex := 1122, attributes := #[] }, { accessFlags := 25, nameIndex := 599, descriptorIndex := 600, attributes := #[] }, { accessFlags := 24, nameIndex := 1125, descriptorIndex := 18, attributes := #[] }, { accessFlags := 24, nameIndex := 1127, descriptorIndex := 18, attributes := #[] }])
  fields := #[{ name := "value", type := (.array .byte), accessFlags := 18, slot := 0, constantValue := 0 }, { name := "coder", type := .byte, accessFlags := 18, slot := 1, constantValue := 0 }, { name := "hash", type := .int, accessFlags := 2, slot := 2, constantValue := 0 }, { name := "hashIsZero", type := .boolean, accessFlags := 2, slot := 3, constantValue := 0 }, { name := "serialVersionUID", type := .long, accessFlags := 26, slot := 0, constantValue := 0 }, { name := "COMPACT_STRINGS", type := .boolean, accessFlags := 24, slot := 1, constantValue := 0 }, { name := "serialPersistentFields", type := (.array (.object "java/io/ObjectStreamField")), accessFlags := 26, slot := 2, constantValue := 0 }, { name := "REPL", type := .char, accessFlags := 26, slot := 3, constantValue := 0 }, { name := "CASE_INSENSITIVE_ORDER", type := (.object "java/util/Comparator"), accessFlags := 25, slot := 4, constantValue := 0 }, { name := "LATIN1", type := .byte, accessFlags := 24, slot := 5, constantValue := 0 }, { name := "UTF16", type := .byte, accessFlags := 24, slot := 6, constantValue := 0 }]
  methods := #[k9m0, k9m1, k9m2, k9m3]
  instanceTypes := #[(.array .byte), .byte, .int, .boolean]
  staticTypes := #[.long, .boolean, (.array (.object "java/io/ObjectStreamField")), .char, (.object "java/util/Comparator"), .byte, .byte]
  resolved := Array.replicate 1451 none
  statics := some 0 }

def pool10 : Array CpInfo := pool [(6, .class_ 8), (1, u "java/lang/Object"), (0, u "<init>"), (0, u "()V"), (1, .class_ 14), (1, u "java/lang/StringUTF16"), (31, u "$assertionsDisabled"), (0, u "Z"), (13, u "HI_BYTE_SHIFT"), (0, u "I"), (2, u "LO_BYTE_SHIFT"), (49, .methodref 12 116), (0, .nameAndType 117 118), (0, u "compress"), (0, u "([CI[BII)I"), (3, u "([CII)[B"), (138, u "coderFromArrayLen"), (0, u "([BI)B"), (106, .class_ 371), (1, u "java/lang/StringUTF16$LinesSpliterator"), (58, u "MAX_LENGTH"), (196, .class_ 628), (0, u "java/lang/StringUTF16$CodePointsSpliterator"), (0, .class_ 630), (0, u "java/lang/StringUTF16$CharsSpliterator")] 4

def k10m0 : Method := { name := "<init>", desc := "()V", sig := { parameters := [], returnType := none }, accessFlags := 0, code := none }
def k10c1 : Code := { maxStack := 2, maxLocals := 2, code := jdk_52_method_15_code, exceptionTable := #[], attributes := #[] }
def k10m1 : Method := { name := "coderFromArrayLen", desc := "([BI)B", sig := { parameters := [(.array .byte), .int], returnType := some .byte }, accessFlags := 8, code := some k10c1 }
def k10c2 : Code := { maxStack := 5, maxLocals := 6, code := jdk_52_method_16_code, exceptionTable := #[], attributes := #[] }
def k10m2 : Method := { name := "compress", desc := "([CII)[B", sig := { parameters := [(.array .char), .int, .int], returnType := some (.array .byte) }, accessFlags := 9, code := some k10c2 }
def k10c3 : Code := { maxStack := 3, maxLocals := 7, code := jdk_52_method_21_code, exceptionTable := #[], attributes := #[] }
def k10m3 : Method := { name := "compress", desc := "([CI[BII)I", sig := { parameters := [(.array .char), .int, (.array .byte), .int, .int], returnType := some .int }, accessFlags := 9, code := some k10c3 }
/-- java/lang/StringUTF16 -/
def k10 : Class := { plain "java/lang/StringUTF16" (some 0) with
  accessFlags := 48
  interfaces := #[]
  cf := some (fileOf pool10 12 #[.nestMembers #[627, 629, 369]] #[{ accessFlags := 0, nameIndex := 9, descriptorIndex := 10, attributes := #[] }, { accessFlags := 8, nameIndex := 261, descriptorIndex := 262, attributes := #[] }, { accessFlags := 9, nameIndex := 117, descriptorIndex := 122, attributes := #[] }, { accessFlags := 9, nameIndex := 117, descriptorIndex := 118, attributes := #[] }] 48 6 #[] #[{ accessFlags := 26, nameIndex := 61, descriptorIndex := 62, attributes := #[] }, { accessFlags := 26, nameIndex := 65, descriptorIndex := 62, attributes := #[] }, { accessFlags := 24, nameIndex := 430, descriptorIndex := 62, attributes := #[] }, { accessFlags := 4120, nameIndex := 46, descriptorIndex := 47, attributes := #[] }])
  fields := #[{ name := "HI_BYTE_SHIFT", type := .int, accessFlags := 26, slot := 0, constantValue := 0 }, { name := "LO_BYTE_SHIFT", type := .int, accessFlags := 26, slot := 1, constantValue := 0 }, { name := "MAX_LENGTH", type := .int, accessFlags := 24, slot := 2, constantValue := 0 }, { name := "$assertionsDisabled", type := .boolean, accessFlags := 4120, slot := 3, constantValue := 0 }]
  methods := #[k10m0, k10m1, k10m2, k10m3]
  instanceTypes := #[]
  staticTypes := #[.int, .int, .int, .boolean]
  resolved := Array.replicate 635 none
  statics := none }

def pool11 : Array CpInfo := pool [(2, .class_ 4), (1, u "java/lang/Enum"), (0, u "name"), (0, u "Ljava/lang/String;"), (2, u "ordinal"), (0, u "I"), (1, .class_ 14), (1, u "java/lang/Object"), (4, u "hash"), (86, .class_ 108), (1, u "java/lang/Enum$EnumDesc"), (2, .class_ 112), (0, u "java/lang/constant/Constable"), (0, .class_ 114), (0, u "java/lang/Comparable"), (0, .class_ 116), (0, u "java/io/Serializable")] 87

/-- java/lang/Enum -/
def k11 : Class := { plain "java/lang/Enum" (some 0) with
  accessFlags := 1057
  interfaces := #[7, 5, 4]
  cf := some (fileOf pool11 2 #[.nestMembers #[106]] #[] 1057 12 #[111, 113, 115] #[{ accessFlags := 18, nameIndex := 5, descriptorIndex := 6, attributes := #[] }, { accessFlags := 18, nameIndex := 9, descriptorIndex := 10, attributes := #[] }, { accessFlags := 2, nameIndex := 19, descriptorIndex := 10, attributes := #[] }])
  fields := #[{ name := "name", type := (.object "java/lang/String"), accessFlags := 18, slot := 0, constantValue := 0 }, { name := "ordinal", type := .int, accessFlags := 18, slot := 1, constantValue := 0 }, { name := "hash", type := .int, accessFlags := 2, slot := 2, constantValue := 0 }]
  methods := #[]
  instanceTypes := #[(.object "java/lang/String"), .int, .int]
  staticTypes := #[]
  resolved := Array.replicate 204 none
  statics := none }

def pool12 : Array CpInfo := pool [(1, .class_ 2), (0, u "bourseline/model/FixVersion"), (2, u "FIX_4_2"), (0, u "Lbourseline/model/FixVersion;"), (2, u "FIX_4_4"), (2, u "FIX_5_0_SP2"), (2, u "$VALUES"), (0, u "[Lbourseline/model/FixVersion;"), (6, .class_ 25), (1, u "java/lang/Enum"), (8, u "label"), (0, u "Ljava/lang/String;")] 51

/-- bourseline/model/FixVersion -/
def k12 : Class := { plain "bourseline/model/FixVersion" (some 11) with
  accessFlags := 16433
  interfaces := #[]
  cf := some (fileOf pool12 1 #[] #[] 16433 23 #[] #[{ accessFlags := 16409, nameIndex := 5, descriptorIndex := 6, attributes := #[] }, { accessFlags := 16409, nameIndex := 9, descriptorIndex := 6, attributes := #[] }, { accessFlags := 16409, nameIndex := 12, descriptorIndex := 6, attributes := #[] }, { accessFlags := 18, nameIndex := 34, descriptorIndex := 35, attributes := #[] }, { accessFlags := 4122, nameIndex := 15, descriptorIndex := 16, attributes := #[] }])
  fields := #[{ name := "FIX_4_2", type := (.object "bourseline/model/FixVersion"), accessFlags := 16409, slot := 0, constantValue := 0 }, { name := "FIX_4_4", type := (.object "bourseline/model/FixVersion"), accessFlags := 16409, slot := 1, constantValue := 0 }, { name := "FIX_5_0_SP2", type := (.object "bourseline/model/FixVersion"), accessFlags := 16409, slot := 2, constantValue := 0 }, { name := "label", type := (.object "java/lang/String"), accessFlags := 18, slot := 3, constantValue := 0 }, { name := "$VALUES", type := (.array (.object "bourseline/model/FixVersion")), accessFlags := 4122, slot := 3, constantValue := 0 }]
  methods := #[]
  instanceTypes := #[(.object "java/lang/String"), .int, .int, (.object "java/lang/String")]
  staticTypes := #[(.object "bourseline/model/FixVersion"), (.object "bourseline/model/FixVersion"), (.object "bourseline/model/FixVersion"), (.array (.object "bourseline/model/FixVersion"))]
  resolved := Array.replicate 87 none
  statics := some 1 }

def pool13 : Array CpInfo := pool [(1, .class_ 2), (0, u "bourseline/model/SelfMatchInstruction"), (2, u "CANCEL_AGGRESSIVE"), (0, u "Lbourseline/model/SelfMatchInstruction;"), (2, u "CANCEL_PASSIVE"), (2, u "CANCEL_BOTH"), (2, u "$VALUES"), (0, u "[Lbourseline/model/SelfMatchInstruction;"), (6, .class_ 25), (1, u "java/lang/Enum")] 25

/-- bourseline/model/SelfMatchInstruction -/
def k13 : Class := { plain "bourseline/model/SelfMatchInstruction" (some 11) with
  accessFlags := 16433
  interfaces := #[]
  cf := some (fileOf pool13 1 #[] #[] 16433 23 #[] #[{ accessFlags := 16409, nameIndex := 5, descriptorIndex := 6, attributes := #[] }, { accessFlags := 16409, nameIndex := 9, descriptorIndex := 6, attributes := #[] }, { accessFlags := 16409, nameIndex := 12, descriptorIndex := 6, attributes := #[] }, { accessFlags := 4122, nameIndex := 15, descriptorIndex := 16, attributes := #[] }])
  fields := #[{ name := "CANCEL_AGGRESSIVE", type := (.object "bourseline/model/SelfMatchInstruction"), accessFlags := 16409, slot := 0, constantValue := 0 }, { name := "CANCEL_PASSIVE", type := (.object "bourseline/model/SelfMatchInstruction"), accessFlags := 16409, slot := 1, constantValue := 0 }, { name := "CANCEL_BOTH", type := (.object "bourseline/model/SelfMatchInstruction"), accessFlags := 16409, slot := 2, constantValue := 0 }, { name := "$VALUES", type := (.array (.object "bourseline/model/SelfMatchInstruction")), accessFlags := 4122, slot := 3, constantValue := 0 }]
  methods := #[]
  instanceTypes := #[(.object "java/lang/String"), .int, .int]
  staticTypes := #[(.object "bourseline/model/SelfMatchInstruction"), (.object "bourseline/model/SelfMatchInstruction"), (.object "bourseline/model/SelfMatchInstruction"), (.array (.object "bourseline/model/SelfMatchInstruction"))]
  resolved := Array.replicate 51 none
  statics := some 2 }

def pool14 : Array CpInfo := pool [(2, .class_ 4), (1, u "java/lang/Object"), (0, u "<init>"), (0, u "()V"), (35, .class_ 44), (1, u "java/util/Objects"), (0, u "requireNonNull"), (48, u "(Ljava/lang/Object;Ljava/lang/String;)Ljava/lang/Object;")] 89

def k14m0 : Method := { name := "<init>", desc := "()V", sig := { parameters := [], returnType := none }, accessFlags := 2, code := none }
def k14c1 : Code := { maxStack := 3, maxLocals := 2, code := jdk_31_method_11_code, exceptionTable := #[], attributes := #[] }
def k14m1 : Method := { name := "requireNonNull", desc := "(Ljava/lang/Object;Ljava/lang/String;)Ljava/lang/Object;", sig := { parameters := [(.object "java/lang/Object"), (.object "java/lang/String")], returnType := some (.object "java/lang/Object") }, accessFlags := 9, code := some k14c1 }
/-- java/util/Objects -/
def k14 : Class := { plain "java/util/Objects" (some 0) with
  accessFlags := 49
  interfaces := #[]
  cf := some (fileOf pool14 42 #[] #[{ accessFlags := 2, nameIndex := 5, descriptorIndex := 6, attributes := #[] }, { accessFlags := 9, nameIndex := 45, descriptorIndex := 94, attributes := #[] }] 49 2 #[] #[])
  fields := #[]
  methods := #[k14m0, k14m1]
  instanceTypes := #[]
  staticTypes := #[]
  resolved := Array.replicate 184 none
  statics := none }

def pool15 : Array CpInfo := pool [(4, .class_ 6), (1, u "java/lang/Object"), (0, u "<init>"), (0, u "()V"), (5, .class_ 16), (1, u "java/lang/StringLatin1"), (104, u "$assertionsDisabled"), (0, u "Z"), (98, .class_ 223), (1, u "java/lang/StringLatin1$LinesSpliterator"), (57, u "equals"), (0, u "([B[B)Z"), (107, .class_ 391), (0, u "java/lang/StringLatin1$CharsSpliterator")] 3

def k15m0 : Method := { name := "<init>", desc := "()V", sig := { parameters := [], returnType := none }, accessFlags := 0, code := none }
def k15c1 : Code := { maxStack := 3, maxLocals := 3, code := jdk_43_method_13_code, exceptionTable := #[], attributes := #[] }
def k15m1 : Method := { name := "equals", desc := "([B[B)Z", sig := { parameters := [(.array .byte), (.array .byte)], returnType := some .boolean }, accessFlags := 9, code := some k15c1 }
/-- java/lang/StringLatin1 -/
def k15 : Class := { plain "java/lang/StringLatin1" (some 0) with
  accessFlags := 48
  interfaces := #[]
  cf := some (fileOf pool15 14 #[.nestMembers #[390, 221]] #[{ accessFlags := 0, nameIndex := 7, descriptorIndex := 8, attributes := #[] }, { accessFlags := 9, nameIndex := 281, descriptorIndex := 282, attributes := #[] }] 48 4 #[] #[{ accessFlags := 4120, nameIndex := 121, descriptorIndex := 122, attributes := #[] }])
  fields := #[{ name := "$assertionsDisabled", type := .boolean, accessFlags := 4120, slot := 0, constantValue := 0 }]
  methods := #[k15m0, k15m1]
  instanceTypes := #[]
  staticTypes := #[.boolean]
  resolved := Array.replicate 395 none
  statics := none }

def pool16 : Array CpInfo := pool [(2, .class_ 4), (1, u "java/lang/Object"), (0, u "<init>"), (0, u "()V"), (17, .class_ 26), (1, u "jdk/internal/util/Preconditions"), (28, .class_ 56), (0, u "jdk/internal/util/Preconditions$4"), (57, .class_ 115), (0, u "jdk/internal/util/Preconditions$1"), (7, u "SIOOBE_FORMATTER"), (0, u "Ljava/util/function/BiFunction;"), (0, .class_ 126), (0, u "jdk/internal/util/Preconditions$2"), (3, u "AIOOBE_FORMATTER"), (0, .class_ 132), (0, u "jdk/internal/util/Preconditions$3"), (3, u "IOOBE_FORMATTER")] 57

def k16m0 : Method := { name := "<init>", desc := "()V", sig := { parameters := [], returnType := none }, accessFlags := 1, code := none }
/-- jdk/internal/util/Preconditions -/
def k16 : Class := { plain "jdk/internal/util/Preconditions" (some 0) with
  accessFlags := 33
  interfaces := #[]
  cf := some (fileOf pool16 24 #[.nestMembers #[55, 131, 125, 114]] #[{ accessFlags := 1, nameIndex := 5, descriptorIndex := 6, attributes := #[] }] 33 2 #[] #[{ accessFlags := 25, nameIndex := 123, descriptorIndex := 124, attributes := #[] }, { accessFlags := 25, nameIndex := 130, descriptorIndex := 124, attributes := #[] }, { accessFlags := 25, nameIndex := 136, descriptorIndex := 124, attributes := #[] }])
  fields := #[{ name := "SIOOBE_FORMATTER", type := (.object "java/util/function/BiFunction"), accessFlags := 25, slot := 0, constantValue := 0 }, { name := "AIOOBE_FORMATTER", type := (.object "java/util/function/BiFunction"), accessFlags := 25, slot := 1, constantValue := 0 }, { name := "IOOBE_FORMATTER", type := (.object "java/util/function/BiFunction"), accessFlags := 25, slot := 2, constantValue := 0 }]
  methods := #[k16m0]
  instanceTypes := #[]
  staticTypes := #[(.object "java/util/function/BiFunction"), (.object "java/util/function/BiFunction"), (.object "java/util/function/BiFunction")]
  resolved := Array.replicate 194 none
  statics := some 3 }

def pool17 : Array CpInfo := pool [(9, u "<init>"), (6, .class_ 18), (1, u "java/lang/Object"), (0, u "()V"), (1, .class_ 23), (1, u "jdk/internal/util/ArraysSupport"), (0, u "LOG2_ARRAY_LONG_INDEX_SCALE"), (0, u "I"), (2, u "U"), (0, u "Ljdk/internal/misc/Unsafe;"), (8, u "BIG_ENDIAN"), (0, u "Z"), (8, u "LOG2_BYTE_BIT_SIZE"), (4, u "LOG2_ARRAY_INT_INDEX_SCALE"), (54, u "JLA"), (0, u "Ljdk/internal/access/JavaLangAccess;"), (11, u "LOG2_ARRAY_BOOLEAN_INDEX_SCALE"), (9, u "LOG2_ARRAY_BYTE_INDEX_SCALE"), (5, u "LOG2_ARRAY_CHAR_INDEX_SCALE"), (5, u "LOG2_ARRAY_SHORT_INDEX_SCALE"), (18, u "LOG2_ARRAY_FLOAT_INDEX_SCALE"), (24, u "LOG2_ARRAY_DOUBLE_INDEX_SCALE"), (89, u "T_BOOLEAN"), (2, u "T_CHAR"), (1, u "T_FLOAT"), (1, u "T_DOUBLE"), (1, u "T_BYTE"), (1, u "T_SHORT"), (1, u "T_INT"), (1, u "T_LONG"), (1, u "SOFT_MAX_ARRAY_LENGTH")] 83

def k17m0 : Method := { name := "<init>", desc := "()V", sig := { parameters := [], returnType := none }, accessFlags := 2, code := none }
/-- jdk/internal/util/ArraysSupport -/
def k17 : Class := { plain "jdk/internal/util/ArraysSupport" (some 0) with
  accessFlags := 33
  interfaces := #[]
  cf := some (fileOf pool17 21 #[] #[{ accessFlags := 2, nameIndex := 9, descriptorIndex := 19, attributes := #[] }] 33 16 #[] #[{ accessFlags := 24, nameIndex := 28, descriptorIndex := 29, attributes := #[] }, { accessFlags := 26, nameIndex := 38, descriptorIndex := 39, attributes := #[] }, { accessFlags := 25, nameIndex := 121, descriptorIndex := 25, attributes := #[] }, { accessFlags := 25, nameIndex := 131, descriptorIndex := 25, attributes := #[] }, { accessFlags := 25, nameIndex := 137, descriptorIndex := 25, attributes := #[] }, { accessFlags := 25, nameIndex := 143, descriptorIndex := 25, attributes := #[] }, { accessFlags := 25, nameIndex := 53, descriptorIndex := 25, attributes := #[] }, { accessFlags := 25, nameIndex := 24, descriptorIndex := 25, attributes := #[] }, { accessFlags := 25, nameIndex := 162, descriptorIndex := 25, attributes := #[] }, { accessFlags := 25, nameIndex := 187, descriptorIndex := 25, attributes := #[] }, { accessFlags := 26, nameIndex := 48, descriptorIndex := 25, attributes := #[] }, { accessFlags := 25, nameIndex := 277, descriptorIndex := 25, attributes := #[] }, { accessFlags := 25, nameIndex := 280, descriptorIndex := 25, attributes := #[] }, { accessFlags := 25, nameIndex := 282, descriptorIndex := 25, attributes := #[] }, { accessFlags := 25, nameIndex := 284, descriptorIndex := 25, attributes := #[] }, { accessFlags := 25, nameIndex := 286, descriptorIndex := 25, attributes := #[] }, { accessFlags := 25, nameIndex := 288, descriptorIndex := 25, attributes := #[] }, { accessFlags := 25, nameIndex := 290, descriptorIndex := 25, attributes := #[] }, { accessFlags := 25, nameIndex := 292, descriptorIndex := 25, attributes := #[] }, { accessFlags := 26, nameIndex := 108, descriptorIndex := 109, attributes := #[] }, { accessFlags := 25, nameIndex := 294, descriptorIndex := 25, attributes := #[] }])
  fields := #[{ name := "U", type := (.object "jdk/internal/misc/Unsafe"), accessFlags := 24, slot := 0, constantValue := 0 }, { name := "BIG_ENDIAN", type := .boolean, accessFlags := 26, slot := 1, constantValue := 0 }, { name := "LOG2_ARRAY_BOOLEAN_INDEX_SCALE", type := .int, accessFlags := 25, slot := 2, constantValue := 0 }, { name := "LOG2_ARRAY_BYTE_INDEX_SCALE", type := .int, accessFlags := 25, slot := 3, constantValue := 0 }, { name := "LOG2_ARRAY_CHAR_INDEX_SCALE", type := .int, accessFlags := 25, slot := 4, constantValue := 0 }, { name := "LOG2_ARRAY_SHORT_INDEX_SCALE", type := .int, accessFlags := 25, slot := 5, constantValue := 0 }, { name := "LOG2_ARRAY_INT_INDEX_SCALE", type := .int, accessFlags := 25, slot := 6, constantValue := 0 }, { name := "LOG2_ARRAY_LONG_INDEX_SCALE", type := .int, accessFlags := 25, slot := 7, constantValue := 0 }, { name := "LOG2_ARRAY_FLOAT_INDEX_SCALE", type := .int, accessFlags := 25, slot := 8, constantValue := 0 }, { name := "LOG2_ARRAY_DOUBLE_INDEX_SCALE", type := .int, accessFlags := 25, slot := 9, constantValue := 0 }, { name := "LOG2_BYTE_BIT_SIZE", type := .int, accessFlags := 26, slot := 10, constantValue := 0 }, { name := "T_BOOLEAN", type := .int, accessFlags := 25, slot := 11, constantValue := 0 }, { name := "T_CHAR", type := .int, accessFlags := 25, slot := 12, constantValue := 0 }, { name := "T_FLOAT", type := .int, accessFlags := 25, slot := 13, constantValue := 0 }, { name := "T_DOUBLE", type := .int, accessFlags := 25, slot := 14, constantValue := 0 }, { name := "T_BYTE", type := .int, accessFlags := 25, slot := 15, constantValue := 0 }, { name := "T_SHORT", type := .int, accessFlags := 25, slot := 16, constantValue := 0 }, { name := "T_INT", type := .int, accessFlags := 25, slot := 17, constantValue := 0 }, { name := "T_LONG", type := .int, accessFlags := 25, slot := 18, constantValue := 0 }, { name := "JLA", type := (.object "jdk/internal/access/JavaLangAccess"), accessFlags := 26, slot := 19, constantValue := 0 }, { name := "SOFT_MAX_ARRAY_LENGTH", type := .int, accessFlags := 25, slot := 20, constantValue := 0 }]
  methods := #[k17m0]
  instanceTypes := #[]
  staticTypes := #[(.object "jdk/internal/misc/Unsafe"), .boolean, .int, .int, .int, .int, .int, .int, .int, .int, .int, .int, .int, .int, .int, .int, .int, .int, .int, (.object "jdk/internal/access/JavaLangAccess"), .int]
  resolved := Array.replicate 378 none
  statics := none }

def pool18 : Array CpInfo := pool [(1, u "java/lang/Cloneable"), (0, .class_ 1), (0, u "java/lang/Object"), (0, .class_ 3)] 3

/-- java/lang/Cloneable -/
def k18 : Class := { plain "java/lang/Cloneable" (some 0) with
  accessFlags := 1537
  interfaces := #[]
  cf := some (fileOf pool18 2 #[] #[] 1537 4 #[] #[])
  fields := #[]
  methods := #[]
  instanceTypes := #[]
  staticTypes := #[]
  resolved := Array.replicate 8 none
  statics := none }

/-- the primitive byte -/
def k19 : Class := { plain "byte" none with kind := .primitive 'B', accessFlags := 0x411 }
/-- [B -/
def k20 : Class := { plain "[B" (some 0) with kind := .array 19 .byte, interfaces := #[18, 4], accessFlags := 1041 }

/-- the primitive char -/
def k21 : Class := { plain "char" none with kind := .primitive 'C', accessFlags := 0x411 }
/-- [C -/
def k22 : Class := { plain "[C" (some 0) with kind := .array 21 .char, interfaces := #[18, 4], accessFlags := 1041 }

/-- the primitive int -/
def k23 : Class := { plain "int" none with kind := .primitive 'I', accessFlags := 0x411 }
/-- [I -/
def k24 : Class := { plain "[I" (some 0) with kind := .array 23 .int, interfaces := #[18, 4], accessFlags := 1041 }

def heap : Heap := #[{ cls := 9, slots := #[.long 0, .int 1, .null, .int 0, .null, .int 0, .int 0], vm := .statics 9 },
  { cls := 12, slots := #[.ref 4, .ref 5, .ref 6, .null], vm := .statics 12 },
  { cls := 13, slots := #[.ref 7, .ref 8, .ref 9, .null], vm := .statics 13 },
  { cls := 16, slots := #[.null, .null, .null], vm := .statics 16 },
  { cls := 12, slots := #[.null, .int 0, .int 0, .null], vm := .none },
  { cls := 12, slots := #[.null, .int 1, .int 0, .null], vm := .none },
  { cls := 12, slots := #[.null, .int 2, .int 0, .null], vm := .none },
  { cls := 13, slots := #[.null, .int 0, .int 0], vm := .none },
  { cls := 13, slots := #[.null, .int 1, .int 0], vm := .none },
  { cls := 13, slots := #[.null, .int 2, .int 0], vm := .none }]
def classes : Array Class := #[k0, k1, k2, k3, k4, k5, k6, k7, k8, k9, k10, k11, k12, k13, k14, k15, k16, k17, k18, k19, k20, k21, k22, k23, k24]
def interned : List (Array UInt16 × Addr) := []
def slotsUsed : Nat := 39
def theMethod : MethodId := ⟨1, 4⟩
def args0 : Array Value := #[.int 1, .int 2, .int 3, .int 4, .int 5]
def aboutOver (below : List Frame) : State where
  vm := { classes := classes, interned := interned.toArray }
  heap := heap
  slotsUsed := slotsUsed
  threads := #[{ frames := .invoking theMethod args0 :: below }]
def below0 : List Frame := [.native { method := ⟨0, 0⟩, args := #[] }]
def about1 : State := aboutOver below0
def p0 : Program := .bare "" "" ""
def e0 : Env := launch0.env 0 0 0
theorem w_frames : about1.frames = Frame.invoking theMethod args0 :: below0 := rfl
set_option maxRecDepth 65536 in
theorem w_args : argsFit about1.vm theMethod args0 = true := by decide +kernel
set_option maxRecDepth 65536 in
theorem w_heap : heapFits about1 = true := by decide +kernel
set_option maxRecDepth 65536 in
theorem w_runnable : about1.curStatus? = some .runnable := by decide +kernel
set_option maxRecDepth 65536 in
theorem w_alone : about1.alone = true := by decide +kernel
set_option maxRecDepth 65536 in
theorem w_named : about1.methodNamed? x = some theMethod := by decide +kernel
set_option maxRecDepth 65536 in
theorem w_hears : about1.hears theMethod below0 = true := by decide +kernel
set_option maxRecDepth 65536 in
theorem w_ripe : about1.ripe theMethod args0 below0 = true := by decide +kernel
theorem w_running : about1.status = .running := rfl
set_option maxRecDepth 65536 in
theorem w_room : about1.hasRoom e0.platform room_1 = true :=
  launch0.hasRoom_least _ room_1 (by decide +kernel) (by decide +kernel) (by decide +kernel) (by decide +kernel) (by decide +kernel) (by decide +kernel)
theorem allAtoms_all (ts : List Jvm.Cond) (a : Array Jvm.Value) (st : Jvm.State) : (allAtoms ts).before a st = ts.all (fun c => c.before a st) := by
  induction ts with
  | nil => rfl
  | cons c t ih =>
    show (Jvm.Cond.and c (allAtoms t)).before a st = _
    rw [Jvm.Cond.before_and, ih, List.all_cons]
def words1 : List Jvm.Cond := Jvm.Cond.code x code maxLocals ret :: tables_1
/-- a 'code' word, met by the world's own term for the bytes: nothing is compared byte by byte -/
theorem code_word {y : MethodName} {bytes : ByteArray} {mx : Nat} {rt : Option FieldType} {a : Array Value} {s : State} {m : MethodId} {meth : Method} {c : Code} (h1 : s.methodNamed? y = some m) (h2 : s.vm.method? m = some meth) (h3 : meth.code = some c) (h4 : c.code = bytes)
    (h5 : (c.maxLocals == mx && c.exceptionTable.isEmpty && decide (c.maxStack ≤ mostOperands) && decide (meth.sig.returnType = rt) && !meth.locks && decide (parseMethodDescriptor y.desc = some meth.sig)) = true) : (Jvm.Cond.code y bytes mx rt).before a s = true := by
  simp only [Bool.and_eq_true, beq_iff_eq, Bool.not_eq_true', decide_eq_true_eq] at h5
  obtain ⟨⟨⟨⟨⟨g1, g2⟩, g3⟩, g4⟩, g5⟩, g6⟩ := h5
  simp [Cond.before, Cond.holds, Cond.value, h1, h2, h3, h4, g1, g2, g3, g4, g5, g6]
def isCode : Jvm.Cond → Bool
  | .code _ _ _ _ => true
  | _ => false
theorem all_split {L : List Jvm.Cond} {P : Jvm.Cond → Bool} (h1 : L.all (fun c => isCode c || P c) = true) (h2 : ∀ c ∈ L.filter isCode, P c = true) : L.all P = true := by
  refine List.all_eq_true.mpr fun c hc => ?_
  have h := List.all_eq_true.mp h1 c hc
  rcases Bool.eq_false_or_eq_true (isCode c) with hi | hi
  · exact h2 c (List.mem_filter.mpr ⟨hc, hi⟩)
  · simpa [hi] using h
set_option maxRecDepth 65536 in
theorem w_c0 : (Jvm.Cond.code x code maxLocals ret).before args0 about1 = true := code_word (m := ⟨1, 4⟩) (meth := k1m4) (c := k1c4) (by decide +kernel) rfl rfl rfl (by decide +kernel)
set_option maxRecDepth 65536 in
theorem w_c1 : (Jvm.Cond.code ({ cls := "bourseline/model/MemberSessionEqualsPinLaw", name := "str", desc := "(II)Ljava/lang/String;" } : Jvm.MethodName) method_2_code (2 : Nat) (Option.some (Jvm.ClassFile.FieldType.object "java/lang/String"))).before args0 about1 = true := code_word (m := ⟨1, 1⟩) (meth := k1m1) (c := k1c1) (by decide +kernel) rfl rfl rfl (by decide +kernel)
set_option maxRecDepth 65536 in
theorem w_c2 : (Jvm.Cond.code ({ cls := "java/lang/String", name := "<init>", desc := "([C)V" } : Jvm.MethodName) jdk_42_method_3_code (2 : Nat) (Option.none : Option Jvm.ClassFile.FieldType)).before args0 about1 = true := code_word (m := ⟨9, 1⟩) (meth := k9m1) (c := k9c1) (by decide +kernel) rfl rfl rfl (by decide +kernel)
set_option maxRecDepth 65536 in
theorem w_c3 : (Jvm.Cond.code ({ cls := "java/lang/String", name := "<init>", desc := "([CIILjava/lang/Void;)V" } : Jvm.MethodName) jdk_42_method_149_code (6 : Nat) (Option.none : Option Jvm.ClassFile.FieldType)).before args0 about1 = true := code_word (m := ⟨9, 3⟩) (meth := k9m3) (c := k9c3) (by decide +kernel) rfl rfl rfl (by decide +kernel)
set_option maxRecDepth 65536 in
theorem w_c4 : (Jvm.Cond.code ({ cls := "java/lang/Object", name := "<init>", desc := "()V" } : Jvm.MethodName) object_method_1_code (1 : Nat) (Option.none : Option Jvm.ClassFile.FieldType)).before args0 about1 = true := code_word (m := ⟨0, 0⟩) (meth := k0m0) (c := k0c0) (by decide +kernel) rfl rfl rfl (by decide +kernel)
set_option maxRecDepth 65536 in
theorem w_c5 : (Jvm.Cond.code ({ cls := "java/lang/StringUTF16", name := "compress", desc := "([CII)[B" } : Jvm.MethodName) jdk_52_method_16_code (6 : Nat) (Option.some (Jvm.ClassFile.FieldType.array Jvm.ClassFile.FieldType.byte))).before args0 about1 = true := code_word (m := ⟨10, 2⟩) (meth := k10m2) (c := k10c2) (by decide +kernel) rfl rfl rfl (by decide +kernel)
set_option maxRecDepth 65536 in
theorem w_c6 : (Jvm.Cond.code ({ cls := "java/lang/StringUTF16", name := "compress", desc := "([CI[BII)I" } : Jvm.MethodName) jdk_52_method_21_code (7 : Nat) (Option.some Jvm.ClassFile.FieldType.int)).before args0 about1 = true := code_word (m := ⟨10, 3⟩) (meth := k10m3) (c := k10c3) (by decide +kernel) rfl rfl rfl (by decide +kernel)
set_option maxRecDepth 65536 in
theorem w_c7 : (Jvm.Cond.code ({ cls := "java/lang/StringUTF16", name := "coderFromArrayLen", desc := "([BI)B" } : Jvm.MethodName) jdk_52_method_15_code (2 : Nat) (Option.some Jvm.ClassFile.FieldType.byte)).before args0 about1 = true := code_word (m := ⟨10, 1⟩) (meth := k10m1) (c := k10c1) (by decide +kernel) rfl rfl rfl (by decide +kernel)
set_option maxRecDepth 65536 in
theorem w_c8 : (Jvm.Cond.code ({ cls := "bourseline/model/MemberSessionEqualsPinLaw", name := "version", desc := "(I)Lbourseline/model/FixVersion;" } : Jvm.MethodName) method_3_code (1 : Nat) (Option.some (Jvm.ClassFile.FieldType.object "bourseline/model/FixVersion"))).before args0 about1 = true := code_word (m := ⟨1, 2⟩) (meth := k1m2) (c := k1c2) (by decide +kernel) rfl rfl rfl (by decide +kernel)
set_option maxRecDepth 65536 in
theorem w_c9 : (Jvm.Cond.code ({ cls := "bourseline/model/MemberSessionEqualsPinLaw", name := "rule", desc := "(I)Lbourseline/model/SelfMatchInstruction;" } : Jvm.MethodName) method_4_code (1 : Nat) (Option.some (Jvm.ClassFile.FieldType.object "bourseline/model/SelfMatchInstruction"))).before args0 about1 = true := code_word (m := ⟨1, 3⟩) (meth := k1m3) (c := k1c3) (by decide +kernel) rfl rfl rfl (by decide +kernel)
set_option maxRecDepth 65536 in
theorem w_c10 : (Jvm.Cond.code ({ cls := "bourseline/model/MemberSession", name := "<init>", desc := "(Ljava/lang/String;Ljava/lang/String;Lbourseline/model/FixVersion;Ljava/lang/String;Lbourseline/model/SelfMatchInstruction;)V" } : Jvm.MethodName) prog_44_method_1_code (6 : Nat) (Option.none : Option Jvm.ClassFile.FieldType)).before args0 about1 = true := code_word (m := ⟨3, 0⟩) (meth := k3m0) (c := k3c0) (by decide +kernel) rfl rfl rfl (by decide +kernel)
set_option maxRecDepth 65536 in
theorem w_c11 : (Jvm.Cond.code ({ cls := "java/lang/Record", name := "<init>", desc := "()V" } : Jvm.MethodName) jdk_30_method_1_code (1 : Nat) (Option.none : Option Jvm.ClassFile.FieldType)).before args0 about1 = true := code_word (m := ⟨2, 0⟩) (meth := k2m0) (c := k2c0) (by decide +kernel) rfl rfl rfl (by decide +kernel)
set_option maxRecDepth 65536 in
theorem w_c12 : (Jvm.Cond.code ({ cls := "java/util/Objects", name := "requireNonNull", desc := "(Ljava/lang/Object;Ljava/lang/String;)Ljava/lang/Object;" } : Jvm.MethodName) jdk_31_method_11_code (2 : Nat) (Option.some (Jvm.ClassFile.FieldType.object "java/lang/Object"))).before args0 about1 = true := code_word (m := ⟨14, 1⟩) (meth := k14m1) (c := k14c1) (by decide +kernel) rfl rfl rfl (by decide +kernel)
set_option maxRecDepth 65536 in
theorem w_c13 : (Jvm.Cond.code ({ cls := "bourseline/model/MemberSession", name := "equals", desc := "(Ljava/lang/Object;)Z" } : Jvm.MethodName) prog_44_method_2_code (3 : Nat) (Option.some Jvm.ClassFile.FieldType.boolean)).before args0 about1 = true := code_word (m := ⟨3, 1⟩) (meth := k3m1) (c := k3c1) (by decide +kernel) rfl rfl rfl (by decide +kernel)
set_option maxRecDepth 65536 in
theorem w_c14 : (Jvm.Cond.code ({ cls := "java/lang/String", name := "equals", desc := "(Ljava/lang/Object;)Z" } : Jvm.MethodName) jdk_42_method_66_code (3 : Nat) (Option.some Jvm.ClassFile.FieldType.boolean)).before args0 about1 = true := code_word (m := ⟨9, 2⟩) (meth := k9m2) (c := k9c2) (by decide +kernel) rfl rfl rfl (by decide +kernel)
set_option maxRecDepth 65536 in
theorem w_c15 : (Jvm.Cond.code ({ cls := "java/lang/StringLatin1", name := "equals", desc := "([B[B)Z" } : Jvm.MethodName) jdk_43_method_13_code (3 : Nat) (Option.some Jvm.ClassFile.FieldType.boolean)).before args0 about1 = true := code_word (m := ⟨15, 1⟩) (meth := k15m1) (c := k15c1) (by decide +kernel) rfl rfl rfl (by decide +kernel)
def codes1 : List Jvm.Cond := [Jvm.Cond.code x code maxLocals ret, Jvm.Cond.code ({ cls := "bourseline/model/MemberSessionEqualsPinLaw", name := "str", desc := "(II)Ljava/lang/String;" } : Jvm.MethodName) method_2_code (2 : Nat) (Option.some (Jvm.ClassFile.FieldType.object "java/lang/String")), Jvm.Cond.code ({ cls := "java/lang/String", name := "<init>", desc := "([C)V" } : Jvm.MethodName) jdk_42_method_3_code (2 : Nat) (Option.none : Option Jvm.ClassFile.FieldType), Jvm.Cond.code ({ cls := "java/lang/String", name := "<init>", desc := "([CIILjava/lang/Void;)V" } : Jvm.MethodName) jdk_42_method_149_code (6 : Nat) (Option.none : Option Jvm.ClassFile.FieldType), Jvm.Cond.code ({ cls := "java/lang/Object", name := "<init>", desc := "()V" } : Jvm.MethodName) object_method_1_code (1 : Nat) (Option.none : Option Jvm.ClassFile.FieldType), Jvm.Cond.code ({ cls := "java/lang/StringUTF16", name := "compress", desc := "([CII)[B" } : Jvm.MethodName) jdk_52_method_16_code (6 : Nat) (Option.some (Jvm.ClassFile.FieldType.array Jvm.ClassFile.FieldType.byte)), Jvm.Cond.code ({ cls := "java/lang/StringUTF16", name := "compress", desc := "([CI[BII)I" } : Jvm.MethodName) jdk_52_method_21_code (7 : Nat) (Option.some Jvm.ClassFile.FieldType.int), Jvm.Cond.code ({ cls := "java/lang/StringUTF16", name := "coderFromArrayLen", desc := "([BI)B" } : Jvm.MethodName) jdk_52_method_15_code (2 : Nat) (Option.some Jvm.ClassFile.FieldType.byte), Jvm.Cond.code ({ cls := "bourseline/model/MemberSessionEqualsPinLaw", name := "version", desc := "(I)Lbourseline/model/FixVersion;" } : Jvm.MethodName) method_3_code (1 : Nat) (Option.some (Jvm.ClassFile.FieldType.object "bourseline/model/FixVersion")), Jvm.Cond.code ({ cls := "bourseline/model/MemberSessionEqualsPinLaw", name := "rule", desc := "(I)Lbourseline/model/SelfMatchInstruction;" } : Jvm.MethodName) method_4_code (1 : Nat) (Option.some (Jvm.ClassFile.FieldType.object "bourseline/model/SelfMatchInstruction")), Jvm.Cond.code ({ cls := "bourseline/model/MemberSession", name := "<init>", desc := "(Ljava/lang/String;Ljava/lang/String;Lbourseline/model/FixVersion;Ljava/lang/String;Lbourseline/model/SelfMatchInstruction;)V" } : Jvm.MethodName) prog_44_method_1_code (6 : Nat) (Option.none : Option Jvm.ClassFile.FieldType), Jvm.Cond.code ({ cls := "java/lang/Record", name := "<init>", desc := "()V" } : Jvm.MethodName) jdk_30_method_1_code (1 : Nat) (Option.none : Option Jvm.ClassFile.FieldType), Jvm.Cond.code ({ cls := "java/util/Objects", name := "requireNonNull", desc := "(Ljava/lang/Object;Ljava/lang/String;)Ljava/lang/Object;" } : Jvm.MethodName) jdk_31_method_11_code (2 : Nat) (Option.some (Jvm.ClassFile.FieldType.object "java/lang/Object")), Jvm.Cond.code ({ cls := "bourseline/model/MemberSession", name := "equals", desc := "(Ljava/lang/Object;)Z" } : Jvm.MethodName) prog_44_method_2_code (3 : Nat) (Option.some Jvm.ClassFile.FieldType.boolean), Jvm.Cond.code ({ cls := "java/lang/String", name := "equals", desc := "(Ljava/lang/Object;)Z" } : Jvm.MethodName) jdk_42_method_66_code (3 : Nat) (Option.some Jvm.ClassFile.FieldType.boolean), Jvm.Cond.code ({ cls := "java/lang/StringLatin1", name := "equals", desc := "([B[B)Z" } : Jvm.MethodName) jdk_43_method_13_code (3 : Nat) (Option.some Jvm.ClassFile.FieldType.boolean)]
set_option maxRecDepth 65536 in
theorem codes_eq : words1.filter isCode = codes1 := rfl
theorem w_codes : ∀ c ∈ words1.filter isCode, c.before args0 about1 = true := by
  rw [codes_eq]
  intro c hc
  simp only [codes1, List.mem_cons, List.not_mem_nil, or_false] at hc
  rcases hc with rfl | rfl | rfl | rfl | rfl | rfl | rfl | rfl | rfl | rfl | rfl | rfl | rfl | rfl | rfl | rfl
  · exact w_c0
  · exact w_c1
  · exact w_c2
  · exact w_c3
  · exact w_c4
  · exact w_c5
  · exact w_c6
  · exact w_c7
  · exact w_c8
  · exact w_c9
  · exact w_c10
  · exact w_c11
  · exact w_c12
  · exact w_c13
  · exact w_c14
  · exact w_c15
set_option maxRecDepth 65536 in
theorem w_t1 : (words1.take 24).all (fun c => isCode c || c.before args0 about1) = true := by decide +kernel
set_option maxRecDepth 65536 in
theorem w_t2 : ((words1.drop 24).take 24).all (fun c => isCode c || c.before args0 about1) = true := by decide +kernel
set_option maxRecDepth 65536 in
theorem w_t3 : (((words1.drop 24).drop 24).take 24).all (fun c => isCode c || c.before args0 about1) = true := by decide +kernel
set_option maxRecDepth 65536 in
theorem w_t4 : ((((words1.drop 24).drop 24).drop 24).take 24).all (fun c => isCode c || c.before args0 about1) = true := by decide +kernel
set_option maxRecDepth 65536 in
theorem w_t5 : ((((words1.drop 24).drop 24).drop 24).drop 24).all (fun c => isCode c || c.before args0 about1) = true := by decide +kernel
theorem w_tables : (allAtoms (Jvm.Cond.code x code maxLocals ret :: tables_1)).before args0 about1 = true := by
  rw [allAtoms_all]
  show words1.all (fun c => c.before args0 about1) = true
  refine all_split ?_ w_codes
  rw [← List.take_append_drop 24 words1, List.all_append, w_t1, ← List.take_append_drop 24 (words1.drop 24), List.all_append, w_t2, ← List.take_append_drop 24 ((words1.drop 24).drop 24), List.all_append, w_t3, ← List.take_append_drop 24 (((words1.drop 24).drop 24).drop 24), List.all_append, w_t4, w_t5]
  rfl
set_option maxRecDepth 65536 in
theorem w_rest : rest_1_c.before args0 about1 = true := by decide +kernel
set_option maxRecDepth 65536 in
theorem w_case : (Jvm.Cond.and given_1 narrow_1).before args0 about1 = true := by decide +kernel
theorem w_applies : (headSpec (Jvm.Cond.code x code maxLocals ret :: tables_1) room_1).applies x e0.platform about1 = true :=
  (Spec.applies_iff w_frames).mpr ⟨w_running, w_runnable, w_alone, w_named, w_hears, w_ripe, w_room, w_tables⟩
theorem atStart : AtStart classFile x code maxLocals ret World_1 tables_1 room_1 Calls_1 rest_1 Pre_1 launch0 p0 e0 about1 theMethod args0 below0 :=
  ⟨lists_1, trivial, launch0.admits_env _ _ _, launch0.least_env, fairChoices_fair.cas, fairChoices_fair.clock, w_frames, w_args, w_heap, w_applies, trivial, w_rest, w_case⟩
end start1
theorem witness_1 : WitnessClaimed_1 := ⟨start1.p0, start1.e0, start1.about1, start1.theMethod, start1.args0, start1.below0, start1.atStart⟩
end Jvm.Pilot.@@N@@
