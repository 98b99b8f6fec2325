import JvmDerived
import JvmDerived.Pilot.@@N@@Statement
import JvmDerived.Pilot.@@N@@Code
set_option linter.unusedVariables false
set_option linter.unusedSimpArgs false
/- laws to paste: Road.backV (cut by pick.py; bodies as the Statement names them) -/
namespace Jvm.Pilot.@@N@@
namespace StrChars
open Jvm Sem ClassFile Op Lib Jvm.Stand Jvm.Free.XT Jvm.Free.ALB Jvm.Free.JM Jvm.Free
open Jvm.Lib.Cold (StaticIs)
/-- a char array whose places are chars -/
def Ch (a : Addr) (A : Cell) (U : State) : Prop := Arr .char a A U ∧ Typed .char A
theorem Ch.mv {a : Addr} {A : Cell} {U U' : State} (h : Ch a A U) (hal : U.vm.Alike U'.vm) (hh : U'.heap = U.heap) : Ch a A U' := ⟨h.1.mv hal hh, h.2⟩
theorem Ch.keep {a : Addr} {A : Cell} {U U' : State} (h : Ch a A U) (hal : U.vm.Alike U'.vm) (hk : U'.heap[a]? = some A) : Ch a A U' := ⟨h.1.keep hal hk, h.2⟩
/-- what place i of a char[]'s cell holds -/
def cv (A : Cell) (i : Nat) : Int32 := match A.slots[i]? with | some (.int x) => x | _ => 0
theorem Ch.get {a : Addr} {A : Cell} {U : State} (h : Ch a A U) {i : Nat} (hi : i < A.slots.size) : A.slots[i]? = some (.int (cv A i)) := by
  have e := Array.getElem?_eq_getElem hi
  have f := h.2 i _ e
  unfold cv; rw [e]
  generalize A.slots[i] = v at f
  cases v <;> simp [fits] at f ⊢
/-- the byte that i2b leaves of a char -/
def lo8 (x : Int32) : Int32 := x.toInt8.toInt32
theorem fits_lo8 (y : Int32) : fits .byte (.int (lo8 y)) = true := by
  have h1 := y.toInt8.le_toInt
  have h2 := y.toInt8.toInt_lt
  simp only [lo8, fits, Bool.and_eq_true, decide_eq_true_eq, Int32.le_iff_toInt_le, Int8.toInt_toInt32, show (-128 : Int32).toInt = -128 from by decide, show (127 : Int32).toInt = 127 from by decide]
  omega
/-- A' is A but that each place j of lo .. hi - 1 holds f j -/
def Laid (A A' : Cell) (lo hi : Nat) (f : Nat → Value) : Prop := A'.cls = A.cls ∧ A'.vm = A.vm ∧ A'.slots.size = A.slots.size ∧ ∀ i, A'.slots[i]? = if lo ≤ i ∧ i < hi then some (f i) else A.slots[i]?
theorem Laid.zero (A : Cell) (lo : Nat) (f : Nat → Value) : Laid A A lo (lo + 0) f := ⟨rfl, rfl, rfl, fun i => by rw [if_neg (by omega)]⟩
theorem Laid.step {A Ak : Cell} {lo k : Nat} {f : Nat → Value} {v : Value} (h : Laid A Ak lo k f) (hlo : lo ≤ k) (hk : k < Ak.slots.size) (hv : v = f k) : Laid A (Ak.setSlot k v) lo (k + 1) f := by
  refine ⟨h.1, h.2.1, by simpa [Cell.setSlot] using h.2.2.1, fun i => ?_⟩
  by_cases e : k = i
  · subst e; rw [Cell.slots_setSlot_self v hk, if_pos (by omega), hv]
  · rw [Cell.slots_setSlot_ne v e, h.2.2.2 i]
    by_cases q : lo ≤ i ∧ i < k
    · rw [if_pos q, if_pos (by omega)]
    · rw [if_neg q, if_neg (by omega)]
def U16 : String := "java/lang/StringUTF16"
namespace Cmp5
def yN : MethodName := ⟨"java/lang/StringUTF16", "compress", "([CI[BII)I"⟩
abbrev yB : ByteArray := jdk_52_method_21_code
theorem d0 : decode yB 0 = .ok (.iconst 0, 1) := by decide +kernel
theorem d1 : decode yB 1 = .ok (.istore 5, 2) := by decide +kernel
theorem d3 : decode yB 3 = .ok (.iload 5, 2) := by decide +kernel
theorem d5 : decode yB 5 = .ok (.iload 4, 2) := by decide +kernel
theorem d7 : decode yB 7 = .ok (.if_icmp (.ge) 37, 3) := by decide +kernel
theorem d10 : decode yB 10 = .ok (.aload_n 0, 1) := by decide +kernel
theorem d11 : decode yB 11 = .ok (.iload_n 1, 1) := by decide +kernel
theorem d12 : decode yB 12 = .ok (.caload, 1) := by decide +kernel
theorem d13 : decode yB 13 = .ok (.istore 6, 2) := by decide +kernel
theorem d15 : decode yB 15 = .ok (.iload 6, 2) := by decide +kernel
theorem d17 : decode yB 17 = .ok (.sipush 255, 3) := by decide +kernel
theorem d20 : decode yB 20 = .ok (.if_icmp (.le) 6, 3) := by decide +kernel
theorem d26 : decode yB 26 = .ok (.aload_n 2, 1) := by decide +kernel
theorem d27 : decode yB 27 = .ok (.iload_n 3, 1) := by decide +kernel
theorem d28 : decode yB 28 = .ok (.iload 6, 2) := by decide +kernel
theorem d30 : decode yB 30 = .ok (.i2b, 1) := by decide +kernel
theorem d31 : decode yB 31 = .ok (.bastore, 1) := by decide +kernel
theorem d32 : decode yB 32 = .ok (.iinc 1 1, 3) := by decide +kernel
theorem d35 : decode yB 35 = .ok (.iinc 3 1, 3) := by decide +kernel
theorem d38 : decode yB 38 = .ok (.iinc 5 1, 3) := by decide +kernel
theorem d41 : decode yB 41 = .ok (.goto (-38), 3) := by decide +kernel
theorem d44 : decode yB 44 = .ok (.iload 4, 2) := by decide +kernel
theorem d46 : decode yB 46 = .ok (.ireturn, 1) := by decide +kernel
def site : List Cond := []
def tab : Cond := tabOf yN yB 7 (some .int) site
def P (b : Addr) (A : Cell) (d : Addr) (B : Cell) (o q len : Nat) (args : Array Value) (s : State) : Prop := args = #[.ref b, .int (Int32.ofNat o), .ref d, .int (Int32.ofNat q), .int (Int32.ofNat len)] ∧ Ch b A s ∧ Arr .byte d B s ∧ b ≠ d ∧ o + len ≤ A.slots.size ∧ q + len ≤ B.slots.size ∧ ∀ i, i < len → ¬ 255 < cv A (o + i)
def E (b : Addr) (A : Cell) (d : Addr) (B : Cell) (o q len : Nat) (r : Option Value) (s u : State) : Prop := r = some (.int (Int32.ofNat len)) ∧ ∃ B', Put d B' s u ∧ Laid B B' q (q + len) (fun j => Value.int (lo8 (cv A (o + (j - q)))))
/-- no char of the range above 255: len; the places written hold each char's low byte -/
theorem law (l : Launch) (b : Addr) (A : Cell) (d : Addr) (B : Cell) (o q len : Nat) : Law l yN 5 5 0 0 yB 7 (some .int) site (P b A d B o q len) (E b A d B o q len) (copyLocs d q len) 0 0 := by
  refine Law.of_walk (plainFor_of_name (by decide +kernel)) (by decide +kernel) (by decide +kernel) (by decide) (fun _ _ h => by rw [h.1]; rfl) (fun _ U U' hal hh h => ⟨h.1, h.2.1.mv hal hh, h.2.2.1.mv hal hh, h.2.2.2⟩) (fun r U U' V V' h1 hal h2 h => ⟨h.1, h.2.elim fun B' q => ⟨B', q.1.mv h1 h2, q.2⟩⟩) ?_
  intro p e s m args below meth c s₁ X0 hexec hbytes hml hret hlk hnm hown hh0 W hP
  obtain ⟨rfl, hA, hB, hne, l1, l2, hp⟩ := hP
  have c1 : Steps p.tables e below (s₁.setTop (entryFrame m #[.ref b, .int (Int32.ofNat o), .ref d, .int (Int32.ofNat q), .int (Int32.ofNat len)] 7)) (s₁.setTop (mkF m 0 #[.val (.ref b), .val (.int (Int32.ofNat o)), .val (.ref d), .val (.int (Int32.ofNat q)), .val (.int (Int32.ofNat len)), .unset, .unset] [])) := entry rfl
  have hA0 := hA.1.mv X0.warmed.alike hh0
  have hB0 := hB.mv X0.warmed.alike hh0
  have a31 := hA.1.2.2.2
  have c2 : Steps p.tables e below (s₁.setTop (entryFrame m #[.ref b, .int (Int32.ofNat o), .ref d, .int (Int32.ofNat q), .int (Int32.ofNat len)] 7)) (s₁.setTop (mkF m 3 #[.val (.ref b), .val (.int (Int32.ofNat o)), .val (.ref d), .val (.int (Int32.ofNat q)), .val (.int (Int32.ofNat len)), .val (.int 0), .unset] [])) := c1.trans (by
    refine iconstV X0.here hexec rfl 0 (hb hbytes d0) (by decide) ?_
    refine XS.istore X0.here hexec rfl (hb hbytes d1) rfl rfl ?_
    exact Steps.refl _)
  have loop : ∀ (r i : Nat), i + r = len → ∀ (z : Slot), (z = .unset ∨ ∃ w, z = .val w ∧ w.category = 1) → ∀ (Tl : State) (Bk : Cell), Stand p l e { frames := 0, locals := 0, cells := 0, slots := 0 } s m #[.ref b, .int (Int32.ofNat o), .ref d, .int (Int32.ofNat q), .int (Int32.ofNat len)] below meth c Tl ([] ++ copyLocs d q i) 0 0 → Put d Bk s₁ Tl → Laid B Bk q (q + i) (fun j => Value.int (lo8 (cv A (o + (j - q))))) →
      Steps p.tables e below (s₁.setTop (entryFrame m #[.ref b, .int (Int32.ofNat o), .ref d, .int (Int32.ofNat q), .int (Int32.ofNat len)] 7)) (Tl.setTop (mkF m 3 #[.val (.ref b), .val (.int (Int32.ofNat (o + i))), .val (.ref d), .val (.int (Int32.ofNat (q + i))), .val (.int (Int32.ofNat len)), .val (.int (Int32.ofNat i)), z] [])) → ∃ (T' : State) (B' : Cell) (z' : Slot), Stand p l e { frames := 0, locals := 0, cells := 0, slots := 0 } s m #[.ref b, .int (Int32.ofNat o), .ref d, .int (Int32.ofNat q), .int (Int32.ofNat len)] below meth c T' ([] ++ copyLocs d q len) 0 0 ∧ Put d B' s₁ T' ∧ Laid B B' q (q + len) (fun j => Value.int (lo8 (cv A (o + (j - q))))) ∧
      Steps p.tables e below (s₁.setTop (entryFrame m #[.ref b, .int (Int32.ofNat o), .ref d, .int (Int32.ofNat q), .int (Int32.ofNat len)] 7)) (T'.setTop (mkF m 3 #[.val (.ref b), .val (.int (Int32.ofNat (o + len))), .val (.ref d), .val (.int (Int32.ofNat (q + len))), .val (.int (Int32.ofNat len)), .val (.int (Int32.ofNat len)), z'] [])) := by
    intro r
    induction r with
    | zero =>
      intro i hi z hz Tl Bk Xl pl fl cl
      have hil : i = len := by omega
      rw [hil] at Xl fl cl
      exact ⟨Tl, Bk, z, Xl, pl, fl, cl⟩
    | succ r ih =>
      intro i hi z hz Tl Bk Xl pl fl cl
      have all := X0.warmed.alike.symm.trans Xl.warmed.alike
      have hAl := hA0.keep all (pl.other hne hA0.1)
      have hBk := hB0.like all pl.1 fl.1 fl.2.1 fl.2.2.1
      have hlt : q + i < Bk.slots.size := by rw [fl.2.2.1]; omega
      have c3 : Steps p.tables e below (s₁.setTop (entryFrame m #[.ref b, .int (Int32.ofNat o), .ref d, .int (Int32.ofNat q), .int (Int32.ofNat len)] 7)) (Tl.setTop (mkF m 12 #[.val (.ref b), .val (.int (Int32.ofNat (o + i))), .val (.ref d), .val (.int (Int32.ofNat (q + i))), .val (.int (Int32.ofNat len)), .val (.int (Int32.ofNat i)), z] [.int (Int32.ofNat (o + i)), .ref b])) := cl.trans (by
        refine XS.iload Xl.here hexec rfl (hb hbytes d3) rfl ?_
        refine XS.iload Xl.here hexec rfl (hb hbytes d5) rfl ?_
        refine XS.icmpNo Xl.here hexec rfl (hb hbytes d7) rfl (ii_ge_f (lt32 (by omega) (by omega))) ?_
        refine XS.aloadN Xl.here hexec rfl (hb hbytes d10) rfl rfl ?_
        refine XS.iloadN Xl.here hexec rfl (hb hbytes d11) rfl ?_
        exact Steps.refl _)
      have c4 : Steps p.tables e below (s₁.setTop (entryFrame m #[.ref b, .int (Int32.ofNat o), .ref d, .int (Int32.ofNat q), .int (Int32.ofNat len)] 7)) (Tl.setTop (mkF m 13 #[.val (.ref b), .val (.int (Int32.ofNat (o + i))), .val (.ref d), .val (.int (Int32.ofNat (q + i))), .val (.int (Int32.ofNat len)), .val (.int (Int32.ofNat i)), z] [.int (cv A (o + i))])) := c3.trans (by
        refine Xl.aget hexec hAl rfl (hA.get (i := o + i) (by omega)) rfl rfl (hb hbytes d12) ?_
        exact Steps.refl _)
      have c5 : Steps p.tables e below (s₁.setTop (entryFrame m #[.ref b, .int (Int32.ofNat o), .ref d, .int (Int32.ofNat q), .int (Int32.ofNat len)] 7)) (Tl.setTop (mkF m 15 #[.val (.ref b), .val (.int (Int32.ofNat (o + i))), .val (.ref d), .val (.int (Int32.ofNat (q + i))), .val (.int (Int32.ofNat len)), .val (.int (Int32.ofNat i)), .val (.int (cv A (o + i)))] [])) := c4.trans (by
        refine XS.istoreS Xl.here hexec rfl (hb hbytes d13) rfl rfl hz ?_
        exact Steps.refl _)
      have c6 : Steps p.tables e below (s₁.setTop (entryFrame m #[.ref b, .int (Int32.ofNat o), .ref d, .int (Int32.ofNat q), .int (Int32.ofNat len)] 7)) (Tl.setTop (mkF m 31 #[.val (.ref b), .val (.int (Int32.ofNat (o + i))), .val (.ref d), .val (.int (Int32.ofNat (q + i))), .val (.int (Int32.ofNat len)), .val (.int (Int32.ofNat i)), .val (.int (cv A (o + i)))] [.int (lo8 (cv A (o + i))), .int (Int32.ofNat (q + i)), .ref d])) := c5.trans (by
        refine XS.iload Xl.here hexec rfl (hb hbytes d15) rfl ?_
        refine sipushV Xl.here hexec rfl 255 (hb hbytes d17) (by decide) ?_
        refine XS.icmpYes Xl.here hexec rfl (pc0 := 20) rfl (hb hbytes d20) rfl (ii_le_t (hp i (by omega))) (by decide) rfl ?_
        refine XS.aloadN Xl.here hexec rfl (hb hbytes d26) rfl rfl ?_
        refine XS.iloadN Xl.here hexec rfl (hb hbytes d27) rfl ?_
        refine XS.iload Xl.here hexec rfl (hb hbytes d28) rfl ?_
        refine i2b Xl.here hexec rfl (hb hbytes d30) rfl ?_
        exact Steps.refl _)
      obtain ⟨T7, X7, p7, st7⟩ := Xl.aput hexec hBk rfl hlt rfl (fits_lo8 (cv A (o + i))) (g := (mkF m 31 #[.val (.ref b), .val (.int (Int32.ofNat (o + i))), .val (.ref d), .val (.int (Int32.ofNat (q + i))), .val (.int (Int32.ofNat len)), .val (.int (Int32.ofNat i)), .val (.int (cv A (o + i)))] [.int (lo8 (cv A (o + i))), .int (Int32.ofNat (q + i)), .ref d])) rfl (rest := []) rfl (hb hbytes d31)
      have c8 : Steps p.tables e below (s₁.setTop (entryFrame m #[.ref b, .int (Int32.ofNat o), .ref d, .int (Int32.ofNat q), .int (Int32.ofNat len)] 7)) (T7.setTop (mkF m 32 #[.val (.ref b), .val (.int (Int32.ofNat (o + i))), .val (.ref d), .val (.int (Int32.ofNat (q + i))), .val (.int (Int32.ofNat len)), .val (.int (Int32.ofNat i)), .val (.int (cv A (o + i)))] [])) := c6.trans (st7 _ (Steps.refl _))
      have c9 : Steps p.tables e below (s₁.setTop (entryFrame m #[.ref b, .int (Int32.ofNat o), .ref d, .int (Int32.ofNat q), .int (Int32.ofNat len)] 7)) (T7.setTop (mkF m 3 #[.val (.ref b), .val (.int (Int32.ofNat (o + i) + 1)), .val (.ref d), .val (.int (Int32.ofNat (q + i) + 1)), .val (.int (Int32.ofNat len)), .val (.int (Int32.ofNat i + 1)), .val (.int (cv A (o + i)))] [])) := c8.trans (by
        refine iincV X7.here hexec rfl 1 (hb hbytes d32) (by decide) rfl rfl ?_
        refine iincV X7.here hexec rfl 1 (hb hbytes d35) (by decide) rfl rfl ?_
        refine iincV X7.here hexec rfl 1 (hb hbytes d38) (by decide) rfl rfl ?_
        refine XS.goto X7.here hexec rfl (pc0 := 41) rfl (hb hbytes d41) (by decide) rfl ?_
        exact Steps.refl _)
      have c10 : Steps p.tables e below (s₁.setTop (entryFrame m #[.ref b, .int (Int32.ofNat o), .ref d, .int (Int32.ofNat q), .int (Int32.ofNat len)] 7)) (T7.setTop (mkF m 3 #[.val (.ref b), .val (.int (Int32.ofNat (o + (i + 1)))), .val (.ref d), .val (.int (Int32.ofNat (q + (i + 1)))), .val (.int (Int32.ofNat len)), .val (.int (Int32.ofNat (i + 1))), .val (.int (cv A (o + i)))] [])) := by
        have := c9
        rw [succ32, succ32, succ32] at this
        exact this
      exact ih (i + 1) (by omega) _ (Or.inr ⟨_, rfl, rfl⟩) T7 _ (by rw [copyLocs_step, ← List.append_assoc]; exact X7) (pl.trans p7) (fl.step (by omega) hlt (by simp)) c10
  obtain ⟨T9, B9, z9, X9, p9, f9, g9⟩ := loop len 0 (by omega) .unset (Or.inl rfl) s₁ B (by simpa [copyLocs] using X0) ⟨hB0.1, fun _ _ => rfl, rfl⟩ (Laid.zero _ _ _) c2
  have c11 : Steps p.tables e below (s₁.setTop (entryFrame m #[.ref b, .int (Int32.ofNat o), .ref d, .int (Int32.ofNat q), .int (Int32.ofNat len)] 7)) (T9.setTop (mkF m 46 #[.val (.ref b), .val (.int (Int32.ofNat (o + len))), .val (.ref d), .val (.int (Int32.ofNat (q + len))), .val (.int (Int32.ofNat len)), .val (.int (Int32.ofNat len)), z9] [.int (Int32.ofNat len)])) := g9.trans (by
    refine XS.iload X9.here hexec rfl (hb hbytes d3) rfl ?_
    refine XS.iload X9.here hexec rfl (hb hbytes d5) rfl ?_
    refine XS.icmpYes X9.here hexec rfl (pc0 := 7) rfl (hb hbytes d7) rfl (ii_ge_t (nlt32 (by omega) (Nat.le_refl _))) (by decide) rfl ?_
    refine XS.iload X9.here hexec rfl (hb hbytes d44) rfl ?_
    exact Steps.refl _)
  exact ⟨T9, some (.int (Int32.ofNat len)), _, _, _, X9, by simp, rfl, rfl, (fun h => by cases h), ⟨rfl, B9, p9.from hh0, f9⟩, fun fs hl => c11.trans (X9.ireturnOut hexec hret rfl (Or.inl rfl) (hb hbytes d46) hl)⟩
end Cmp5
namespace Cmp3
def yN : MethodName := ⟨"java/lang/StringUTF16", "compress", "([CII)[B"⟩
abbrev yB : ByteArray := jdk_52_method_16_code
theorem d0 : decode yB 0 = .ok (.iload_n 2, 1) := by decide +kernel
theorem d1 : decode yB 1 = .ok (.newarray .byte, 2) := by decide +kernel
theorem d3 : decode yB 3 = .ok (.astore_n 3, 1) := by decide +kernel
theorem d4 : decode yB 4 = .ok (.aload_n 0, 1) := by decide +kernel
theorem d5 : decode yB 5 = .ok (.iload_n 1, 1) := by decide +kernel
theorem d6 : decode yB 6 = .ok (.aload_n 3, 1) := by decide +kernel
theorem d7 : decode yB 7 = .ok (.iconst 0, 1) := by decide +kernel
theorem d8 : decode yB 8 = .ok (.iload_n 2, 1) := by decide +kernel
theorem d9 : decode yB 9 = .ok (.invokestatic 115, 3) := by decide +kernel
theorem d12 : decode yB 12 = .ok (.istore 4, 2) := by decide +kernel
theorem d14 : decode yB 14 = .ok (.iload 4, 2) := by decide +kernel
theorem d16 : decode yB 16 = .ok (.iload_n 2, 1) := by decide +kernel
theorem d17 : decode yB 17 = .ok (.if_icmp (.eq) 40, 3) := by decide +kernel
theorem d57 : decode yB 57 = .ok (.aload_n 3, 1) := by decide +kernel
theorem d58 : decode yB 58 = .ok (.areturn, 1) := by decide +kernel
def site : List Cond := [.arrayClass .byte, Cmp5.tab] ++ staticW U16 115 Cmp5.yN
def tab : Cond := tabOf yN yB 6 (some (.array .byte)) site
def P (b : Addr) (A : Cell) (o len : Nat) (args : Array Value) (s : State) : Prop := args = #[.ref b, .int (Int32.ofNat o), .int (Int32.ofNat len)] ∧ Ch b A s ∧ o + len ≤ A.slots.size ∧ len ≤ 536870912 ∧ ∀ i, i < len → ¬ 255 < cv A (o + i)
def E (b : Addr) (A : Cell) (o len : Nat) (r : Option Value) (s u : State) : Prop := NewArr .byte "[B" len (fun j => .int (lo8 (cv A (o + j)))) r s u ∧ u.heap.size = s.heap.size + 1
/-- no char of the range above 255: a new byte[] of their low bytes -/
theorem law (l : Launch) (b : Addr) (A : Cell) (o len : Nat) : Law l yN 3 3 1 18 yB 6 (some (.array .byte)) site (P b A o len) (E b A o len) [] 1 len := by
  refine Law.of_walk (plainFor_of_name (by decide +kernel)) (by decide +kernel) (by decide +kernel) (by decide) (fun _ _ h => by rw [h.1]; rfl) (fun _ U U' hal hh h => ⟨h.1, h.2.1.mv hal hh, h.2.2⟩) (fun r U U' V V' h1 hal h2 h => ⟨NewArr.mv r U U' V V' h1 hal h2 h.1, by rw [h1, h2]; exact h.2⟩) ?_
  intro p e s m args below meth c s₁ X0 hexec hbytes hml hret hlk hnm hown hh0 W hP
  obtain ⟨rfl, hA, l1, l2, hp⟩ := hP
  have a31 := hA.1.2.2.2
  have c1 : Steps p.tables e below (s₁.setTop (entryFrame m #[.ref b, .int (Int32.ofNat o), .int (Int32.ofNat len)] 6)) (s₁.setTop (mkF m 0 #[.val (.ref b), .val (.int (Int32.ofNat o)), .val (.int (Int32.ofNat len)), .unset, .unset, .unset] [])) := entry rfl
  have c2 : Steps p.tables e below (s₁.setTop (entryFrame m #[.ref b, .int (Int32.ofNat o), .int (Int32.ofNat len)] 6)) (s₁.setTop (mkF m 1 #[.val (.ref b), .val (.int (Int32.ofNat o)), .val (.int (Int32.ofNat len)), .unset, .unset, .unset] [.int (Int32.ofNat len)])) := c1.trans (by
    refine XS.iloadN X0.here hexec rfl (hb hbytes d0) rfl ?_
    exact Steps.refl _)
  obtain ⟨T3, B3, X3, ba3, bs3, bv3, bh3, bf3, st3⟩ := X0.anew hexec (atype := .byte) (wk W (.arrayClass .byte)) rfl (by show len * 1 ≤ _; omega) (by omega) (g := (mkF m 1 #[.val (.ref b), .val (.int (Int32.ofNat o)), .val (.int (Int32.ofNat len)), .unset, .unset, .unset] [.int (Int32.ofNat len)])) rfl (hb hbytes d1) (rest := []) rfl (Nat.le_refl _) (by show 0 + len ≤ len; omega)
  rw [hh0] at ba3 st3
  have kp3 : XT.Kept s T3 := (XT.Kept.of_eq hh0).push bh3
  have hA3 := hA.keep X3.warmed.alike (kp3 _ _ hA.1.1)
  have hne : b ≠ s.heap.size := hA.1.ne
  have c4 : Steps p.tables e below (s₁.setTop (entryFrame m #[.ref b, .int (Int32.ofNat o), .int (Int32.ofNat len)] 6)) (T3.setTop (mkF m 3 #[.val (.ref b), .val (.int (Int32.ofNat o)), .val (.int (Int32.ofNat len)), .unset, .unset, .unset] [.ref s.heap.size])) := c2.trans (st3 _ (Steps.refl _))
  have c5 : Steps p.tables e below (s₁.setTop (entryFrame m #[.ref b, .int (Int32.ofNat o), .int (Int32.ofNat len)] 6)) (T3.setTop (mkF m 9 #[.val (.ref b), .val (.int (Int32.ofNat o)), .val (.int (Int32.ofNat len)), .val (.ref s.heap.size), .unset, .unset] [.int (Int32.ofNat len), .int 0, .ref s.heap.size, .int (Int32.ofNat o), .ref b])) := c4.trans (by
    refine XS.astoreN X3.here hexec rfl (hb hbytes d3) rfl rfl rfl ?_
    refine XS.aloadN X3.here hexec rfl (hb hbytes d4) rfl rfl ?_
    refine XS.iloadN X3.here hexec rfl (hb hbytes d5) rfl ?_
    refine XS.aloadN X3.here hexec rfl (hb hbytes d6) rfl rfl ?_
    refine iconstV X3.here hexec rfl 0 (hb hbytes d7) (by decide) ?_
    refine XS.iloadN X3.here hexec rfl (hb hbytes d8) rfl ?_
    exact Steps.refl _)
  obtain ⟨v6, T6, X6, E6, g6⟩ := X3.callS hexec (Cmp5.law l b A s.heap.size B3 o 0 len) hown (wks W (staticW U16 115 Cmp5.yN)) (wk W Cmp5.tab) (W := 0) (Nat.le_of_ble_eq_true rfl) (Nat.le_of_ble_eq_true rfl) (Nat.le_refl _) (by show 0 + len + 0 ≤ len; omega) (g := (mkF m 9 #[.val (.ref b), .val (.int (Int32.ofNat o)), .val (.int (Int32.ofNat len)), .val (.ref s.heap.size), .unset, .unset] [.int (Int32.ofNat len), .int (Int32.ofNat 0), .ref s.heap.size, .int (Int32.ofNat o), .ref b])) rfl (by rw [hml]; rfl) c5 (argsL := [.ref b, .int (Int32.ofNat o), .ref s.heap.size, .int (Int32.ofNat 0), .int (Int32.ofNat len)]) (rest := []) rfl rfl (by show 2 * 0 + 0 ≤ _; decide) (hb hbytes d9) (⟨rfl, hA3, ba3, hne, l1, by rw [bs3]; simp, hp⟩)
  obtain ⟨rfl, B6, p6, f6⟩ := E6
  have c7 : Steps p.tables e below (s₁.setTop (entryFrame m #[.ref b, .int (Int32.ofNat o), .int (Int32.ofNat len)] 6)) (T6.setTop (mkF m 12 #[.val (.ref b), .val (.int (Int32.ofNat o)), .val (.int (Int32.ofNat len)), .val (.ref s.heap.size), .unset, .unset] [.int (Int32.ofNat len)])) := g6
  have c8 : Steps p.tables e below (s₁.setTop (entryFrame m #[.ref b, .int (Int32.ofNat o), .int (Int32.ofNat len)] 6)) (T6.setTop (mkF m 58 #[.val (.ref b), .val (.int (Int32.ofNat o)), .val (.int (Int32.ofNat len)), .val (.ref s.heap.size), .val (.int (Int32.ofNat len)), .unset] [.ref s.heap.size])) := c7.trans (by
    refine XS.istore X6.here hexec rfl (hb hbytes d12) rfl rfl ?_
    refine XS.iload X6.here hexec rfl (hb hbytes d14) rfl ?_
    refine XS.iloadN X6.here hexec rfl (hb hbytes d16) rfl ?_
    refine XS.icmpYes X6.here hexec rfl (pc0 := 17) rfl (hb hbytes d17) rfl (ii_eq_t rfl) (by decide) rfl ?_
    refine XS.aloadN X6.here hexec rfl (hb hbytes d57) rfl rfl ?_
    exact Steps.refl _)
  have X8 := X6.wide (L' := []) (cells' := 1) (slots' := len) (fun x hx hlt => by
    simp only [List.nil_append, copyLocs, List.mem_map, List.mem_range] at hx
    obtain ⟨i, -, rfl⟩ := hx
    exact absurd hlt (Nat.lt_irrefl _)) (Nat.le_refl _) (by omega)
  exact ⟨T6, some (.ref s.heap.size), _, _, _, X8, rfl, rfl, rfl, (fun h => by cases h), ⟨⟨rfl, B6, ba3.like (X3.warmed.alike.symm.trans X6.warmed.alike) p6.1 f6.1 f6.2.1 f6.2.2.1, f6.2.1.trans bv3, by rw [X6.warmed.alike.findClass, f6.1]; exact bf3, by rw [f6.2.2.1, bs3]; simp, fun j hj => by rw [f6.2.2.2 j, if_pos (by omega)]; rfl, kp3.put p6 (Nat.le_refl _)⟩, by rw [p6.2.2, bh3, hh0]; simp⟩, fun fs hl => c8.trans (X8.areturnOut hexec rfl hret rfl (hb hbytes d58) hl)⟩
end Cmp3
namespace CodL
def yN : MethodName := ⟨"java/lang/StringUTF16", "coderFromArrayLen", "([BI)B"⟩
abbrev yB : ByteArray := jdk_52_method_15_code
theorem d0 : decode yB 0 = .ok (.iload_n 1, 1) := by decide +kernel
theorem d1 : decode yB 1 = .ok (.aload_n 0, 1) := by decide +kernel
theorem d2 : decode yB 2 = .ok (.arraylength, 1) := by decide +kernel
theorem d3 : decode yB 3 = .ok (.isub, 1) := by decide +kernel
theorem d4 : decode yB 4 = .ok (.bipush 31, 2) := by decide +kernel
theorem d6 : decode yB 6 = .ok (.iushr, 1) := by decide +kernel
theorem d7 : decode yB 7 = .ok (.i2b, 1) := by decide +kernel
theorem d8 : decode yB 8 = .ok (.ireturn, 1) := by decide +kernel
def site : List Cond := []
def tab : Cond := tabOf yN yB 2 (some .byte) site
def P (d : Addr) (B : Cell) (args : Array Value) (s : State) : Prop := args = #[.ref d, .int (Int32.ofNat B.slots.size)] ∧ Arr .byte d B s
def E (r : Option Value) (s u : State) : Prop := XT.PureE (some (.int 0)) r s u
/-- an array as long as the number of chars: LATIN1 -/
theorem law (l : Launch) (d : Addr) (B : Cell) : Law l yN 2 2 0 0 yB 2 (some .byte) site (P d B) E [] 0 0 := by
  refine Law.of_walk (plainFor_of_name (by decide +kernel)) (by decide +kernel) (by decide +kernel) (by decide) (fun _ _ h => by rw [h.1]; rfl) (fun _ U U' hal hh h => ⟨h.1, h.2.mv hal hh⟩) (fun r U U' V V' h1 hal h2 h => XT.PureE.mv r U U' V V' h1 hal h2 h) ?_
  intro p e s m args below meth c s₁ X0 hexec hbytes hml hret hlk hnm hown hh0 W hP
  obtain ⟨rfl, hB⟩ := hP
  have hB0 := hB.mv X0.warmed.alike hh0
  have c1 : Steps p.tables e below (s₁.setTop (entryFrame m #[.ref d, .int (Int32.ofNat B.slots.size)] 2)) (s₁.setTop (mkF m 0 #[.val (.ref d), .val (.int (Int32.ofNat B.slots.size))] [])) := entry rfl
  have c2 : Steps p.tables e below (s₁.setTop (entryFrame m #[.ref d, .int (Int32.ofNat B.slots.size)] 2)) (s₁.setTop (mkF m 2 #[.val (.ref d), .val (.int (Int32.ofNat B.slots.size))] [.ref d, .int (Int32.ofNat B.slots.size)])) := c1.trans (by
    refine XS.iloadN X0.here hexec rfl (hb hbytes d0) rfl ?_
    refine XS.aloadN X0.here hexec rfl (hb hbytes d1) rfl rfl ?_
    exact Steps.refl _)
  have c3 : Steps p.tables e below (s₁.setTop (entryFrame m #[.ref d, .int (Int32.ofNat B.slots.size)] 2)) (s₁.setTop (mkF m 8 #[.val (.ref d), .val (.int (Int32.ofNat B.slots.size))] [.int (lo8 (ushr (Int32.ofNat B.slots.size - Int32.ofNat B.slots.size) 31))])) := c2.trans (by
    refine X0.alen hexec hB0 rfl rfl (hb hbytes d2) ?_
    refine XS.isub X0.here hexec rfl (hb hbytes d3) rfl ?_
    refine bipushV X0.here hexec rfl 31 (hb hbytes d4) (by decide) ?_
    refine iushr X0.here hexec rfl (hb hbytes d6) rfl ?_
    refine i2b X0.here hexec rfl (hb hbytes d7) rfl ?_
    exact Steps.refl _)
  have e0 : lo8 (ushr (Int32.ofNat B.slots.size - Int32.ofNat B.slots.size) 31) = 0 := by rw [Int32.sub_self]; decide
  rw [e0] at c3
  exact ⟨s₁, some (.int 0), _, _, _, X0, rfl, rfl, rfl, (fun h => by cases h), ⟨rfl, hh0⟩, fun fs hl => c3.trans (X0.ireturnOut hexec hret rfl (Or.inr (Or.inr (Or.inl rfl))) (hb hbytes d8) hl)⟩
end CodL
/-- the String at a is Latin-1 over a new byte[] (the heap's one new cell): the low bytes of the len chars of A from o on; every cell but a is kept -/
def Got (a : Addr) (D : Cell) (fV fC : Field) (A : Cell) (o len : Nat) (r : Option Value) (s u : State) : Prop := r = none ∧ ∃ D' V : Cell, Blank "java/lang/String" a D' u ∧ Same D D' [fV.slot, fC.slot] ∧ D'.slots[fV.slot]? = some (.ref s.heap.size) ∧ D'.slots[fC.slot]? = some (.int 0) ∧ Arr .byte s.heap.size V u ∧ V.vm = .none ∧ u.vm.findClass "[B" = some V.cls ∧ V.slots.size = len ∧ (∀ j, j < len → V.slots[j]? = some (.int (lo8 (cv A (o + j))))) ∧ (∀ (y : Addr) (c : Cell), y ≠ a → s.heap[y]? = some c → u.heap[y]? = some c) ∧ u.heap.size = s.heap.size + 1
theorem Got.mv {a : Addr} {D A : Cell} {fV fC : Field} {o len : Nat} : ∀ r (U U' V V' : State), U'.heap = U.heap → V.vm.Alike V'.vm → V'.heap = V.heap → Got a D fV fC A o len r U V → Got a D fV fC A o len r U' V' :=
  fun r U U' V V' h1 hal h2 ⟨e0, D', X, a1, a2, a3, a4, a5, a6, a7, a8, a9, a10, a11⟩ => ⟨e0, D', X, a1.mv hal h2, a2, by rw [h1]; exact a3, a4, by rw [h1]; exact a5.mv hal h2, a6, by rw [hal.findClass]; exact a7, a8, a9, by rw [h1, h2]; exact a10, by rw [h1, h2]; exact a11⟩
namespace New4
def yN : MethodName := ⟨"java/lang/String", "<init>", "([CIILjava/lang/Void;)V"⟩
abbrev yB : ByteArray := jdk_42_method_149_code
theorem d0 : decode yB 0 = .ok (.aload_n 0, 1) := by decide +kernel
theorem d1 : decode yB 1 = .ok (.invokespecial 1, 3) := by decide +kernel
theorem d4 : decode yB 4 = .ok (.iload_n 3, 1) := by decide +kernel
theorem d5 : decode yB 5 = .ok (.ifCond (.ne) 22, 3) := by decide +kernel
theorem d27 : decode yB 27 = .ok (.getstatic 38, 3) := by decide +kernel
theorem d30 : decode yB 30 = .ok (.ifCond (.eq) 28, 3) := by decide +kernel
theorem d33 : decode yB 33 = .ok (.aload_n 1, 1) := by decide +kernel
theorem d34 : decode yB 34 = .ok (.iload_n 2, 1) := by decide +kernel
theorem d35 : decode yB 35 = .ok (.iload_n 3, 1) := by decide +kernel
theorem d36 : decode yB 36 = .ok (.invokestatic 177, 3) := by decide +kernel
theorem d39 : decode yB 39 = .ok (.astore 5, 2) := by decide +kernel
theorem d41 : decode yB 41 = .ok (.aload_n 0, 1) := by decide +kernel
theorem d42 : decode yB 42 = .ok (.aload 5, 2) := by decide +kernel
theorem d44 : decode yB 44 = .ok (.iload_n 3, 1) := by decide +kernel
theorem d45 : decode yB 45 = .ok (.invokestatic 47, 3) := by decide +kernel
theorem d48 : decode yB 48 = .ok (.putfield 15, 3) := by decide +kernel
theorem d51 : decode yB 51 = .ok (.aload_n 0, 1) := by decide +kernel
theorem d52 : decode yB 52 = .ok (.aload 5, 2) := by decide +kernel
theorem d54 : decode yB 54 = .ok (.putfield 9, 3) := by decide +kernel
theorem d57 : decode yB 57 = .ok (.return_, 1) := by decide +kernel
def site : List Cond := [.fieldLink "java/lang/String" 38 "java/lang/String" "COMPACT_STRINGS" "Z", Cmp3.tab, CodL.tab, .laysFinal "java/lang/String" "java/lang/String" "value" "[B", .fieldLink "java/lang/String" 9 "java/lang/String" "value" "[B", .laysFinal "java/lang/String" "java/lang/String" "coder" "B", .fieldLink "java/lang/String" 15 "java/lang/String" "coder" "B"] ++ objW "java/lang/String" 1 ++ staticW "java/lang/String" 177 Cmp3.yN ++ staticW "java/lang/String" 47 CodL.yN
def tab : Cond := tabOf yN yB 6 none site
def P (a : Addr) (D : Cell) (fV fC : Field) (b : Addr) (A : Cell) (z : Int32) (o len : Nat) (args : Array Value) (s : State) : Prop := args = #[.ref a, .ref b, .int (Int32.ofNat o), .int (Int32.ofNat len), .null] ∧ Blank "java/lang/String" a D s ∧ Found "java/lang/String" "value" "[B" fV s ∧ Found "java/lang/String" "coder" "B" fC s ∧ Ch b A s ∧ StaticIs s "java/lang/String" "COMPACT_STRINGS" "Z" (.int z) ∧ ¬ z = 0 ∧ 0 < len ∧ o + len ≤ A.slots.size ∧ len ≤ 536870912 ∧ ∀ i, i < len → ¬ 255 < cv A (o + i)
def E (a : Addr) (D : Cell) (fV fC : Field) (A : Cell) (o len : Nat) (r : Option Value) (s u : State) : Prop := Got a D fV fC A o len r s u
/-- len > 0, no char of the range above 255: a Latin-1 String of their low bytes -/
theorem law (l : Launch) (a : Addr) (D : Cell) (fV fC : Field) (b : Addr) (A : Cell) (z : Int32) (o len : Nat) : Law l yN 5 4 2 35 yB 6 none site (P a D fV fC b A z o len) (E a D fV fC A o len) [⟨a, fC.slot⟩, ⟨a, fV.slot⟩] 1 len := by
  refine Law.of_walk (plainFor_of_name (by decide +kernel)) (by decide +kernel) (by decide +kernel) (by decide) (fun _ _ h => by rw [h.1]; rfl) (fun _ U U' hal hh h => ⟨h.1, h.2.1.mv hal hh, h.2.2.1.al hal, h.2.2.2.1.al hal, h.2.2.2.2.1.mv hal hh, h.2.2.2.2.2.1.there hal hh, h.2.2.2.2.2.2⟩) (fun r U U' V V' h1 hal h2 h => Got.mv r U U' V V' h1 hal h2 h) ?_
  intro p e s m args below meth c s₁ X0 hexec hbytes hml hret hlk hnm hown hh0 W hP
  obtain ⟨rfl, hB, f1, f2, hA, s1, hz, l0, l1, l2, hp⟩ := hP
  have a31 := hA.1.2.2.2
  have c1 : Steps p.tables e below (s₁.setTop (entryFrame m #[.ref a, .ref b, .int (Int32.ofNat o), .int (Int32.ofNat len), .null] 6)) (s₁.setTop (mkF m 0 #[.val (.ref a), .val (.ref b), .val (.int (Int32.ofNat o)), .val (.int (Int32.ofNat len)), .val .null, .unset] [])) := entry rfl
  have c2 : Steps p.tables e below (s₁.setTop (entryFrame m #[.ref a, .ref b, .int (Int32.ofNat o), .int (Int32.ofNat len), .null] 6)) (s₁.setTop (mkF m 1 #[.val (.ref a), .val (.ref b), .val (.int (Int32.ofNat o)), .val (.int (Int32.ofNat len)), .val .null, .unset] [.ref a])) := c1.trans (by
    refine XS.aloadN X0.here hexec rfl (hb hbytes d0) rfl rfl ?_
    exact Steps.refl _)
  obtain ⟨T3, X3, q3, st3⟩ := X0.oinit hexec hown (wks W (objW "java/lang/String" 1)) (g := (mkF m 1 #[.val (.ref a), .val (.ref b), .val (.int (Int32.ofNat o)), .val (.int (Int32.ofNat len)), .val .null, .unset] [.ref a])) rfl (by rw [hml]; rfl) (rest := []) rfl (hb hbytes d1) (W := 0) (by show 2 * 0 + 0 ≤ _; decide) (Nat.le_of_ble_eq_true rfl) (Nat.le_of_ble_eq_true rfl)
  have hh3 := q3.trans hh0
  have c4 : Steps p.tables e below (s₁.setTop (entryFrame m #[.ref a, .ref b, .int (Int32.ofNat o), .int (Int32.ofNat len), .null] 6)) (T3.setTop (mkF m 27 #[.val (.ref a), .val (.ref b), .val (.int (Int32.ofNat o)), .val (.int (Int32.ofNat len)), .val .null, .unset] [])) := (c2.trans (st3 _ (Steps.refl _))).trans (by
    refine XS.iloadN X3.here hexec rfl (hb hbytes d4) rfl ?_
    refine XS.ifYes X3.here hexec rfl (pc0 := 5) rfl (hb hbytes d5) rfl (i0_ne_t (nz32 (by omega) l0)) (by decide) rfl ?_
    exact Steps.refl _)
  obtain ⟨T5, X5, q5, st5⟩ := X3.sget hexec hown (wk W (.fieldLink "java/lang/String" 38 "java/lang/String" "COMPACT_STRINGS" "Z")) s1 (fun _ _ h => by rw [hh3]; exact h) (g := (mkF m 27 #[.val (.ref a), .val (.ref b), .val (.int (Int32.ofNat o)), .val (.int (Int32.ofNat len)), .val .null, .unset] [])) rfl (hb hbytes d27)
  have hh5 := q5.trans hh3
  have c6 : Steps p.tables e below (s₁.setTop (entryFrame m #[.ref a, .ref b, .int (Int32.ofNat o), .int (Int32.ofNat len), .null] 6)) (T5.setTop (mkF m 30 #[.val (.ref a), .val (.ref b), .val (.int (Int32.ofNat o)), .val (.int (Int32.ofNat len)), .val .null, .unset] [.int z])) := c4.trans (st5 _ (Steps.refl _))
  have c7 : Steps p.tables e below (s₁.setTop (entryFrame m #[.ref a, .ref b, .int (Int32.ofNat o), .int (Int32.ofNat len), .null] 6)) (T5.setTop (mkF m 36 #[.val (.ref a), .val (.ref b), .val (.int (Int32.ofNat o)), .val (.int (Int32.ofNat len)), .val .null, .unset] [.int (Int32.ofNat len), .int (Int32.ofNat o), .ref b])) := c6.trans (by
    refine XS.ifNo X5.here hexec rfl (hb hbytes d30) rfl (i0_eq_f hz) ?_
    refine XS.aloadN X5.here hexec rfl (hb hbytes d33) rfl rfl ?_
    refine XS.iloadN X5.here hexec rfl (hb hbytes d34) rfl ?_
    refine XS.iloadN X5.here hexec rfl (hb hbytes d35) rfl ?_
    exact Steps.refl _)
  obtain ⟨v8, T8, X8, E8, g8⟩ := X5.callS hexec (Cmp3.law l b A o len) hown (wks W (staticW "java/lang/String" 177 Cmp3.yN)) (wk W Cmp3.tab) (W := 0) (Nat.le_of_ble_eq_true rfl) (Nat.le_of_ble_eq_true rfl) (Nat.le_refl _) (by show 0 + len ≤ len; omega) (g := (mkF m 36 #[.val (.ref a), .val (.ref b), .val (.int (Int32.ofNat o)), .val (.int (Int32.ofNat len)), .val .null, .unset] [.int (Int32.ofNat len), .int (Int32.ofNat o), .ref b])) rfl (by rw [hml]; rfl) c7 (argsL := [.ref b, .int (Int32.ofNat o), .int (Int32.ofNat len)]) (rest := []) rfl rfl (by show 2 * 0 + 0 ≤ _; decide) (hb hbytes d36) (⟨rfl, hA.mv X5.warmed.alike hh5, l1, l2, hp⟩)
  obtain ⟨e8, z8⟩ := E8
  obtain ⟨rfl, N, n1, n2, n3, n4, n5, n6⟩ := NewArr.mv _ T5 s _ _ hh5.symm (Vm.Alike.refl _) rfl e8
  rw [hh5] at z8
  have hB1 := hB.keep X8.warmed.alike (n6 _ _ hB.1)
  have hne : s.heap.size ≠ a := (Nat.ne_of_lt (Array.getElem?_eq_some_iff.mp hB.1).1).symm
  have c9 : Steps p.tables e below (s₁.setTop (entryFrame m #[.ref a, .ref b, .int (Int32.ofNat o), .int (Int32.ofNat len), .null] 6)) (T8.setTop (mkF m 39 #[.val (.ref a), .val (.ref b), .val (.int (Int32.ofNat o)), .val (.int (Int32.ofNat len)), .val .null, .unset] [.ref s.heap.size])) := g8
  have c10 : Steps p.tables e below (s₁.setTop (entryFrame m #[.ref a, .ref b, .int (Int32.ofNat o), .int (Int32.ofNat len), .null] 6)) (T8.setTop (mkF m 45 #[.val (.ref a), .val (.ref b), .val (.int (Int32.ofNat o)), .val (.int (Int32.ofNat len)), .val .null, .val (.ref s.heap.size)] [.int (Int32.ofNat N.slots.size), .ref s.heap.size, .ref a])) := by
    have hc : Steps p.tables e below (s₁.setTop (entryFrame m #[.ref a, .ref b, .int (Int32.ofNat o), .int (Int32.ofNat len), .null] 6)) (T8.setTop (mkF m 45 #[.val (.ref a), .val (.ref b), .val (.int (Int32.ofNat o)), .val (.int (Int32.ofNat len)), .val .null, .val (.ref s.heap.size)] [.int (Int32.ofNat len), .ref s.heap.size, .ref a])) := c9.trans (by
      refine XS.astore X8.here hexec rfl (hb hbytes d39) rfl rfl rfl ?_
      refine XS.aloadN X8.here hexec rfl (hb hbytes d41) rfl rfl ?_
      refine XS.aload X8.here hexec rfl (hb hbytes d42) rfl rfl ?_
      refine XS.iloadN X8.here hexec rfl (hb hbytes d44) rfl ?_
      exact Steps.refl _)
    rw [n4]; exact hc
  obtain ⟨v11, T11, X11, E11, g11⟩ := X8.callS hexec (CodL.law l s.heap.size N) hown (wks W (staticW "java/lang/String" 47 CodL.yN)) (wk W CodL.tab) (W := 1) (Nat.le_of_ble_eq_true rfl) (Nat.le_of_ble_eq_true rfl) (Nat.le_refl _) (by show 0 + len + 0 ≤ len; omega) (g := (mkF m 45 #[.val (.ref a), .val (.ref b), .val (.int (Int32.ofNat o)), .val (.int (Int32.ofNat len)), .val .null, .val (.ref s.heap.size)] [.int (Int32.ofNat N.slots.size), .ref s.heap.size, .ref a])) rfl (by rw [hml]; rfl) c10 (argsL := [.ref s.heap.size, .int (Int32.ofNat N.slots.size)]) (rest := [.ref a]) rfl rfl (by show 2 * 0 + (1 + 0) ≤ _; decide) (hb hbytes d45) (⟨rfl, n1⟩)
  obtain ⟨rfl, q11⟩ := E11
  have hB11 := hB1.mv (X8.warmed.alike.symm.trans X11.warmed.alike) q11
  have c12 : Steps p.tables e below (s₁.setTop (entryFrame m #[.ref a, .ref b, .int (Int32.ofNat o), .int (Int32.ofNat len), .null] 6)) (T11.setTop (mkF m 48 #[.val (.ref a), .val (.ref b), .val (.int (Int32.ofNat o)), .val (.int (Int32.ofNat len)), .val .null, .val (.ref s.heap.size)] [.int 0, .ref a])) := g11
  obtain ⟨T13, X13, p13, bl13, sl13, st13⟩ := X11.finit hexec hown (wk W (.fieldLink "java/lang/String" 15 "java/lang/String" "coder" "B")) (Or.inr ⟨_, (wk W (.laysFinal "java/lang/String" "java/lang/String" "coder" "B"))⟩) (Or.inl ⟨rfl, hnm⟩) f2 (Or.inl rfl) hB11 (t := .byte) (by decide +kernel) rfl (g := (mkF m 48 #[.val (.ref a), .val (.ref b), .val (.int (Int32.ofNat o)), .val (.int (Int32.ofNat len)), .val .null, .val (.ref s.heap.size)] [.int 0, .ref a])) rfl (rest := []) rfl (hb hbytes d48)
  have c14 : Steps p.tables e below (s₁.setTop (entryFrame m #[.ref a, .ref b, .int (Int32.ofNat o), .int (Int32.ofNat len), .null] 6)) (T13.setTop (mkF m 54 #[.val (.ref a), .val (.ref b), .val (.int (Int32.ofNat o)), .val (.int (Int32.ofNat len)), .val .null, .val (.ref s.heap.size)] [.ref s.heap.size, .ref a])) := (c12.trans (st13 _ (Steps.refl _))).trans (by
    refine XS.aloadN X13.here hexec rfl (hb hbytes d51) rfl rfl ?_
    refine XS.aload X13.here hexec rfl (hb hbytes d52) rfl rfl ?_
    exact Steps.refl _)
  obtain ⟨T15, X15, p15, bl15, sl15, st15⟩ := X13.finit hexec hown (wk W (.fieldLink "java/lang/String" 9 "java/lang/String" "value" "[B")) (Or.inr ⟨_, (wk W (.laysFinal "java/lang/String" "java/lang/String" "value" "[B"))⟩) (Or.inl ⟨rfl, hnm⟩) f1 (Or.inl rfl) bl13 (t := (.array .byte)) (by decide +kernel) rfl (g := (mkF m 54 #[.val (.ref a), .val (.ref b), .val (.int (Int32.ofNat o)), .val (.int (Int32.ofNat len)), .val .null, .val (.ref s.heap.size)] [.ref s.heap.size, .ref a])) rfl (rest := []) rfl (hb hbytes d54)
  have c16 : Steps p.tables e below (s₁.setTop (entryFrame m #[.ref a, .ref b, .int (Int32.ofNat o), .int (Int32.ofNat len), .null] 6)) (T15.setTop (mkF m 57 #[.val (.ref a), .val (.ref b), .val (.int (Int32.ofNat o)), .val (.int (Int32.ofNat len)), .val .null, .val (.ref s.heap.size)] [])) := c14.trans (st15 _ (Steps.refl _))
  have ap := apart (Or.inr ⟨_, (wk W (.laysFinal "java/lang/String" "java/lang/String" "value" "[B"))⟩) (Or.inr ⟨_, (wk W (.laysFinal "java/lang/String" "java/lang/String" "coder" "B"))⟩) f1 f2 (t₁ := .array .byte) (t₂ := .byte) (by decide +kernel) (by decide +kernel) (by decide)
  have al := X8.warmed.alike.symm.trans X15.warmed.alike
  have n7 : T11.heap[s.heap.size]? = some N := by rw [q11]; exact n1.1
  exact ⟨T15, none, _, _, _, X15, by simp, rfl, by omega, (fun _ => rfl), ⟨rfl, _, N, bl15, ((Same.refl D _).set _ (by simp)).set _ (by simp), sl15, (Cell.slots_setSlot_ne _ ap).trans sl13, n1.keep al (p15.other hne (p13.other hne n7)), n2, by rw [al.findClass]; exact n3, n4, n5, fun y c h1 h2 => p15.other h1 (p13.other h1 (by rw [q11]; exact n6 y c h2)), by rw [p15.2.2, p13.2.2, q11]; exact z8⟩, fun fs hl => c16.trans (X15.returnOut hexec hret (hb hbytes d57) hl)⟩
end New4
namespace New1
def yN : MethodName := ⟨"java/lang/String", "<init>", "([C)V"⟩
abbrev yB : ByteArray := jdk_42_method_3_code
theorem d0 : decode yB 0 = .ok (.aload_n 0, 1) := by decide +kernel
theorem d1 : decode yB 1 = .ok (.aload_n 1, 1) := by decide +kernel
theorem d2 : decode yB 2 = .ok (.iconst 0, 1) := by decide +kernel
theorem d3 : decode yB 3 = .ok (.aload_n 1, 1) := by decide +kernel
theorem d4 : decode yB 4 = .ok (.arraylength, 1) := by decide +kernel
theorem d5 : decode yB 5 = .ok (.aconst_null, 1) := by decide +kernel
theorem d6 : decode yB 6 = .ok (.invokespecial 27, 3) := by decide +kernel
theorem d9 : decode yB 9 = .ok (.return_, 1) := by decide +kernel
def site : List Cond := [New4.tab] ++ initW "java/lang/String" 27 New4.yN
def tab : Cond := tabOf yN yB 2 none site
def P (a : Addr) (D : Cell) (fV fC : Field) (b : Addr) (A : Cell) (z : Int32) (args : Array Value) (s : State) : Prop := args = #[.ref a, .ref b] ∧ Blank "java/lang/String" a D s ∧ Found "java/lang/String" "value" "[B" fV s ∧ Found "java/lang/String" "coder" "B" fC s ∧ Ch b A s ∧ StaticIs s "java/lang/String" "COMPACT_STRINGS" "Z" (.int z) ∧ ¬ z = 0 ∧ 0 < A.slots.size ∧ A.slots.size ≤ 536870912 ∧ ∀ i, i < A.slots.size → ¬ 255 < cv A i
def E (a : Addr) (D : Cell) (fV fC : Field) (A : Cell) (r : Option Value) (s u : State) : Prop := Got a D fV fC A 0 A.slots.size r s u
/-- new String(chars), not empty, no char above 255: a Latin-1 String of their low bytes -/
theorem law (l : Launch) (a : Addr) (D : Cell) (fV fC : Field) (b : Addr) (A : Cell) (z : Int32) : Law l yN 2 1 3 52 yB 2 none site (P a D fV fC b A z) (E a D fV fC A) [⟨a, fC.slot⟩, ⟨a, fV.slot⟩] 1 A.slots.size := by
  refine Law.of_walk (plainFor_of_name (by decide +kernel)) (by decide +kernel) (by decide +kernel) (by decide) (fun _ _ h => by rw [h.1]; rfl) (fun _ U U' hal hh h => ⟨h.1, h.2.1.mv hal hh, h.2.2.1.al hal, h.2.2.2.1.al hal, h.2.2.2.2.1.mv hal hh, h.2.2.2.2.2.1.there hal hh, h.2.2.2.2.2.2⟩) (fun r U U' V V' h1 hal h2 h => Got.mv r U U' V V' h1 hal h2 h) ?_
  intro p e s m args below meth c s₁ X0 hexec hbytes hml hret hlk hnm hown hh0 W hP
  obtain ⟨rfl, hB, f1, f2, hA, s1, hz, l0, l2, hp⟩ := hP
  have c1 : Steps p.tables e below (s₁.setTop (entryFrame m #[.ref a, .ref b] 2)) (s₁.setTop (mkF m 0 #[.val (.ref a), .val (.ref b)] [])) := entry rfl
  have c2 : Steps p.tables e below (s₁.setTop (entryFrame m #[.ref a, .ref b] 2)) (s₁.setTop (mkF m 6 #[.val (.ref a), .val (.ref b)] [.null, .int (Int32.ofNat A.slots.size), .int 0, .ref b, .ref a])) := c1.trans (by
    refine XS.aloadN X0.here hexec rfl (hb hbytes d0) rfl rfl ?_
    refine XS.aloadN X0.here hexec rfl (hb hbytes d1) rfl rfl ?_
    refine iconstV X0.here hexec rfl 0 (hb hbytes d2) (by decide) ?_
    refine XS.aloadN X0.here hexec rfl (hb hbytes d3) rfl rfl ?_
    refine X0.alen hexec (hA.1.mv X0.warmed.alike hh0) rfl rfl (hb hbytes d4) ?_
    refine XS.aconstNull X0.here hexec rfl (hb hbytes d5) ?_
    exact Steps.refl _)
  obtain ⟨v3, T3, X3, E3, g3⟩ := X0.callN hexec (New4.law l a D fV fC b A z 0 A.slots.size) rfl hown (wks W (initW "java/lang/String" 27 New4.yN)) (W New4.tab (by simp only [site, List.mem_cons, List.mem_append, true_or, or_true])) (W := 0) (Nat.le_of_ble_eq_true rfl) (Nat.le_of_ble_eq_true rfl) (Nat.le_refl _) (by show 0 + A.slots.size ≤ A.slots.size; omega) (g := (mkF m 6 #[.val (.ref a), .val (.ref b)] [.null, .int (Int32.ofNat A.slots.size), .int (Int32.ofNat 0), .ref b, .ref a])) rfl (by rw [hml]; rfl) c2 (argsL := [.ref b, .int (Int32.ofNat 0), .int (Int32.ofNat A.slots.size), .null]) (rest := []) rfl rfl (by show 2 * 0 + 0 ≤ _; decide) (hb hbytes d6) (⟨rfl, hB.mv X0.warmed.alike hh0, f1.al X0.warmed.alike, f2.al X0.warmed.alike, hA.mv X0.warmed.alike hh0, s1.there X0.warmed.alike hh0, hz, l0, by omega, l2, fun i hi => by rw [Nat.zero_add]; exact hp i hi⟩)
  have e0 := Got.mv _ s₁ s _ _ hh0.symm (Vm.Alike.refl _) rfl E3
  obtain rfl := e0.1
  have c4 : Steps p.tables e below (s₁.setTop (entryFrame m #[.ref a, .ref b] 2)) (T3.setTop (mkF m 9 #[.val (.ref a), .val (.ref b)] [])) := g3
  exact ⟨T3, none, _, _, _, X3, by simp, rfl, by omega, (fun _ => rfl), e0, fun fs hl => c4.trans (X3.returnOut hexec hret (hb hbytes d9) hl)⟩
theorem pays {l : Launch} {R : Room} {p : Program} {e : Env} {below : List Frame} {s : State} {sargs : Array Value} {len W : Nat} (a : Addr) (D : Cell) (fV fC : Field) (b : Addr) (A : Cell) (z : Int32) (htab : tab.before sargs s = true) (hfr : 4 ≤ R.frames) (hlo : W + 65 ≤ R.locals) :
    Back l R p e below s sargs yN len W (fun A₁ a₁ => A₁.cells + 1 ≤ R.cells ∧ A₁.slots + A.slots.size ≤ R.slots ∧ P a D fV fC b A z a₁ A₁.U) (fun A₁ _ v₁ B₁ => E a D fV fC A v₁ A₁.U B₁.U ∧ B₁.locs = A₁.locs ++ [⟨a, fC.slot⟩, ⟨a, fV.slot⟩] ∧ B₁.cells = A₁.cells + 1 ∧ B₁.slots = A₁.slots + A.slots.size) :=
  (law l a D fV fC b A z).pays htab hfr (by omega)
end New1
end StrChars
namespace StrChars.Road
open Jvm Sem ClassFile Op Lib Jvm.Stand Jvm.Free Jvm.Free.XT
open Jvm.Lib.Cold (StaticIs)
abbrev ST : String := "java/lang/String"
/-- every table word that New1's law asks, flat -/
abbrev words : List Jvm.Cond := [.code New1.yN New1.yB 2 none, .initialized ST, .methodLink ST 27 New4.yN, .instanceMethod New4.yN,
  .code New4.yN New4.yB 6 none, .fieldLink ST 38 ST "COMPACT_STRINGS" "Z", .laysFinal ST ST "value" "[B", .fieldLink ST 9 ST "value" "[B", .laysFinal ST ST "coder" "B", .fieldLink ST 15 ST "coder" "B",
  .methodLink ST 1 Lib.objectInit, .instanceMethod Lib.objectInit, .code Lib.objectInit ⟨#[0xb1]⟩ 1 none, .methodLink ST 177 Cmp3.yN, .static Cmp3.yN, .methodLink ST 47 CodL.yN, .static CodL.yN,
  .code Cmp3.yN Cmp3.yB 6 (some (.array .byte)), .initialized U16, .arrayClass .byte, .methodLink U16 115 Cmp5.yN, .static Cmp5.yN, .code Cmp5.yN Cmp5.yB 7 (some .int), .code CodL.yN CodL.yB 2 (some .byte)]
theorem tab_of {a : Array Value} {s : State} (h : ∀ w ∈ words, w.before a s = true) : New1.tab.before a s = true := by
  have h5 : Cmp5.tab.before a s = true := unparts (wk h (.code Cmp5.yN Cmp5.yB 7 (some .int))) (wks h (.initialized Cmp5.yN.cls :: Cmp5.site))
  have hc : CodL.tab.before a s = true := unparts (wk h (.code CodL.yN CodL.yB 2 (some .byte))) (wks h (.initialized CodL.yN.cls :: CodL.site))
  have q5 : ∀ w ∈ Cmp5.tab :: words, w.before a s = true := fun w hw => (List.mem_cons.mp hw).elim (fun e => e ▸ h5) (h w)
  have h3 : Cmp3.tab.before a s = true := unparts (wk q5 (.code Cmp3.yN Cmp3.yB 6 (some (.array .byte)))) (wks q5 (.initialized Cmp3.yN.cls :: Cmp3.site))
  have q3 : ∀ w ∈ Cmp3.tab :: CodL.tab :: words, w.before a s = true := fun w hw => (List.mem_cons.mp hw).elim (fun e => e ▸ h3) fun hw => (List.mem_cons.mp hw).elim (fun e => e ▸ hc) (h w)
  have h4 : New4.tab.before a s = true := unparts (wk q3 (.code New4.yN New4.yB 6 none)) (wks q3 (.initialized New4.yN.cls :: New4.site))
  have q4 : ∀ w ∈ New4.tab :: words, w.before a s = true := fun w hw => (List.mem_cons.mp hw).elim (fun e => e ▸ h4) (h w)
  exact unparts (wk q4 (.code New1.yN New1.yB 2 none)) (wks q4 (.initialized New1.yN.cls :: New1.site))
/-- the words ride from the start Z to the walk's own state -/
theorem moved {Z s : State} {a0 args : Array Value} (hZ : Z.Warmed39 s.vm) (hw : ∀ d ∈ words, d.before a0 Z = true) : ∀ d ∈ words, d.before args s = true := fun d hd => by
  have q := hw d hd
  have t : ∀ d ∈ words, d = .arrayClass .byte ∨ (d.onTables && d.keepsFace) = true := by decide +kernel
  rcases t d hd with rfl | t
  · exact RoadKit.mvA hZ q
  · exact RoadKit.mv hZ q t
/-- WHAT COMES BACK, over the tables of the start Z: h the heap at the call, h' behind it -/
def Q (Z : State) (x : Addr) (A : Cell) (h : Heap) (v : Option Value) (h' : Heap) (L : List Loc) : Prop := v = none ∧ (∀ y ∈ L, y.base = x) ∧ RoadKit.Keep h h' [x] ∧ h'.size = h.size + 1 ∧ RoadKit.Exa Z h' x ST ∧ RoadKit.Fld Z h' x ST "value" "[B" (.ref h.size) ∧ RoadKit.Fld Z h' x ST "coder" "B" (.int 0) ∧
  (∃ V : Cell, RoadKit.Arr Z h' h.size V .byte ∧ V.vm = .none ∧ Z.vm.findClass "[B" = some V.cls ∧ V.slots.size = A.slots.size ∧ ∀ j, j < A.slots.size → V.slots[j]? = some (.int (lo8 (cv A j)))) ∧
  ∀ (O n d : String) (w : Value), RoadKit.Fld Z h x O n d w → RoadKit.slotOf Z O n d ≠ RoadKit.slotOf Z ST "value" "[B" → RoadKit.slotOf Z O n d ≠ RoadKit.slotOf Z ST "coder" "B" → RoadKit.Fld Z h' x O n d w
/-- **new String(chars) AT A CALL, IN THE ROAD'S FORM**: for specialBack behind newO: x the fresh String, b the char[] with the cell A -/
theorem back {p : Program} {l : Launch} {e : Env} {R : Room} {s : State} {args : Array Value} {below : List Frame} {len W : Nat} {Z : State} {a0 : Array Value} {h : Heap} (hZ : Z.Warmed39 s.vm) (hw : ∀ d ∈ words, d.before a0 Z = true) {kI : Nat} (wi : (Jvm.Cond.instantiable ST kI).before a0 Z = true)
    {x b : Addr} {A : Cell} {z : Int32} {v0 c0 : Value} (E : RoadKit.Exa Z h x ST) (V : RoadKit.Fld Z h x ST "value" "[B" v0) (C : RoadKit.Fld Z h x ST "coder" "B" c0) (K : RoadKit.Arr Z h b A .char) (hty : Typed .char A) (S : RoadKit.Sta Z h ST "COMPACT_STRINGS" "Z" (.int z)) (hz : ¬ z = 0)
    (l0 : 0 < A.slots.size) (l2 : A.slots.size ≤ 536870912) (hp : ∀ i, i < A.slots.size → ¬ 255 < cv A i) (hfr : 4 ≤ R.frames) (hlo : W + 65 ≤ R.locals) :
    Back l R p e below s args New1.yN len W (fun P a => a = #[.ref x, .ref b] ∧ P.U.heap = h ∧ P.cells + 1 ≤ R.cells ∧ P.slots + A.slots.size ≤ R.slots)
      (fun P _ v B => ∃ L, Q Z x A h v B.U.heap L ∧ B.locs = P.locs ++ L ∧ B.cells = P.cells + 1 ∧ B.slots = P.slots + A.slots.size) := by
  intro m meth c P g ig mk a X hg hsize hdg hW hn hp'
  obtain ⟨rfl, rfl, r1, r2⟩ := hp'
  have al : Z.vm.Alike P.U.vm := hZ.alike.trans X.warmed.alike
  obtain ⟨D, cfV, kV, iV, fV, hD, gV, stV, knV, obV, asV, slV⟩ := id V
  obtain ⟨D', cfC, kC, iC, fC, hD', gC, stC, -, -, asC, slC⟩ := id C
  cases hD.symm.trans hD'
  obtain ⟨D2, kD, e1, e2, e3, e4, e5⟩ := id E
  cases hD.symm.trans e1
  obtain ⟨c2, k2, i1, i2, i3, -⟩ := Cond.instantiable_spec wi
  cases e2.symm.trans i1
  cases e3.symm.trans i2
  obtain ⟨kU, u1, u2⟩ := al.2.2 _ _ e3
  have hB : Blank ST x D P.U := ⟨hD, ⟨knV, fun q hq => by rw [hq] at obV; cases obV⟩, by rw [al.findClass]; exact e2, kU, u1, by rw [u2]; exact i3, by rw [u2]; exact e5 i3⟩
  have F1 : Found ST "value" "[B" fV P.U := ⟨SBG.found_only al ⟨cfV, kV, iV, gV⟩, stV⟩
  have F2 : Found ST "coder" "B" fC P.U := ⟨SBG.found_only al ⟨cfC, kC, iC, gC⟩, stC⟩
  have hA : Ch b A P.U := ⟨⟨K.1, State.isArrayOf_alike al K.2.1, K.2.2, by omega⟩, hty⟩
  have hS : StaticIs P.U ST "COMPACT_STRINGS" "Z" (.int z) := by
    obtain ⟨cfS, iS, kS, fS, st, cS, t1, t2, t3, t4, t5, t6, t7⟩ := S
    exact StaticIs.there (s := { Z with heap := P.U.heap }) ⟨cfS, iS, kS, fS, st, cS, t1, t2, t3, t4, t5, (fun q => by rw [q] at t6; cases t6), t7⟩ al rfl
  obtain ⟨v, B, X', ⟨⟨hv, E', V', q1, q2, q3, q4, q5, q6, q7, q8, q9, q10, q11⟩, hl, hc, hs⟩, st⟩ := New1.pays x D fV fC b A z (tab_of (moved hZ hw)) hfr hlo m meth c P g ig mk _ X hg hsize hdg hW hn ⟨r1, r2, rfl, hB, F1, F2, hA, hS, hz, l0, l2, hp⟩
  have al' : Z.vm.Alike B.U.vm := hZ.alike.trans X'.warmed.alike
  have hsz : E'.slots.size = D.slots.size := by
    obtain ⟨-, -, -, kB, w1, w2, w3⟩ := q1
    obtain ⟨kB', y1, y2⟩ := al'.2.2 _ _ e3
    rw [q2.2.1] at w1
    cases w1.symm.trans y1
    rw [w3, e5 i3, y2]
  refine ⟨v, B, X', ⟨_, ⟨hv, ?_, ⟨by omega, fun y cy hy hn' => q10 y cy (by simpa using hn') hy, fun y cy hy => ?_⟩, q11, ⟨E', _, q1.1, by rw [q2.2.1]; exact e2, by rw [q2.2.1]; exact e3, by rw [q2.1]; exact obV, fun _ => by rw [hsz]; exact e5 i3⟩,
    ⟨E', cfV, kV, iV, fV, q1.1, gV, stV, by rw [q2.1]; exact knV, by rw [q2.1]; exact obV, by rw [q2.2.1]; exact asV, q3⟩, ⟨E', cfC, kC, iC, fC, q1.1, gC, stC, by rw [q2.1]; exact knV, by rw [q2.1]; exact obV, by rw [q2.2.1]; exact asC, q4⟩,
    ⟨V', ⟨q5.1, State.isArrayOf_alike al'.symm q5.2.1, q5.2.2.1⟩, q6, by rw [← al'.findClass]; exact q7, q8, fun j hj => by have := q9 j hj; rwa [Nat.zero_add] at this⟩, fun O n d w F n1 n2 => ?_⟩, hl, hc, hs⟩, st⟩
  · intro y hy
    simp only [List.mem_cons, List.not_mem_nil, or_false] at hy
    rcases hy with rfl | rfl <;> rfl
  · by_cases q : y = x
    · subst q
      cases hD.symm.trans hy
      exact ⟨E', q1.1, q2.2.1, q2.1, hsz⟩
    · exact ⟨cy, q10 y cy q hy, rfl, rfl, rfl⟩
  · obtain ⟨D3, cf, k, i, f, g1, g2, g3, g4, g5, g6, g7⟩ := F
    cases hD.symm.trans g1
    simp only [RoadKit.slotOf, g2, gV, gC, Option.map_some, Option.getD_some] at n1 n2
    exact ⟨E', cf, k, i, f, q1.1, g2, g3, by rw [q2.1]; exact g4, by rw [q2.1]; exact g5, by rw [q2.2.1]; exact g6, by rw [q2.2.2 f.slot (by simp [n1, n2])]; exact g7⟩
end StrChars.Road
namespace StrChars.Road
open Jvm Sem ClassFile Op Lib Jvm.Stand Jvm.Free Jvm.Free.XT
/-- WHAT COMES BACK, the byte[] as a list of values -/
def QA (Z : State) (x : Addr) (zn : Int32) (cs : List Int32) (h : Heap) (v : Option Value) (h' : Heap) (L : List Loc) : Prop := v = none ∧ (∀ y ∈ L, y.base = x) ∧ RoadKit.Keep h h' [x] ∧ h'.size = h.size + 1 ∧ RoadKit.Exa Z h' x ST ∧ RoadKit.Fld Z h' x ST "value" "[B" (.ref h.size) ∧ RoadKit.Fld Z h' x ST "coder" "B" (.int 0) ∧
  (∃ kb, Z.vm.findClass "[B" = some kb ∧ RoadKit.Arv Z h' h.size kb .byte zn (cs.map fun c => .int (lo8 c)) (.int 0)) ∧
  ∀ (O n d : String) (w : Value), RoadKit.Fld Z h x O n d w → RoadKit.slotOf Z O n d ≠ RoadKit.slotOf Z ST "value" "[B" → RoadKit.slotOf Z O n d ≠ RoadKit.slotOf Z ST "coder" "B" → RoadKit.Fld Z h' x O n d w
/-- **new String(chars) AT A CALL, THE ARRAYS AS LISTS**: the char[] at b holds cs, not empty, no char above 255 -/
theorem backArv {p : Program} {l : Launch} {e : Env} {R : Room} {s : State} {args : Array Value} {below : List Frame} {len W : Nat} {Z : State} {a0 : Array Value} {h : Heap} (hZ : Z.Warmed39 s.vm) (hw : ∀ d ∈ words, d.before a0 Z = true) {kI : Nat} (wi : (Jvm.Cond.instantiable ST kI).before a0 Z = true)
    {x b : Addr} {k : ClassId} {zn z : Int32} {cs : List Int32} {dv v0 c0 : Value} (E : RoadKit.Exa Z h x ST) (V : RoadKit.Fld Z h x ST "value" "[B" v0) (C : RoadKit.Fld Z h x ST "coder" "B" c0) (K : RoadKit.Arv Z h b k .char zn (cs.map Value.int) dv) (S : RoadKit.Sta Z h ST "COMPACT_STRINGS" "Z" (.int z)) (hz : ¬ z = 0)
    (hlen : zn.toNatClampNeg = cs.length) (h0 : 0 < cs.length) (hbig : cs.length ≤ 536870912) (hall : ∀ c ∈ cs, ¬ 255 < c) (hfr : 4 ≤ R.frames) (hlo : W + 65 ≤ R.locals) :
    Back l R p e below s args New1.yN len W (fun P a => a = #[.ref x, .ref b] ∧ P.U.heap = h ∧ P.cells + 1 ≤ R.cells ∧ P.slots + cs.length ≤ R.slots)
      (fun P _ v B => ∃ L, QA Z x zn cs h v B.U.heap L ∧ B.locs = P.locs ++ L ∧ B.cells = P.cells + 1 ∧ B.slots = P.slots + cs.length) := by
  obtain ⟨A, K1, K2, K3, K4, K5, K6⟩ := K
  have e : A.slots.size = cs.length := K3.trans hlen
  have hat : ∀ (i : Nat) (hi : i < cs.length), A.slots[i]? = some (.int cs[i]) := fun i hi => by rw [K5 i (by omega)]; simp [List.getD_eq_getElem?_getD, hi]
  have hcv : ∀ (i : Nat) (hi : i < cs.length), cv A i = cs[i] := fun i hi => by unfold cv; rw [hat i hi]
  have hty : Typed .char A := fun i v hv => by
    have hi : i < A.slots.size := (Array.getElem?_eq_some_iff.mp hv).1
    have q := K5 i hi
    rw [hv] at q
    rw [Option.some.inj q]
    exact K6 i hi
  refine Back.mono (back hZ hw wi E V C K1 hty S hz (by omega) (by omega) (fun i hi => by rw [hcv i (by omega)]; exact hall _ (List.getElem_mem _)) hfr hlo) (fun P a hp => ⟨hp.1, hp.2.1, hp.2.2.1, by rw [e]; exact hp.2.2.2⟩) (fun P a v B hp hq => ?_)
  obtain ⟨L, ⟨q1, q2, q3, q4, q5, q6, q7, ⟨V', v1, v2, v3, v4, v5⟩, q9⟩, hl, hc, hs⟩ := hq
  refine ⟨L, ⟨q1, q2, q3, q4, q5, q6, q7, ⟨V'.cls, v3, V', v1, rfl, by rw [v4, e, hlen], K4, fun i hi => ?_, fun i hi => ?_⟩, q9⟩, hl, hc, by rw [hs, e]⟩
  · have hi' : i < cs.length := by omega
    rw [v5 i (by omega), hcv i hi']; simp [List.getD_eq_getElem?_getD, hi']
  · have hi' : i < cs.length := by omega
    simp only [List.getD_eq_getElem?_getD, List.getElem?_map, List.getElem?_eq_getElem hi', Option.map_some, Option.getD_some]
    exact fits_lo8 _
end StrChars.Road
namespace StrChars.Road
open Jvm Sem ClassFile Op Lib Jvm.Stand Jvm.Free Jvm.Free.XT
/-- WHAT COMES BACK, in the writer's own shape -/
def QV (Z : State) (x : Addr) (N : Int32) (bs : List Int32) (h : Heap) (n0 : Nat) (v : Option Value) (h' : Heap) (L : List Loc) : Prop := v = none ∧ RoadKit.Fr n0 L ∧ RoadKit.Keep h h' [x] ∧ RoadKit.Exa Z h' x ST ∧ RoadKit.Fld Z h' x ST "coder" "B" (.int 0) ∧
  ∃ (t : Addr) (kb : ClassId), n0 ≤ t ∧ h.size ≤ t ∧ ¬ t = x ∧ RoadKit.Fld Z h' x ST "value" "[B" (.ref t) ∧ RoadKit.Arv Z h' t kb .byte N (bs.map Value.int) (.int 0)
/-- **new String(chars) AT A CALL, FOR THE WRITER**: a char[] of n known ints, each 0 to 255 -/
theorem backV {p : Program} {l : Launch} {e : Env} {R : Room} {s : State} {args : Array Value} {below : List Frame} {len W : Nat} {Z : State} {a0 : Array Value} {h : Heap} (hZ : Z.Warmed39 s.vm) (hw : ∀ d ∈ words, d.before a0 Z = true) {kI : Nat} (wi : (Jvm.Cond.instantiable ST kI).before a0 Z = true)
    {x b : Addr} {kC : ClassId} {cs bs : List Int32} {d v0 c0 : Value} {z N : Int32} {n n0 : Nat} (hx0 : n0 ≤ x) (hh0 : n0 ≤ h.size) (E : RoadKit.Exa Z h x ST) (V : RoadKit.Fld Z h x ST "value" "[B" v0) (C : RoadKit.Fld Z h x ST "coder" "B" c0) (K : RoadKit.Arv Z h b kC .char N (cs.map Value.int) d) (S : RoadKit.Sta Z h ST "COMPACT_STRINGS" "Z" (.int z)) (hz : ¬ z = 0)
    (hn : cs.length = n) (hN : N = Int32.ofNat n) (l0 : 0 < n) (l2 : n ≤ 4000) (hp : ∀ c ∈ cs, ¬ c < 0 ∧ ¬ (255 : Int32) < c) (hb : bs = cs.map (fun c => c.toInt8.toInt32)) (hfr : 4 ≤ R.frames) (hlo : W + 65 ≤ R.locals) :
    Back l R p e below s args (⟨"java/lang/String", "<init>", "([C)V"⟩ : MethodName) len W (fun P a => a = #[.ref x, .ref b] ∧ P.U.heap = h ∧ P.cells + 1 ≤ R.cells ∧ P.slots + n ≤ R.slots)
      (fun P _ v B => ∃ L, QV Z x N bs h n0 v B.U.heap L ∧ B.locs = P.locs ++ L ∧ B.cells = P.cells + 1 ∧ B.slots = P.slots + n) := by
  subst hn hN hb
  refine Back.mono (backArv hZ hw wi E V C K S hz (n32 (by omega)) l0 (by omega) (fun c hc => (hp c hc).2) hfr hlo) (fun P a hp => hp) (fun P a v B hp hq => ?_)
  obtain ⟨L, ⟨q1, q2, q3, q4, q5, q6, q7, ⟨kb, v1, v2⟩, q9⟩, hl, hc, hs⟩ := hq
  exact ⟨L, ⟨q1, fun y hy => by rw [q2 y hy]; exact hx0, q3, q5, q7, h.size, kb, hh0, Nat.le_refl _, Nat.ne_of_gt E.lt, q6, by rw [List.map_map]; exact v2⟩, hl, hc, hs⟩
end StrChars.Road
end Jvm.Pilot.@@N@@
namespace Jvm.Pilot.@@N@@
open Jvm Jvm.ClassFile Sem Op Lib Jvm.Free Jvm.Stand Jvm.LawKit Jvm.RoadKit Bundle Jvm.Pilot.@@N@@.Jvm.D
theorem own_mvMN {Z s : State} {a0 args : Array Value} {own host : String} {index : Nat} {y : MethodName} (hZ : Z.Warmed39 s.vm) (w : (Jvm.Cond.methodLinkNest own index y host).before a0 Z = true) : (Jvm.Cond.methodLinkNest own index y host).before args s = true := (Cond.methodLinkNest_wide hZ w :)
theorem own_cat1 {v : Value} (h : v.isRef = true) : v.category = 1 := by cases v <;> simp [Value.isRef] at h <;> rfl
theorem own_fit {v : Value} {t : FieldType} (h : v.isRef = true) (ht : t.isReference = true) : fits t v = true := by
  cases t <;> first | (cases ht; done) | (cases v <;> simp [Value.isRef] at h <;> rfl)
theorem own_nar {v : Value} {t : FieldType} (h : v.isRef = true) (ht : t.isReference = true) : narrow t v = v := by
  cases t <;> first | (cases ht; done) | (cases v <;> simp [Value.isRef] at h <;> rfl)
theorem own_c255 (x : Int32) : ¬ nar .char ((x &&& (255 : Int32)).toUInt32.toUInt16.toUInt32.toInt32) < 0 ∧ ¬ (255 : Int32) < nar .char ((x &&& (255 : Int32)).toUInt32.toUInt16.toUInt32.toInt32) := by
  have e : nar .char ((x &&& (255 : Int32)).toUInt32.toUInt16.toUInt32.toInt32) = x &&& (255 : Int32) := by
    simp only [nar, UInt32.toUInt32_toInt32, UInt16.toUInt16_toUInt32]
    exact i2c_mask x
  have h := c_mask x (255 : Int32) 8 (by decide) (by decide)
  rw [e]
  rw [Int32.lt_iff_toInt_lt, Int32.lt_iff_toInt_lt]
  have e1 : (0 : Int32).toInt = 0 := by decide
  have e2 : (255 : Int32).toInt = 255 := by decide
  have e3 : ((2 ^ 8 : Nat) : Int) = 256 := by decide
  rw [e3] at h
  omega
theorem pn_0 : plainName "java/lang/Record" = true := by first | (simp [plainName, overriddenIn]; done) | decide +kernel
theorem dRC_0 : decode jdk_30_method_1_code 0 = .ok (.aload_n 0, 1) := by decide +kernel
theorem dRC_1 : decode jdk_30_method_1_code 1 = .ok (.invokespecial 1, 3) := by decide +kernel
theorem dRC_4 : decode jdk_30_method_1_code 4 = .ok (.return_, 1) := by decide +kernel
theorem ef_RC (m : MethodId) (x0 : Addr) : entryFrame m #[(.ref x0)] 1 = mkF m 0 #[.val (.ref x0)] [] := by first | (simp [entryFrame, mkF, argsToLocals, Value.category, maxLocals]; done) | rfl
def QRC (Z : State) (a : Addr) (h0 : Heap) (n0 : Nat) (v : Option Value) (h : Heap) (L : List Loc) : Prop := v = none ∧ Fr n0 L ∧ h = h0
set_option maxRecDepth 65536 in
set_option maxHeartbeats 40000000 in
theorem rmRC (l : Launch) (Z : State) (a0 : Array Value) (hw : ∀ d ∈ tables_1, d.before a0 Z = true) (ws : List Jvm.Cond) (a : Addr) (h0 : Heap) (n0 : Nat) (Z0 : n0 ≤ h0.size) :
    MetFree l (⟨"java/lang/Record", "<init>", "()V"⟩ : MethodName) (head1 (Jvm.Cond.code (⟨"java/lang/Record", "<init>", "()V"⟩ : MethodName) jdk_30_method_1_code 1 none :: ws) ({ frames := 1, cells := 0, slots := 0, locals := 12 } : Room)) (fun as_ U => as_ = #[(.ref a)] ∧ Z.Warmed39 U.vm ∧ U.heap = h0) (fun _ _ _ _ _ => True) (fun _ U o U' => ∃ v L, o = .returned v ∧ QRC Z a h0 n0 v U'.heap L ∧ FrameEnd U o U' L ({ frames := 1, cells := 0, slots := 0, locals := 12 } : Room).cells ({ frames := 1, cells := 0, slots := 0, locals := 12 } : Room).slots) := by
  refine MetFree.of_bodySF (plainFor_of_name pn_0) hisR ?_
  intro p e s m args below meth c s₁ Bd hml0 hP hK
  obtain ⟨rfl, hZ, hh⟩ := hP
  have hx := Bd.exec
  have hby := Bd.bytes
  have hml : c.maxLocals = 1 := hml0
  have hown : s.vm.findClass "java/lang/Record" = some m.cls := findClass_of_methodNamed Bd.named
  have hnm := (name_of_methodNamed Bd.named Bd.method).1
  have X0 : Stand p l e ({ frames := 1, cells := 0, slots := 0, locals := 12 } : Room) s m #[(.ref a)] below meth c s₁ [] 0 0 := Stand.of_body Bd
  have e0 : s₁.heap = h0 := by rw [← hh, Bd.state]; rfl
  have N0 := Fr.nil n0
  obtain ⟨E0, hE0⟩ : ∃ z, z = s₁.setTop (entryFrame m #[(.ref a)] 1) := ⟨_, rfl⟩
  rw [← hE0]
  have go0 : ∀ tgt, Steps p.tables e below (s₁.setTop (mkF m 0 #[.val (.ref a)] [])) tgt → Steps p.tables e below E0 tgt := fun tgt kont => by rw [hE0]; exact castTop (ef_RC m a) kont
  have go1 : ∀ tgt, Steps p.tables e below (s₁.setTop (mkF m 1 #[.val (.ref a)] [(.ref a)])) tgt → Steps p.tables e below E0 tgt := fun tgt kont => go0 tgt (by
    show Steps p.tables e below (s₁.setTop (mkF m 0 #[.val (.ref a)] [])) tgt
    refine XS.aloadN X0.here hx rfl (hb hby dRC_0) rfl rfl ?_
    exact kont)
  obtain ⟨T2, X2, e2, st2⟩ := initO X0 hx hZ hown (hw _ (List.mem_of_getElem? (i := 41) rfl)) (hw _ (List.mem_of_getElem? (i := 12) rfl)) (hw _ (List.mem_of_getElem? (i := 13) rfl)) e0 (g := (mkF m 1 #[.val (.ref a)] [(.ref a)])) rfl (by rw [hml]; rfl) rfl (hb hby dRC_1) (by decide) (W := 0) (by show 2 * 0 + _ ≤ _; exact Nat.le_of_eq rfl) (by decide)
  have go2 : ∀ tgt, Steps p.tables e below (T2.setTop (mkF m 4 #[.val (.ref a)] [])) tgt → Steps p.tables e below E0 tgt := fun tgt kont => go1 tgt (st2 tgt kont)
  obtain ⟨fs, hr, hrun, hended, hW, hsame⟩ := X2.leave (v := none) (fun _ => rfl)
  refine ⟨_, _, go2 _ ?_, hrun, hended, _, _, rfl, ?_, ⟨_, rfl⟩, hW, hsame.mono (by decide) (by decide)⟩
  · show Steps p.tables e below (T2.setTop (mkF m 4 #[.val (.ref a)] [])) _
    exact X2.returnOut hx Bd.returns (hb hby dRC_4) hr
  · show QRC Z a h0 n0 _ T2.heap _
    rw [e2]
    exact ⟨rfl, N0, rfl⟩
theorem pd_1 : parseMethodDescriptor "()V" = some ⟨[], none⟩ := by decide +kernel
theorem pn_2 : plainName "com/example/turnwise/turnwise/script/Position" = true := by first | (simp [plainName, overriddenIn]; done) | decide +kernel
theorem dPI_0 : decode prog_49_method_1_code 0 = .ok (.aload_n 0, 1) := by decide +kernel
theorem dPI_1 : decode prog_49_method_1_code 1 = .ok (.invokespecial 1, 3) := by decide +kernel
theorem dPI_4 : decode prog_49_method_1_code 4 = .ok (.aload_n 0, 1) := by decide +kernel
theorem dPI_5 : decode prog_49_method_1_code 5 = .ok (.aload_n 1, 1) := by decide +kernel
theorem dPI_6 : decode prog_49_method_1_code 6 = .ok (.putfield 7, 3) := by decide +kernel
theorem dPI_9 : decode prog_49_method_1_code 9 = .ok (.aload_n 0, 1) := by decide +kernel
theorem dPI_10 : decode prog_49_method_1_code 10 = .ok (.iload_n 2, 1) := by decide +kernel
theorem dPI_11 : decode prog_49_method_1_code 11 = .ok (.putfield 13, 3) := by decide +kernel
theorem dPI_14 : decode prog_49_method_1_code 14 = .ok (.return_, 1) := by decide +kernel
theorem ef_PI (m : MethodId) (x0 : Addr) (x1 : Value) (x2 : Int32) (hv1 : x1.isRef = true) : entryFrame m #[(.ref x0), x1, (.int x2)] 3 = mkF m 0 #[.val (.ref x0), .val x1, .val (.int x2)] [] := by
  rcases ref_cases hv1 with rfl | ⟨_, rfl⟩ <;> first | (simp [entryFrame, mkF, argsToLocals, Value.category, maxLocals]; done) | rfl
def QPI (Z : State) (a : Addr) (vn : Value) (st : Int32) (h0 : Heap) (n0 : Nat) (v : Option Value) (h : Heap) (L : List Loc) : Prop := v = none ∧ Fr n0 L ∧ Keep h0 h [a] ∧ Exa Z h a "com/example/turnwise/turnwise/script/Position"
set_option maxRecDepth 65536 in
set_option maxHeartbeats 40000000 in
theorem rmPI (l : Launch) (Z : State) (a0 : Array Value) (hw : ∀ d ∈ tables_1, d.before a0 Z = true) (ws : List Jvm.Cond) (a : Addr) (vn : Value) (st : Int32) (h0 : Heap) (n0 : Nat) (Z0 : n0 ≤ h0.size) (hvn : vn.isRef = true) (Ea : Exa Z h0 a "com/example/turnwise/turnwise/script/Position") (ga : n0 ≤ a) (Fn : Fld Z h0 a "com/example/turnwise/turnwise/script/Position" "node" "Ljava/lang/String;" .null) (Fs : Fld Z h0 a "com/example/turnwise/turnwise/script/Position" "step" "I" (.int (0 : Int32))) :
    MetFree l (⟨"com/example/turnwise/turnwise/script/Position", "<init>", "(Ljava/lang/String;I)V"⟩ : MethodName) (head1 (Jvm.Cond.code (⟨"com/example/turnwise/turnwise/script/Position", "<init>", "(Ljava/lang/String;I)V"⟩ : MethodName) prog_49_method_1_code 3 none :: ws) ({ frames := 2, cells := 0, slots := 0, locals := 24 } : Room)) (fun as_ U => as_ = #[(.ref a), vn, (.int st)] ∧ Z.Warmed39 U.vm ∧ U.heap = h0) (fun _ _ _ _ _ => True) (fun _ U o U' => ∃ v L, o = .returned v ∧ QPI Z a vn st h0 n0 v U'.heap L ∧ FrameEnd U o U' L ({ frames := 2, cells := 0, slots := 0, locals := 24 } : Room).cells ({ frames := 2, cells := 0, slots := 0, locals := 24 } : Room).slots) := by
  refine MetFree.of_bodySF (plainFor_of_name pn_2) hisR ?_
  intro p e s m args below meth c s₁ Bd hml0 hP hK
  obtain ⟨rfl, hZ, hh⟩ := hP
  have hx := Bd.exec
  have hby := Bd.bytes
  have hml : c.maxLocals = 3 := hml0
  have hown : s.vm.findClass "com/example/turnwise/turnwise/script/Position" = some m.cls := findClass_of_methodNamed Bd.named
  have hnm := (name_of_methodNamed Bd.named Bd.method).1
  have X0 : Stand p l e ({ frames := 2, cells := 0, slots := 0, locals := 24 } : Room) s m #[(.ref a), vn, (.int st)] below meth c s₁ [] 0 0 := Stand.of_body Bd
  have e0 : s₁.heap = h0 := by rw [← hh, Bd.state]; rfl
  have N0 := Fr.nil n0
  obtain ⟨E0, hE0⟩ : ∃ z, z = s₁.setTop (entryFrame m #[(.ref a), vn, (.int st)] 3) := ⟨_, rfl⟩
  rw [← hE0]
  have go0 : ∀ tgt, Steps p.tables e below (s₁.setTop (mkF m 0 #[.val (.ref a), .val vn, .val (.int st)] [])) tgt → Steps p.tables e below E0 tgt := fun tgt kont => by rw [hE0]; exact castTop (ef_PI m a vn st hvn) kont
  have go1 : ∀ tgt, Steps p.tables e below (s₁.setTop (mkF m 1 #[.val (.ref a), .val vn, .val (.int st)] [(.ref a)])) tgt → Steps p.tables e below E0 tgt := fun tgt kont => go0 tgt (by
    show Steps p.tables e below (s₁.setTop (mkF m 0 #[.val (.ref a), .val vn, .val (.int st)] [])) tgt
    refine XS.aloadN X0.here hx rfl (hb hby dPI_0) rfl rfl ?_
    exact kont)
  obtain ⟨_, _, ⟨T2, L2, k2, n2⟩, -, X2, ⟨Lc2, hQ2, l2, y2, z2⟩, st2⟩ := X0.specialBack hx (y := (⟨"java/lang/Record", "<init>", "()V"⟩ : MethodName)) rfl hown (mvT hZ (hw _ (List.mem_of_getElem? (i := 36) rfl))) (mvT hZ (hw _ (List.mem_of_getElem? (i := 37) rfl))) (mvT hZ (hw _ (List.mem_of_getElem? (i := 40) rfl))) (by decide) (backOf (W := 0) (rmRC l Z a0 hw [] a h0 n0 Z0 ) hZ (hw _ (List.mem_of_getElem? (i := 40) rfl)) (hw _ (List.mem_of_getElem? (i := 39) rfl)) (by decide) (by decide)) (g := (mkF m 1 #[.val (.ref a), .val vn, .val (.int st)] [(.ref a)])) rfl (by rw [hml]; rfl) (Steps.refl _) (a := a) (argsL := []) (rest := []) (lenOf pd_1 rfl) rfl (by show 2 * 0 + _ ≤ _; exact Nat.le_of_eq rfl) (hb hby dPI_1) (fun _ _ => ⟨rfl, e0, (by decide : 0 + 0 ≤ _), (by decide : 0 + 0 ≤ _)⟩)
  dsimp only [Pt.U, Pt.locs, Pt.cells, Pt.slots] at X2 l2 y2 z2 st2 hQ2
  subst l2 y2 z2
  obtain ⟨rfl, N2q, e2⟩ := hQ2
  have N2 := Fr.app N0 N2q
  have go2 : ∀ tgt, Steps p.tables e below (T2.setTop (mkF m 4 #[.val (.ref a), .val vn, .val (.int st)] [])) tgt → Steps p.tables e below E0 tgt := fun tgt kont => go1 tgt (st2.trans kont)
  have go3 : ∀ tgt, Steps p.tables e below (T2.setTop (mkF m 6 #[.val (.ref a), .val vn, .val (.int st)] [vn, (.ref a)])) tgt → Steps p.tables e below E0 tgt := fun tgt kont => go2 tgt (by
    show Steps p.tables e below (T2.setTop (mkF m 4 #[.val (.ref a), .val vn, .val (.int st)] [])) tgt
    refine XS.aloadN X2.here hx rfl (hb hby dPI_4) rfl rfl ?_
    show Steps p.tables e below (T2.setTop (mkF m 5 #[.val (.ref a), .val vn, .val (.int st)] [(.ref a)])) tgt
    refine XS.aloadN X2.here hx rfl (hb hby dPI_5) rfl hvn ?_
    exact kont)
  obtain ⟨T4, h4, X4, e4, W4, st4⟩ := putF X2 hx hZ hown (host := "") (Or.inl (hw _ (List.mem_of_getElem? (i := 42) rfl))) Via.refl e2 Fn Ea (Or.inr ⟨(hw _ (List.mem_of_getElem? (i := 43) rfl)), rfl, hnm⟩) (hw _ (List.mem_of_getElem? (i := 31) rfl)) (ty := (.object "java/lang/String")) (by decide) (own_nar hvn rfl) (own_fit hvn rfl) (g := (mkF m 6 #[.val (.ref a), .val vn, .val (.int st)] [vn, (.ref a)])) rfl rfl (hb hby dPI_6)
  have z5 : n0 ≤ h4.size := Nat.le_trans Z0 (Keep.of_wr W4).1
  have K6 : Keep h0 h4 [a] := (Keep.refl h0 [a]).wr W4 (Or.inl (List.mem_of_getElem? (i := 0) rfl))
  have N4 := Fr.snoc X4 N2 ga
  have f7 : Fld Z h4 a "com/example/turnwise/turnwise/script/Position" "node" "Ljava/lang/String;" vn := (Fn.same W4)
  have go4 : ∀ tgt, Steps p.tables e below (T4.setTop (mkF m 9 #[.val (.ref a), .val vn, .val (.int st)] [])) tgt → Steps p.tables e below E0 tgt := fun tgt kont => go3 tgt (st4 tgt kont)
  have go8 : ∀ tgt, Steps p.tables e below (T4.setTop (mkF m 11 #[.val (.ref a), .val vn, .val (.int st)] [(.int st), (.ref a)])) tgt → Steps p.tables e below E0 tgt := fun tgt kont => go4 tgt (by
    show Steps p.tables e below (T4.setTop (mkF m 9 #[.val (.ref a), .val vn, .val (.int st)] [])) tgt
    refine XS.aloadN X4.here hx rfl (hb hby dPI_9) rfl rfl ?_
    show Steps p.tables e below (T4.setTop (mkF m 10 #[.val (.ref a), .val vn, .val (.int st)] [(.ref a)])) tgt
    refine XS.iloadN X4.here hx rfl (hb hby dPI_10) rfl ?_
    exact kont)
  have f9 : Fld Z h4 a "com/example/turnwise/turnwise/script/Position" "step" "I" (.int (0 : Int32)) := (Fs.other W4 (Or.inr (slot_ne (Or.inr (hw _ (List.mem_of_getElem? (i := 45) rfl))) (Or.inr (hw _ (List.mem_of_getElem? (i := 43) rfl))) (by decide) (t := .int) (t' := (.object "java/lang/String")) (by decide) (by decide))))
  have f10 : Exa Z h4 a "com/example/turnwise/turnwise/script/Position" := (Ea.wr W4)
  obtain ⟨T11, h11, X11, e11, W11, st11⟩ := putF X4 hx hZ hown (host := "") (Or.inl (hw _ (List.mem_of_getElem? (i := 44) rfl))) Via.refl e4 f9 f10 (Or.inr ⟨(hw _ (List.mem_of_getElem? (i := 45) rfl)), rfl, hnm⟩) (hw _ (List.mem_of_getElem? (i := 31) rfl)) (ty := .int) (by decide) rfl rfl (g := (mkF m 11 #[.val (.ref a), .val vn, .val (.int st)] [(.int st), (.ref a)])) rfl rfl (hb hby dPI_11)
  have z12 : n0 ≤ h11.size := Nat.le_trans z5 (Keep.of_wr W11).1
  have K13 : Keep h0 h11 [a] := K6.wr W11 (Or.inl (List.mem_of_getElem? (i := 0) rfl))
  have N11 := Fr.snoc X11 N4 ga
  have f14 : Fld Z h11 a "com/example/turnwise/turnwise/script/Position" "step" "I" (.int st) := (f9.same W11)
  have go11 : ∀ tgt, Steps p.tables e below (T11.setTop (mkF m 14 #[.val (.ref a), .val vn, .val (.int st)] [])) tgt → Steps p.tables e below E0 tgt := fun tgt kont => go8 tgt (st11 tgt kont)
  have f15 : Exa Z h11 a "com/example/turnwise/turnwise/script/Position" := (f10.wr W11)
  obtain ⟨fs, hr, hrun, hended, hW, hsame⟩ := X11.leave (v := none) (fun _ => rfl)
  refine ⟨_, _, go11 _ ?_, hrun, hended, _, _, rfl, ?_, ⟨_, rfl⟩, hW, hsame.mono (by decide) (by decide)⟩
  · show Steps p.tables e below (T11.setTop (mkF m 14 #[.val (.ref a), .val vn, .val (.int st)] [])) _
    exact X11.returnOut hx Bd.returns (hb hby dPI_14) hr
  · show QPI Z a vn st h0 n0 _ T11.heap _
    rw [e11]
    exact ⟨rfl, N11, K13, f15⟩
theorem pn_3 : plainName "java/util/Map" = true := by first | (simp [plainName, overriddenIn]; done) | decide +kernel
theorem dMO_0 : decode jdk_72_method_26_code 0 = .ok (.getstatic 81, 3) := by decide +kernel
theorem dMO_3 : decode jdk_72_method_26_code 3 = .ok (.areturn, 1) := by decide +kernel
theorem ef_MO (m : MethodId) : entryFrame m #[] 0 = mkF m 0 #[] [] := by first | (simp [entryFrame, mkF, argsToLocals, Value.category, maxLocals]; done) | rfl
def QMO (Z : State) (g : Addr) (h0 : Heap) (n0 : Nat) (v : Option Value) (h : Heap) (L : List Loc) : Prop := v = some (.ref g) ∧ Fr n0 L ∧ h = h0
set_option maxRecDepth 65536 in
set_option maxHeartbeats 40000000 in
theorem rmMO (l : Launch) (Z : State) (a0 : Array Value) (hw : ∀ d ∈ tables_1, d.before a0 Z = true) (ws : List Jvm.Cond) (g : Addr) (h0 : Heap) (n0 : Nat) (Z0 : n0 ≤ h0.size) (Sg : Sta Z h0 "java/util/ImmutableCollections" "EMPTY_MAP" "Ljava/util/ImmutableCollections$MapN;" (.ref g)) :
    MetFree l (⟨"java/util/Map", "of", "()Ljava/util/Map;"⟩ : MethodName) (head1 (Jvm.Cond.code (⟨"java/util/Map", "of", "()Ljava/util/Map;"⟩ : MethodName) jdk_72_method_26_code 0 (some (.object "java/util/Map")) :: ws) ({ frames := 0, cells := 0, slots := 0, locals := 0 } : Room)) (fun as_ U => as_ = #[] ∧ Z.Warmed39 U.vm ∧ U.heap = h0) (fun _ _ _ _ _ => True) (fun _ U o U' => ∃ v L, o = .returned v ∧ QMO Z g h0 n0 v U'.heap L ∧ FrameEnd U o U' L ({ frames := 0, cells := 0, slots := 0, locals := 0 } : Room).cells ({ frames := 0, cells := 0, slots := 0, locals := 0 } : Room).slots) := by
  refine MetFree.of_bodySF (plainFor_of_name pn_3) hisR ?_
  intro p e s m args below meth c s₁ Bd hml0 hP hK
  obtain ⟨rfl, hZ, hh⟩ := hP
  have hx := Bd.exec
  have hby := Bd.bytes
  have hml : c.maxLocals = 0 := hml0
  have hown : s.vm.findClass "java/util/Map" = some m.cls := findClass_of_methodNamed Bd.named
  have hnm := (name_of_methodNamed Bd.named Bd.method).1
  have X0 : Stand p l e ({ frames := 0, cells := 0, slots := 0, locals := 0 } : Room) s m #[] below meth c s₁ [] 0 0 := Stand.of_body Bd
  have e0 : s₁.heap = h0 := by rw [← hh, Bd.state]; rfl
  have N0 := Fr.nil n0
  obtain ⟨E0, hE0⟩ : ∃ z, z = s₁.setTop (entryFrame m #[] 0) := ⟨_, rfl⟩
  rw [← hE0]
  have go0 : ∀ tgt, Steps p.tables e below (s₁.setTop (mkF m 0 #[] [])) tgt → Steps p.tables e below E0 tgt := fun tgt kont => by rw [hE0]; exact castTop (ef_MO m ) kont
  obtain ⟨T1, X1, e1, st1⟩ := getS2 X0 hx hZ hown (host := "") (Or.inl (hw _ (List.mem_of_getElem? (i := 57) rfl))) Via.refl e0 Sg (g := (mkF m 0 #[] [])) rfl (hb hby dMO_0)
  have go1 : ∀ tgt, Steps p.tables e below (T1.setTop (mkF m 3 #[] [(.ref g)])) tgt → Steps p.tables e below E0 tgt := fun tgt kont => go0 tgt (st1 tgt kont)
  obtain ⟨fs, hr, hrun, hended, hW, hsame⟩ := X1.leave (v := some (.ref g)) (fun h => by rw [Bd.returns] at h; cases h)
  refine ⟨_, _, go1 _ ?_, hrun, hended, _, _, rfl, ?_, ⟨_, rfl⟩, hW, hsame.mono (by decide) (by decide)⟩
  · show Steps p.tables e below (T1.setTop (mkF m 3 #[] [(.ref g)])) _
    exact retOut X1 hx Bd.returns rfl (Or.inr (Or.inr (Or.inr (Or.inr ⟨rfl, rfl, rfl⟩)))) (hb hby dMO_3) hr
  · show QMO Z g h0 n0 _ T1.heap _
    rw [e1]
    exact ⟨rfl, N0, rfl⟩
theorem pn_4 : plainName "java/util/List" = true := by first | (simp [plainName, overriddenIn]; done) | decide +kernel
theorem dLO_0 : decode jdk_40_method_36_code 0 = .ok (.getstatic 90, 3) := by decide +kernel
theorem dLO_3 : decode jdk_40_method_36_code 3 = .ok (.areturn, 1) := by decide +kernel
theorem ef_LO (m : MethodId) : entryFrame m #[] 0 = mkF m 0 #[] [] := by first | (simp [entryFrame, mkF, argsToLocals, Value.category, maxLocals]; done) | rfl
def QLO (Z : State) (g : Addr) (h0 : Heap) (n0 : Nat) (v : Option Value) (h : Heap) (L : List Loc) : Prop := v = some (.ref g) ∧ Fr n0 L ∧ h = h0
set_option maxRecDepth 65536 in
set_option maxHeartbeats 40000000 in
theorem rmLO (l : Launch) (Z : State) (a0 : Array Value) (hw : ∀ d ∈ tables_1, d.before a0 Z = true) (ws : List Jvm.Cond) (g : Addr) (h0 : Heap) (n0 : Nat) (Z0 : n0 ≤ h0.size) (Sg : Sta Z h0 "java/util/ImmutableCollections" "EMPTY_LIST" "Ljava/util/ImmutableCollections$ListN;" (.ref g)) :
    MetFree l (⟨"java/util/List", "of", "()Ljava/util/List;"⟩ : MethodName) (head1 (Jvm.Cond.code (⟨"java/util/List", "of", "()Ljava/util/List;"⟩ : MethodName) jdk_40_method_36_code 0 (some (.object "java/util/List")) :: ws) ({ frames := 0, cells := 0, slots := 0, locals := 0 } : Room)) (fun as_ U => as_ = #[] ∧ Z.Warmed39 U.vm ∧ U.heap = h0) (fun _ _ _ _ _ => True) (fun _ U o U' => ∃ v L, o = .returned v ∧ QLO Z g h0 n0 v U'.heap L ∧ FrameEnd U o U' L ({ frames := 0, cells := 0, slots := 0, locals := 0 } : Room).cells ({ frames := 0, cells := 0, slots := 0, locals := 0 } : Room).slots) := by
  refine MetFree.of_bodySF (plainFor_of_name pn_4) hisR ?_
  intro p e s m args below meth c s₁ Bd hml0 hP hK
  obtain ⟨rfl, hZ, hh⟩ := hP
  have hx := Bd.exec
  have hby := Bd.bytes
  have hml : c.maxLocals = 0 := hml0
  have hown : s.vm.findClass "java/util/List" = some m.cls := findClass_of_methodNamed Bd.named
  have hnm := (name_of_methodNamed Bd.named Bd.method).1
  have X0 : Stand p l e ({ frames := 0, cells := 0, slots := 0, locals := 0 } : Room) s m #[] below meth c s₁ [] 0 0 := Stand.of_body Bd
  have e0 : s₁.heap = h0 := by rw [← hh, Bd.state]; rfl
  have N0 := Fr.nil n0
  obtain ⟨E0, hE0⟩ : ∃ z, z = s₁.setTop (entryFrame m #[] 0) := ⟨_, rfl⟩
  rw [← hE0]
  have go0 : ∀ tgt, Steps p.tables e below (s₁.setTop (mkF m 0 #[] [])) tgt → Steps p.tables e below E0 tgt := fun tgt kont => by rw [hE0]; exact castTop (ef_LO m ) kont
  obtain ⟨T1, X1, e1, st1⟩ := getS2 X0 hx hZ hown (host := "") (Or.inl (hw _ (List.mem_of_getElem? (i := 63) rfl))) Via.refl e0 Sg (g := (mkF m 0 #[] [])) rfl (hb hby dLO_0)
  have go1 : ∀ tgt, Steps p.tables e below (T1.setTop (mkF m 3 #[] [(.ref g)])) tgt → Steps p.tables e below E0 tgt := fun tgt kont => go0 tgt (st1 tgt kont)
  obtain ⟨fs, hr, hrun, hended, hW, hsame⟩ := X1.leave (v := some (.ref g)) (fun h => by rw [Bd.returns] at h; cases h)
  refine ⟨_, _, go1 _ ?_, hrun, hended, _, _, rfl, ?_, ⟨_, rfl⟩, hW, hsame.mono (by decide) (by decide)⟩
  · show Steps p.tables e below (T1.setTop (mkF m 3 #[] [(.ref g)])) _
    exact retOut X1 hx Bd.returns rfl (Or.inr (Or.inr (Or.inr (Or.inr ⟨rfl, rfl, rfl⟩)))) (hb hby dLO_3) hr
  · show QLO Z g h0 n0 _ T1.heap _
    rw [e1]
    exact ⟨rfl, N0, rfl⟩
theorem pd_5 : parseMethodDescriptor "()Ljava/util/Map;" = some ⟨[], some (.object "java/util/Map")⟩ := by decide +kernel
theorem pd_6 : parseMethodDescriptor "()Ljava/util/List;" = some ⟨[], some (.object "java/util/List")⟩ := by decide +kernel
theorem pn_7 : plainName "com/example/turnwise/turnwise/engine/Reply" = true := by first | (simp [plainName, overriddenIn]; done) | decide +kernel
theorem dRI_0 : decode prog_33_method_1_code 0 = .ok (.aload_n 0, 1) := by decide +kernel
theorem dRI_1 : decode prog_33_method_1_code 1 = .ok (.invokespecial 1, 3) := by decide +kernel
theorem dRI_4 : decode prog_33_method_1_code 4 = .ok (.aload 5, 2) := by decide +kernel
theorem dRI_6 : decode prog_33_method_1_code 6 = .ok (.ifnonnull 9, 3) := by decide +kernel
theorem dRI_9 : decode prog_33_method_1_code 9 = .ok (.invokestatic 7, 3) := by decide +kernel
theorem dRI_12 : decode prog_33_method_1_code 12 = .ok (.goto 8, 3) := by decide +kernel
theorem dRI_20 : decode prog_33_method_1_code 20 = .ok (.astore 5, 2) := by decide +kernel
theorem dRI_22 : decode prog_33_method_1_code 22 = .ok (.aload 6, 2) := by decide +kernel
theorem dRI_24 : decode prog_33_method_1_code 24 = .ok (.ifnonnull 9, 3) := by decide +kernel
theorem dRI_27 : decode prog_33_method_1_code 27 = .ok (.invokestatic 17, 3) := by decide +kernel
theorem dRI_30 : decode prog_33_method_1_code 30 = .ok (.goto 8, 3) := by decide +kernel
theorem dRI_38 : decode prog_33_method_1_code 38 = .ok (.astore 6, 2) := by decide +kernel
theorem dRI_40 : decode prog_33_method_1_code 40 = .ok (.aload_n 0, 1) := by decide +kernel
theorem dRI_41 : decode prog_33_method_1_code 41 = .ok (.iload_n 1, 1) := by decide +kernel
theorem dRI_42 : decode prog_33_method_1_code 42 = .ok (.putfield 25, 3) := by decide +kernel
theorem dRI_45 : decode prog_33_method_1_code 45 = .ok (.aload_n 0, 1) := by decide +kernel
theorem dRI_46 : decode prog_33_method_1_code 46 = .ok (.aload_n 2, 1) := by decide +kernel
theorem dRI_47 : decode prog_33_method_1_code 47 = .ok (.putfield 31, 3) := by decide +kernel
theorem dRI_50 : decode prog_33_method_1_code 50 = .ok (.aload_n 0, 1) := by decide +kernel
theorem dRI_51 : decode prog_33_method_1_code 51 = .ok (.aload_n 3, 1) := by decide +kernel
theorem dRI_52 : decode prog_33_method_1_code 52 = .ok (.putfield 35, 3) := by decide +kernel
theorem dRI_55 : decode prog_33_method_1_code 55 = .ok (.aload_n 0, 1) := by decide +kernel
theorem dRI_56 : decode prog_33_method_1_code 56 = .ok (.aload 4, 2) := by decide +kernel
theorem dRI_58 : decode prog_33_method_1_code 58 = .ok (.putfield 39, 3) := by decide +kernel
theorem dRI_61 : decode prog_33_method_1_code 61 = .ok (.aload_n 0, 1) := by decide +kernel
theorem dRI_62 : decode prog_33_method_1_code 62 = .ok (.aload 5, 2) := by decide +kernel
theorem dRI_64 : decode prog_33_method_1_code 64 = .ok (.putfield 42, 3) := by decide +kernel
theorem dRI_67 : decode prog_33_method_1_code 67 = .ok (.aload_n 0, 1) := by decide +kernel
theorem dRI_68 : decode prog_33_method_1_code 68 = .ok (.aload 6, 2) := by decide +kernel
theorem dRI_70 : decode prog_33_method_1_code 70 = .ok (.putfield 46, 3) := by decide +kernel
theorem dRI_73 : decode prog_33_method_1_code 73 = .ok (.return_, 1) := by decide +kernel
theorem ef_RI (m : MethodId) (x0 : Addr) (x1 : Int32) (x2 : Value) (x3 : Value) (x4 : Value) (hv2 : x2.isRef = true) (hv3 : x3.isRef = true) (hv4 : x4.isRef = true) : entryFrame m #[(.ref x0), (.int x1), x2, x3, x4, .null, .null] 7 = mkF m 0 #[.val (.ref x0), .val (.int x1), .val x2, .val x3, .val x4, .val .null, .val .null] [] := by
  rcases ref_cases hv2 with rfl | ⟨_, rfl⟩ <;>
  rcases ref_cases hv3 with rfl | ⟨_, rfl⟩ <;>
  rcases ref_cases hv4 with rfl | ⟨_, rfl⟩ <;> first | (simp [entryFrame, mkF, argsToLocals, Value.category, maxLocals]; done) | rfl
def QRI (Z : State) (a : Addr) (i : Int32) (vt : Value) (vn : Value) (vl : Value) (gm : Addr) (gl : Addr) (h0 : Heap) (n0 : Nat) (v : Option Value) (h : Heap) (L : List Loc) : Prop := v = none ∧ Fr n0 L ∧ Keep h0 h [a] ∧ Exa Z h a "com/example/turnwise/turnwise/engine/Reply" ∧ Fld Z h a "com/example/turnwise/turnwise/engine/Reply" "next" "Lcom/example/turnwise/turnwise/script/Position;" vn
set_option maxRecDepth 65536 in
set_option maxHeartbeats 40000000 in
theorem rmRI (l : Launch) (Z : State) (a0 : Array Value) (hw : ∀ d ∈ tables_1, d.before a0 Z = true) (ws : List Jvm.Cond) (a : Addr) (i : Int32) (vt : Value) (vn : Value) (vl : Value) (gm : Addr) (gl : Addr) (h0 : Heap) (n0 : Nat) (Z0 : n0 ≤ h0.size) (hvt : vt.isRef = true) (hvn : vn.isRef = true) (hvl : vl.isRef = true) (Ea : Exa Z h0 a "com/example/turnwise/turnwise/engine/Reply") (ga : n0 ≤ a) (Fid : Fld Z h0 a "com/example/turnwise/turnwise/engine/Reply" "id" "I" (.int (0 : Int32))) (Ftext : Fld Z h0 a "com/example/turnwise/turnwise/engine/Reply" "text" "Ljava/lang/String;" .null) (Fnext : Fld Z h0 a "com/example/turnwise/turnwise/engine/Reply" "next" "Lcom/example/turnwise/turnwise/script/Position;" .null) (FnextLine : Fld Z h0 a "com/example/turnwise/turnwise/engine/Reply" "nextLine" "Ljava/lang/String;" .null) (Fsets : Fld Z h0 a "com/example/turnwise/turnwise/engine/Reply" "sets" "Ljava/util/Map;" .null) (Factions : Fld Z h0 a "com/example/turnwise/turnwise/engine/Reply" "actions" "Ljava/util/List;" .null) (SM : Sta Z h0 "java/util/ImmutableCollections" "EMPTY_MAP" "Ljava/util/ImmutableCollections$MapN;" (.ref gm)) (SL : Sta Z h0 "java/util/ImmutableCollections" "EMPTY_LIST" "Ljava/util/ImmutableCollections$ListN;" (.ref gl)) :
    MetFree l (⟨"com/example/turnwise/turnwise/engine/Reply", "<init>", "(ILjava/lang/String;Lcom/example/turnwise/turnwise/script/Position;Ljava/lang/String;Ljava/util/Map;Ljava/util/List;)V"⟩ : MethodName) (head1 (Jvm.Cond.code (⟨"com/example/turnwise/turnwise/engine/Reply", "<init>", "(ILjava/lang/String;Lcom/example/turnwise/turnwise/script/Position;Ljava/lang/String;Ljava/util/Map;Ljava/util/List;)V"⟩ : MethodName) prog_33_method_1_code 7 none :: ws) ({ frames := 2, cells := 0, slots := 0, locals := 24 } : Room)) (fun as_ U => as_ = #[(.ref a), (.int i), vt, vn, vl, .null, .null] ∧ Z.Warmed39 U.vm ∧ U.heap = h0) (fun _ _ _ _ _ => True) (fun _ U o U' => ∃ v L, o = .returned v ∧ QRI Z a i vt vn vl gm gl h0 n0 v U'.heap L ∧ FrameEnd U o U' L ({ frames := 2, cells := 0, slots := 0, locals := 24 } : Room).cells ({ frames := 2, cells := 0, slots := 0, locals := 24 } : Room).slots) := by
  refine MetFree.of_bodySF (plainFor_of_name pn_7) hisR ?_
  intro p e s m args below meth c s₁ Bd hml0 hP hK
  obtain ⟨rfl, hZ, hh⟩ := hP
  have hx := Bd.exec
  have hby := Bd.bytes
  have hml : c.maxLocals = 7 := hml0
  have hown : s.vm.findClass "com/example/turnwise/turnwise/engine/Reply" = some m.cls := findClass_of_methodNamed Bd.named
  have hnm := (name_of_methodNamed Bd.named Bd.method).1
  have X0 : Stand p l e ({ frames := 2, cells := 0, slots := 0, locals := 24 } : Room) s m #[(.ref a), (.int i), vt, vn, vl, .null, .null] below meth c s₁ [] 0 0 := Stand.of_body Bd
  have e0 : s₁.heap = h0 := by rw [← hh, Bd.state]; rfl
  have N0 := Fr.nil n0
  obtain ⟨E0, hE0⟩ : ∃ z, z = s₁.setTop (entryFrame m #[(.ref a), (.int i), vt, vn, vl, .null, .null] 7) := ⟨_, rfl⟩
  rw [← hE0]
  have go0 : ∀ tgt, Steps p.tables e below (s₁.setTop (mkF m 0 #[.val (.ref a), .val (.int i), .val vt, .val vn, .val vl, .val .null, .val .null] [])) tgt → Steps p.tables e below E0 tgt := fun tgt kont => by rw [hE0]; exact castTop (ef_RI m a i vt vn vl hvt hvn hvl) kont
  have go1 : ∀ tgt, Steps p.tables e below (s₁.setTop (mkF m 1 #[.val (.ref a), .val (.int i), .val vt, .val vn, .val vl, .val .null, .val .null] [(.ref a)])) tgt → Steps p.tables e below E0 tgt := fun tgt kont => go0 tgt (by
    show Steps p.tables e below (s₁.setTop (mkF m 0 #[.val (.ref a), .val (.int i), .val vt, .val vn, .val vl, .val .null, .val .null] [])) tgt
    refine XS.aloadN X0.here hx rfl (hb hby dRI_0) rfl rfl ?_
    exact kont)
  obtain ⟨_, _, ⟨T2, L2, k2, n2⟩, -, X2, ⟨Lc2, hQ2, l2, y2, z2⟩, st2⟩ := X0.specialBack hx (y := (⟨"java/lang/Record", "<init>", "()V"⟩ : MethodName)) rfl hown (mvT hZ (hw _ (List.mem_of_getElem? (i := 52) rfl))) (mvT hZ (hw _ (List.mem_of_getElem? (i := 37) rfl))) (mvT hZ (hw _ (List.mem_of_getElem? (i := 40) rfl))) (by decide) (backOf (W := 0) (rmRC l Z a0 hw [] a h0 n0 Z0 ) hZ (hw _ (List.mem_of_getElem? (i := 40) rfl)) (hw _ (List.mem_of_getElem? (i := 39) rfl)) (by decide) (by decide)) (g := (mkF m 1 #[.val (.ref a), .val (.int i), .val vt, .val vn, .val vl, .val .null, .val .null] [(.ref a)])) rfl (by rw [hml]; rfl) (Steps.refl _) (a := a) (argsL := []) (rest := []) (lenOf pd_1 rfl) rfl (by show 2 * 0 + _ ≤ _; exact Nat.le_of_eq rfl) (hb hby dRI_1) (fun _ _ => ⟨rfl, e0, (by decide : 0 + 0 ≤ _), (by decide : 0 + 0 ≤ _)⟩)
  dsimp only [Pt.U, Pt.locs, Pt.cells, Pt.slots] at X2 l2 y2 z2 st2 hQ2
  subst l2 y2 z2
  obtain ⟨rfl, N2q, e2⟩ := hQ2
  have N2 := Fr.app N0 N2q
  have go2 : ∀ tgt, Steps p.tables e below (T2.setTop (mkF m 4 #[.val (.ref a), .val (.int i), .val vt, .val vn, .val vl, .val .null, .val .null] [])) tgt → Steps p.tables e below E0 tgt := fun tgt kont => go1 tgt (st2.trans kont)
  have go3 : ∀ tgt, Steps p.tables e below (T2.setTop (mkF m 9 #[.val (.ref a), .val (.int i), .val vt, .val vn, .val vl, .val .null, .val .null] [])) tgt → Steps p.tables e below E0 tgt := fun tgt kont => go2 tgt (by
    show Steps p.tables e below (T2.setTop (mkF m 4 #[.val (.ref a), .val (.int i), .val vt, .val vn, .val vl, .val .null, .val .null] [])) tgt
    refine XS.aload X2.here hx rfl (hb hby dRI_4) rfl rfl ?_
    show Steps p.tables e below (T2.setTop (mkF m 6 #[.val (.ref a), .val (.int i), .val vt, .val vn, .val vl, .val .null, .val .null] [.null])) tgt
    refine XS.ifnonnullNo X2.here hx rfl (hb hby dRI_6) rfl ?_
    exact kont)
  obtain ⟨_, _, ⟨T4, L4, k4, n4⟩, -, X4, ⟨Lc4, hQ4, l4, y4, z4⟩, st4⟩ := Jvm.LawKit.callS X2 hx (y := (⟨"java/util/Map", "of", "()Ljava/util/Map;"⟩ : MethodName)) hown (mvT hZ (hw _ (List.mem_of_getElem? (i := 53) rfl))) (mvT hZ (hw _ (List.mem_of_getElem? (i := 54) rfl))) (mvT hZ (hw _ (List.mem_of_getElem? (i := 55) rfl))) (mvT hZ (hw _ (List.mem_of_getElem? (i := 56) rfl))) (by decide) (backOf (W := 0) (rmMO l Z a0 hw [] gm h0 n0 Z0 SM) hZ (hw _ (List.mem_of_getElem? (i := 56) rfl)) (hw _ (List.mem_of_getElem? (i := 55) rfl)) (by decide) (by decide)) (g := (mkF m 9 #[.val (.ref a), .val (.int i), .val vt, .val vn, .val vl, .val .null, .val .null] [])) rfl (by rw [hml]; rfl) (argsL := []) (rest := []) (lenOf pd_5 rfl) rfl (by show 2 * 0 + _ ≤ _; exact Nat.le_of_eq rfl) (hb hby dRI_9) (fun _ _ => ⟨rfl, e2, (by decide : 0 + 0 ≤ _), (by decide : 0 + 0 ≤ _)⟩)
  dsimp only [Pt.U, Pt.locs, Pt.cells, Pt.slots] at X4 l4 y4 z4 st4 hQ4
  subst l4 y4 z4
  obtain ⟨rfl, N4q, e4⟩ := hQ4
  have N4 := Fr.app N2 N4q
  have go4 : ∀ tgt, Steps p.tables e below (T4.setTop (mkF m 12 #[.val (.ref a), .val (.int i), .val vt, .val vn, .val vl, .val .null, .val .null] [(.ref gm)])) tgt → Steps p.tables e below E0 tgt := fun tgt kont => go3 tgt (st4 tgt kont)
  have go5 : ∀ tgt, Steps p.tables e below (T4.setTop (mkF m 27 #[.val (.ref a), .val (.int i), .val vt, .val vn, .val vl, .val (.ref gm), .val .null] [])) tgt → Steps p.tables e below E0 tgt := fun tgt kont => go4 tgt (by
    show Steps p.tables e below (T4.setTop (mkF m 12 #[.val (.ref a), .val (.int i), .val vt, .val vn, .val vl, .val .null, .val .null] [(.ref gm)])) tgt
    refine XS.goto X4.here hx rfl (pc0 := 12) (pc' := 20) rfl (hb hby dRI_12) (by decide) (by decide) ?_
    show Steps p.tables e below (T4.setTop (mkF m 20 #[.val (.ref a), .val (.int i), .val vt, .val vn, .val vl, .val .null, .val .null] [(.ref gm)])) tgt
    refine XS.astore X4.here hx rfl (hb hby dRI_20) rfl rfl (l' := #[.val (.ref a), .val (.int i), .val vt, .val vn, .val vl, .val (.ref gm), .val .null]) rfl ?_
    show Steps p.tables e below (T4.setTop (mkF m 22 #[.val (.ref a), .val (.int i), .val vt, .val vn, .val vl, .val (.ref gm), .val .null] [])) tgt
    refine XS.aload X4.here hx rfl (hb hby dRI_22) rfl rfl ?_
    show Steps p.tables e below (T4.setTop (mkF m 24 #[.val (.ref a), .val (.int i), .val vt, .val vn, .val vl, .val (.ref gm), .val .null] [.null])) tgt
    refine XS.ifnonnullNo X4.here hx rfl (hb hby dRI_24) rfl ?_
    exact kont)
  obtain ⟨_, _, ⟨T6, L6, k6, n6⟩, -, X6, ⟨Lc6, hQ6, l6, y6, z6⟩, st6⟩ := Jvm.LawKit.callS X4 hx (y := (⟨"java/util/List", "of", "()Ljava/util/List;"⟩ : MethodName)) hown (mvT hZ (hw _ (List.mem_of_getElem? (i := 59) rfl))) (mvT hZ (hw _ (List.mem_of_getElem? (i := 60) rfl))) (mvT hZ (hw _ (List.mem_of_getElem? (i := 61) rfl))) (mvT hZ (hw _ (List.mem_of_getElem? (i := 62) rfl))) (by decide) (backOf (W := 0) (rmLO l Z a0 hw [] gl h0 n0 Z0 SL) hZ (hw _ (List.mem_of_getElem? (i := 62) rfl)) (hw _ (List.mem_of_getElem? (i := 61) rfl)) (by decide) (by decide)) (g := (mkF m 27 #[.val (.ref a), .val (.int i), .val vt, .val vn, .val vl, .val (.ref gm), .val .null] [])) rfl (by rw [hml]; rfl) (argsL := []) (rest := []) (lenOf pd_6 rfl) rfl (by show 2 * 0 + _ ≤ _; exact Nat.le_of_eq rfl) (hb hby dRI_27) (fun _ _ => ⟨rfl, e4, (by decide : 0 + 0 ≤ _), (by decide : 0 + 0 ≤ _)⟩)
  dsimp only [Pt.U, Pt.locs, Pt.cells, Pt.slots] at X6 l6 y6 z6 st6 hQ6
  subst l6 y6 z6
  obtain ⟨rfl, N6q, e6⟩ := hQ6
  have N6 := Fr.app N4 N6q
  have go6 : ∀ tgt, Steps p.tables e below (T6.setTop (mkF m 30 #[.val (.ref a), .val (.int i), .val vt, .val vn, .val vl, .val (.ref gm), .val .null] [(.ref gl)])) tgt → Steps p.tables e below E0 tgt := fun tgt kont => go5 tgt (st6 tgt kont)
  have go7 : ∀ tgt, Steps p.tables e below (T6.setTop (mkF m 42 #[.val (.ref a), .val (.int i), .val vt, .val vn, .val vl, .val (.ref gm), .val (.ref gl)] [(.int i), (.ref a)])) tgt → Steps p.tables e below E0 tgt := fun tgt kont => go6 tgt (by
    show Steps p.tables e below (T6.setTop (mkF m 30 #[.val (.ref a), .val (.int i), .val vt, .val vn, .val vl, .val (.ref gm), .val .null] [(.ref gl)])) tgt
    refine XS.goto X6.here hx rfl (pc0 := 30) (pc' := 38) rfl (hb hby dRI_30) (by decide) (by decide) ?_
    show Steps p.tables e below (T6.setTop (mkF m 38 #[.val (.ref a), .val (.int i), .val vt, .val vn, .val vl, .val (.ref gm), .val .null] [(.ref gl)])) tgt
    refine XS.astore X6.here hx rfl (hb hby dRI_38) rfl rfl (l' := #[.val (.ref a), .val (.int i), .val vt, .val vn, .val vl, .val (.ref gm), .val (.ref gl)]) rfl ?_
    show Steps p.tables e below (T6.setTop (mkF m 40 #[.val (.ref a), .val (.int i), .val vt, .val vn, .val vl, .val (.ref gm), .val (.ref gl)] [])) tgt
    refine XS.aloadN X6.here hx rfl (hb hby dRI_40) rfl rfl ?_
    show Steps p.tables e below (T6.setTop (mkF m 41 #[.val (.ref a), .val (.int i), .val vt, .val vn, .val vl, .val (.ref gm), .val (.ref gl)] [(.ref a)])) tgt
    refine XS.iloadN X6.here hx rfl (hb hby dRI_41) rfl ?_
    exact kont)
  obtain ⟨T8, h8, X8, e8, W8, st8⟩ := putF X6 hx hZ hown (host := "") (Or.inl (hw _ (List.mem_of_getElem? (i := 64) rfl))) Via.refl e6 Fid Ea (Or.inr ⟨(hw _ (List.mem_of_getElem? (i := 65) rfl)), rfl, hnm⟩) (hw _ (List.mem_of_getElem? (i := 47) rfl)) (ty := .int) (by decide) rfl rfl (g := (mkF m 42 #[.val (.ref a), .val (.int i), .val vt, .val vn, .val vl, .val (.ref gm), .val (.ref gl)] [(.int i), (.ref a)])) rfl rfl (hb hby dRI_42)
  have z9 : n0 ≤ h8.size := Nat.le_trans Z0 (Keep.of_wr W8).1
  have K10 : Keep h0 h8 [a] := (Keep.refl h0 [a]).wr W8 (Or.inl (List.mem_of_getElem? (i := 0) rfl))
  have N8 := Fr.snoc X8 N6 ga
  have f11 : Fld Z h8 a "com/example/turnwise/turnwise/engine/Reply" "id" "I" (.int i) := (Fid.same W8)
  have go8 : ∀ tgt, Steps p.tables e below (T8.setTop (mkF m 45 #[.val (.ref a), .val (.int i), .val vt, .val vn, .val vl, .val (.ref gm), .val (.ref gl)] [])) tgt → Steps p.tables e below E0 tgt := fun tgt kont => go7 tgt (st8 tgt kont)
  have go12 : ∀ tgt, Steps p.tables e below (T8.setTop (mkF m 47 #[.val (.ref a), .val (.int i), .val vt, .val vn, .val vl, .val (.ref gm), .val (.ref gl)] [vt, (.ref a)])) tgt → Steps p.tables e below E0 tgt := fun tgt kont => go8 tgt (by
    show Steps p.tables e below (T8.setTop (mkF m 45 #[.val (.ref a), .val (.int i), .val vt, .val vn, .val vl, .val (.ref gm), .val (.ref gl)] [])) tgt
    refine XS.aloadN X8.here hx rfl (hb hby dRI_45) rfl rfl ?_
    show Steps p.tables e below (T8.setTop (mkF m 46 #[.val (.ref a), .val (.int i), .val vt, .val vn, .val vl, .val (.ref gm), .val (.ref gl)] [(.ref a)])) tgt
    refine XS.aloadN X8.here hx rfl (hb hby dRI_46) rfl hvt ?_
    exact kont)
  have f13 : Fld Z h8 a "com/example/turnwise/turnwise/engine/Reply" "text" "Ljava/lang/String;" .null := (Ftext.other W8 (Or.inr (slot_ne (Or.inr (hw _ (List.mem_of_getElem? (i := 67) rfl))) (Or.inr (hw _ (List.mem_of_getElem? (i := 65) rfl))) (by decide) (t := (.object "java/lang/String")) (t' := .int) (by decide) (by decide))))
  have f14 : Exa Z h8 a "com/example/turnwise/turnwise/engine/Reply" := (Ea.wr W8)
  obtain ⟨T15, h15, X15, e15, W15, st15⟩ := putF X8 hx hZ hown (host := "") (Or.inl (hw _ (List.mem_of_getElem? (i := 66) rfl))) Via.refl e8 f13 f14 (Or.inr ⟨(hw _ (List.mem_of_getElem? (i := 67) rfl)), rfl, hnm⟩) (hw _ (List.mem_of_getElem? (i := 47) rfl)) (ty := (.object "java/lang/String")) (by decide) (own_nar hvt rfl) (own_fit hvt rfl) (g := (mkF m 47 #[.val (.ref a), .val (.int i), .val vt, .val vn, .val vl, .val (.ref gm), .val (.ref gl)] [vt, (.ref a)])) rfl rfl (hb hby dRI_47)
  have z16 : n0 ≤ h15.size := Nat.le_trans z9 (Keep.of_wr W15).1
  have K17 : Keep h0 h15 [a] := K10.wr W15 (Or.inl (List.mem_of_getElem? (i := 0) rfl))
  have N15 := Fr.snoc X15 N8 ga
  have f18 : Fld Z h15 a "com/example/turnwise/turnwise/engine/Reply" "text" "Ljava/lang/String;" vt := (f13.same W15)
  have go15 : ∀ tgt, Steps p.tables e below (T15.setTop (mkF m 50 #[.val (.ref a), .val (.int i), .val vt, .val vn, .val vl, .val (.ref gm), .val (.ref gl)] [])) tgt → Steps p.tables e below E0 tgt := fun tgt kont => go12 tgt (st15 tgt kont)
  have go19 : ∀ tgt, Steps p.tables e below (T15.setTop (mkF m 52 #[.val (.ref a), .val (.int i), .val vt, .val vn, .val vl, .val (.ref gm), .val (.ref gl)] [vn, (.ref a)])) tgt → Steps p.tables e below E0 tgt := fun tgt kont => go15 tgt (by
    show Steps p.tables e below (T15.setTop (mkF m 50 #[.val (.ref a), .val (.int i), .val vt, .val vn, .val vl, .val (.ref gm), .val (.ref gl)] [])) tgt
    refine XS.aloadN X15.here hx rfl (hb hby dRI_50) rfl rfl ?_
    show Steps p.tables e below (T15.setTop (mkF m 51 #[.val (.ref a), .val (.int i), .val vt, .val vn, .val vl, .val (.ref gm), .val (.ref gl)] [(.ref a)])) tgt
    refine XS.aloadN X15.here hx rfl (hb hby dRI_51) rfl hvn ?_
    exact kont)
  have f20 : Fld Z h15 a "com/example/turnwise/turnwise/engine/Reply" "next" "Lcom/example/turnwise/turnwise/script/Position;" .null := ((Fnext.other W8 (Or.inr (slot_ne (Or.inr (hw _ (List.mem_of_getElem? (i := 69) rfl))) (Or.inr (hw _ (List.mem_of_getElem? (i := 65) rfl))) (by decide) (t := (.object "com/example/turnwise/turnwise/script/Position")) (t' := .int) (by decide) (by decide)))).other W15 (Or.inr (slot_ne (Or.inr (hw _ (List.mem_of_getElem? (i := 69) rfl))) (Or.inr (hw _ (List.mem_of_getElem? (i := 67) rfl))) (by decide) (t := (.object "com/example/turnwise/turnwise/script/Position")) (t' := (.object "java/lang/String")) (by decide) (by decide))))
  have f21 : Exa Z h15 a "com/example/turnwise/turnwise/engine/Reply" := (f14.wr W15)
  obtain ⟨T22, h22, X22, e22, W22, st22⟩ := putF X15 hx hZ hown (host := "") (Or.inl (hw _ (List.mem_of_getElem? (i := 68) rfl))) Via.refl e15 f20 f21 (Or.inr ⟨(hw _ (List.mem_of_getElem? (i := 69) rfl)), rfl, hnm⟩) (hw _ (List.mem_of_getElem? (i := 47) rfl)) (ty := (.object "com/example/turnwise/turnwise/script/Position")) (by decide) (own_nar hvn rfl) (own_fit hvn rfl) (g := (mkF m 52 #[.val (.ref a), .val (.int i), .val vt, .val vn, .val vl, .val (.ref gm), .val (.ref gl)] [vn, (.ref a)])) rfl rfl (hb hby dRI_52)
  have z23 : n0 ≤ h22.size := Nat.le_trans z16 (Keep.of_wr W22).1
  have K24 : Keep h0 h22 [a] := K17.wr W22 (Or.inl (List.mem_of_getElem? (i := 0) rfl))
  have N22 := Fr.snoc X22 N15 ga
  have f25 : Fld Z h22 a "com/example/turnwise/turnwise/engine/Reply" "next" "Lcom/example/turnwise/turnwise/script/Position;" vn := (f20.same W22)
  have go22 : ∀ tgt, Steps p.tables e below (T22.setTop (mkF m 55 #[.val (.ref a), .val (.int i), .val vt, .val vn, .val vl, .val (.ref gm), .val (.ref gl)] [])) tgt → Steps p.tables e below E0 tgt := fun tgt kont => go19 tgt (st22 tgt kont)
  have go26 : ∀ tgt, Steps p.tables e below (T22.setTop (mkF m 58 #[.val (.ref a), .val (.int i), .val vt, .val vn, .val vl, .val (.ref gm), .val (.ref gl)] [vl, (.ref a)])) tgt → Steps p.tables e below E0 tgt := fun tgt kont => go22 tgt (by
    show Steps p.tables e below (T22.setTop (mkF m 55 #[.val (.ref a), .val (.int i), .val vt, .val vn, .val vl, .val (.ref gm), .val (.ref gl)] [])) tgt
    refine XS.aloadN X22.here hx rfl (hb hby dRI_55) rfl rfl ?_
    show Steps p.tables e below (T22.setTop (mkF m 56 #[.val (.ref a), .val (.int i), .val vt, .val vn, .val vl, .val (.ref gm), .val (.ref gl)] [(.ref a)])) tgt
    refine XS.aload X22.here hx rfl (hb hby dRI_56) rfl hvl ?_
    exact kont)
  have f27 : Fld Z h22 a "com/example/turnwise/turnwise/engine/Reply" "nextLine" "Ljava/lang/String;" .null := (((FnextLine.other W8 (Or.inr (slot_ne (Or.inr (hw _ (List.mem_of_getElem? (i := 71) rfl))) (Or.inr (hw _ (List.mem_of_getElem? (i := 65) rfl))) (by decide) (t := (.object "java/lang/String")) (t' := .int) (by decide) (by decide)))).other W15 (Or.inr (slot_ne (Or.inr (hw _ (List.mem_of_getElem? (i := 71) rfl))) (Or.inr (hw _ (List.mem_of_getElem? (i := 67) rfl))) (by decide) (t := (.object "java/lang/String")) (t' := (.object "java/lang/String")) (by decide) (by decide)))).other W22 (Or.inr (slot_ne (Or.inr (hw _ (List.mem_of_getElem? (i := 71) rfl))) (Or.inr (hw _ (List.mem_of_getElem? (i := 69) rfl))) (by decide) (t := (.object "java/lang/String")) (t' := (.object "com/example/turnwise/turnwise/script/Position")) (by decide) (by decide))))
  have f28 : Exa Z h22 a "com/example/turnwise/turnwise/engine/Reply" := (f21.wr W22)
  obtain ⟨T29, h29, X29, e29, W29, st29⟩ := putF X22 hx hZ hown (host := "") (Or.inl (hw _ (List.mem_of_getElem? (i := 70) rfl))) Via.refl e22 f27 f28 (Or.inr ⟨(hw _ (List.mem_of_getElem? (i := 71) rfl)), rfl, hnm⟩) (hw _ (List.mem_of_getElem? (i := 47) rfl)) (ty := (.object "java/lang/String")) (by decide) (own_nar hvl rfl) (own_fit hvl rfl) (g := (mkF m 58 #[.val (.ref a), .val (.int i), .val vt, .val vn, .val vl, .val (.ref gm), .val (.ref gl)] [vl, (.ref a)])) rfl rfl (hb hby dRI_58)
  have z30 : n0 ≤ h29.size := Nat.le_trans z23 (Keep.of_wr W29).1
  have K31 : Keep h0 h29 [a] := K24.wr W29 (Or.inl (List.mem_of_getElem? (i := 0) rfl))
  have N29 := Fr.snoc X29 N22 ga
  have f32 : Fld Z h29 a "com/example/turnwise/turnwise/engine/Reply" "nextLine" "Ljava/lang/String;" vl := (f27.same W29)
  have go29 : ∀ tgt, Steps p.tables e below (T29.setTop (mkF m 61 #[.val (.ref a), .val (.int i), .val vt, .val vn, .val vl, .val (.ref gm), .val (.ref gl)] [])) tgt → Steps p.tables e below E0 tgt := fun tgt kont => go26 tgt (st29 tgt kont)
  have go33 : ∀ tgt, Steps p.tables e below (T29.setTop (mkF m 64 #[.val (.ref a), .val (.int i), .val vt, .val vn, .val vl, .val (.ref gm), .val (.ref gl)] [(.ref gm), (.ref a)])) tgt → Steps p.tables e below E0 tgt := fun tgt kont => go29 tgt (by
    show Steps p.tables e below (T29.setTop (mkF m 61 #[.val (.ref a), .val (.int i), .val vt, .val vn, .val vl, .val (.ref gm), .val (.ref gl)] [])) tgt
    refine XS.aloadN X29.here hx rfl (hb hby dRI_61) rfl rfl ?_
    show Steps p.tables e below (T29.setTop (mkF m 62 #[.val (.ref a), .val (.int i), .val vt, .val vn, .val vl, .val (.ref gm), .val (.ref gl)] [(.ref a)])) tgt
    refine XS.aload X29.here hx rfl (hb hby dRI_62) rfl rfl ?_
    exact kont)
  have f34 : Fld Z h29 a "com/example/turnwise/turnwise/engine/Reply" "sets" "Ljava/util/Map;" .null := ((((Fsets.other W8 (Or.inr (slot_ne (Or.inr (hw _ (List.mem_of_getElem? (i := 73) rfl))) (Or.inr (hw _ (List.mem_of_getElem? (i := 65) rfl))) (by decide) (t := (.object "java/util/Map")) (t' := .int) (by decide) (by decide)))).other W15 (Or.inr (slot_ne (Or.inr (hw _ (List.mem_of_getElem? (i := 73) rfl))) (Or.inr (hw _ (List.mem_of_getElem? (i := 67) rfl))) (by decide) (t := (.object "java/util/Map")) (t' := (.object "java/lang/String")) (by decide) (by decide)))).other W22 (Or.inr (slot_ne (Or.inr (hw _ (List.mem_of_getElem? (i := 73) rfl))) (Or.inr (hw _ (List.mem_of_getElem? (i := 69) rfl))) (by decide) (t := (.object "java/util/Map")) (t' := (.object "com/example/turnwise/turnwise/script/Position")) (by decide) (by decide)))).other W29 (Or.inr (slot_ne (Or.inr (hw _ (List.mem_of_getElem? (i := 73) rfl))) (Or.inr (hw _ (List.mem_of_getElem? (i := 71) rfl))) (by decide) (t := (.object "java/util/Map")) (t' := (.object "java/lang/String")) (by decide) (by decide))))
  have f35 : Exa Z h29 a "com/example/turnwise/turnwise/engine/Reply" := (f28.wr W29)
  obtain ⟨T36, h36, X36, e36, W36, st36⟩ := putF X29 hx hZ hown (host := "") (Or.inl (hw _ (List.mem_of_getElem? (i := 72) rfl))) Via.refl e29 f34 f35 (Or.inr ⟨(hw _ (List.mem_of_getElem? (i := 73) rfl)), rfl, hnm⟩) (hw _ (List.mem_of_getElem? (i := 47) rfl)) (ty := (.object "java/util/Map")) (by decide) rfl rfl (g := (mkF m 64 #[.val (.ref a), .val (.int i), .val vt, .val vn, .val vl, .val (.ref gm), .val (.ref gl)] [(.ref gm), (.ref a)])) rfl rfl (hb hby dRI_64)
  have z37 : n0 ≤ h36.size := Nat.le_trans z30 (Keep.of_wr W36).1
  have K38 : Keep h0 h36 [a] := K31.wr W36 (Or.inl (List.mem_of_getElem? (i := 0) rfl))
  have N36 := Fr.snoc X36 N29 ga
  have f39 : Fld Z h36 a "com/example/turnwise/turnwise/engine/Reply" "sets" "Ljava/util/Map;" (.ref gm) := (f34.same W36)
  have go36 : ∀ tgt, Steps p.tables e below (T36.setTop (mkF m 67 #[.val (.ref a), .val (.int i), .val vt, .val vn, .val vl, .val (.ref gm), .val (.ref gl)] [])) tgt → Steps p.tables e below E0 tgt := fun tgt kont => go33 tgt (st36 tgt kont)
  have go40 : ∀ tgt, Steps p.tables e below (T36.setTop (mkF m 70 #[.val (.ref a), .val (.int i), .val vt, .val vn, .val vl, .val (.ref gm), .val (.ref gl)] [(.ref gl), (.ref a)])) tgt → Steps p.tables e below E0 tgt := fun tgt kont => go36 tgt (by
    show Steps p.tables e below (T36.setTop (mkF m 67 #[.val (.ref a), .val (.int i), .val vt, .val vn, .val vl, .val (.ref gm), .val (.ref gl)] [])) tgt
    refine XS.aloadN X36.here hx rfl (hb hby dRI_67) rfl rfl ?_
    show Steps p.tables e below (T36.setTop (mkF m 68 #[.val (.ref a), .val (.int i), .val vt, .val vn, .val vl, .val (.ref gm), .val (.ref gl)] [(.ref a)])) tgt
    refine XS.aload X36.here hx rfl (hb hby dRI_68) rfl rfl ?_
    exact kont)
  have f41 : Fld Z h36 a "com/example/turnwise/turnwise/engine/Reply" "actions" "Ljava/util/List;" .null := (((((Factions.other W8 (Or.inr (slot_ne (Or.inr (hw _ (List.mem_of_getElem? (i := 75) rfl))) (Or.inr (hw _ (List.mem_of_getElem? (i := 65) rfl))) (by decide) (t := (.object "java/util/List")) (t' := .int) (by decide) (by decide)))).other W15 (Or.inr (slot_ne (Or.inr (hw _ (List.mem_of_getElem? (i := 75) rfl))) (Or.inr (hw _ (List.mem_of_getElem? (i := 67) rfl))) (by decide) (t := (.object "java/util/List")) (t' := (.object "java/lang/String")) (by decide) (by decide)))).other W22 (Or.inr (slot_ne (Or.inr (hw _ (List.mem_of_getElem? (i := 75) rfl))) (Or.inr (hw _ (List.mem_of_getElem? (i := 69) rfl))) (by decide) (t := (.object "java/util/List")) (t' := (.object "com/example/turnwise/turnwise/script/Position")) (by decide) (by decide)))).other W29 (Or.inr (slot_ne (Or.inr (hw _ (List.mem_of_getElem? (i := 75) rfl))) (Or.inr (hw _ (List.mem_of_getElem? (i := 71) rfl))) (by decide) (t := (.object "java/util/List")) (t' := (.object "java/lang/String")) (by decide) (by decide)))).other W36 (Or.inr (slot_ne (Or.inr (hw _ (List.mem_of_getElem? (i := 75) rfl))) (Or.inr (hw _ (List.mem_of_getElem? (i := 73) rfl))) (by decide) (t := (.object "java/util/List")) (t' := (.object "java/util/Map")) (by decide) (by decide))))
  have f42 : Exa Z h36 a "com/example/turnwise/turnwise/engine/Reply" := (f35.wr W36)
  obtain ⟨T43, h43, X43, e43, W43, st43⟩ := putF X36 hx hZ hown (host := "") (Or.inl (hw _ (List.mem_of_getElem? (i := 74) rfl))) Via.refl e36 f41 f42 (Or.inr ⟨(hw _ (List.mem_of_getElem? (i := 75) rfl)), rfl, hnm⟩) (hw _ (List.mem_of_getElem? (i := 47) rfl)) (ty := (.object "java/util/List")) (by decide) rfl rfl (g := (mkF m 70 #[.val (.ref a), .val (.int i), .val vt, .val vn, .val vl, .val (.ref gm), .val (.ref gl)] [(.ref gl), (.ref a)])) rfl rfl (hb hby dRI_70)
  have z44 : n0 ≤ h43.size := Nat.le_trans z37 (Keep.of_wr W43).1
  have K45 : Keep h0 h43 [a] := K38.wr W43 (Or.inl (List.mem_of_getElem? (i := 0) rfl))
  have N43 := Fr.snoc X43 N36 ga
  have f46 : Fld Z h43 a "com/example/turnwise/turnwise/engine/Reply" "actions" "Ljava/util/List;" (.ref gl) := (f41.same W43)
  have go43 : ∀ tgt, Steps p.tables e below (T43.setTop (mkF m 73 #[.val (.ref a), .val (.int i), .val vt, .val vn, .val vl, .val (.ref gm), .val (.ref gl)] [])) tgt → Steps p.tables e below E0 tgt := fun tgt kont => go40 tgt (st43 tgt kont)
  have f47 : Exa Z h43 a "com/example/turnwise/turnwise/engine/Reply" := (f42.wr W43)
  have f48 : Fld Z h43 a "com/example/turnwise/turnwise/engine/Reply" "next" "Lcom/example/turnwise/turnwise/script/Position;" vn := (((f25.other W29 (Or.inr (slot_ne (Or.inr (hw _ (List.mem_of_getElem? (i := 69) rfl))) (Or.inr (hw _ (List.mem_of_getElem? (i := 71) rfl))) (by decide) (t := (.object "com/example/turnwise/turnwise/script/Position")) (t' := (.object "java/lang/String")) (by decide) (by decide)))).other W36 (Or.inr (slot_ne (Or.inr (hw _ (List.mem_of_getElem? (i := 69) rfl))) (Or.inr (hw _ (List.mem_of_getElem? (i := 73) rfl))) (by decide) (t := (.object "com/example/turnwise/turnwise/script/Position")) (t' := (.object "java/util/Map")) (by decide) (by decide)))).other W43 (Or.inr (slot_ne (Or.inr (hw _ (List.mem_of_getElem? (i := 69) rfl))) (Or.inr (hw _ (List.mem_of_getElem? (i := 75) rfl))) (by decide) (t := (.object "com/example/turnwise/turnwise/script/Position")) (t' := (.object "java/util/List")) (by decide) (by decide))))
  obtain ⟨fs, hr, hrun, hended, hW, hsame⟩ := X43.leave (v := none) (fun _ => rfl)
  refine ⟨_, _, go43 _ ?_, hrun, hended, _, _, rfl, ?_, ⟨_, rfl⟩, hW, hsame.mono (by decide) (by decide)⟩
  · show Steps p.tables e below (T43.setTop (mkF m 73 #[.val (.ref a), .val (.int i), .val vt, .val vn, .val vl, .val (.ref gm), .val (.ref gl)] [])) _
    exact X43.returnOut hx Bd.returns (hb hby dRI_73) hr
  · show QRI Z a i vt vn vl gm gl h0 n0 _ T43.heap _
    rw [e43]
    exact ⟨rfl, N43, K45, f47, f48⟩
theorem dE0_0 : decode prog_33_method_2_code 0 = .ok (.aload_n 0, 1) := by decide +kernel
theorem dE0_1 : decode prog_33_method_2_code 1 = .ok (.getfield 35, 3) := by decide +kernel
theorem dE0_4 : decode prog_33_method_2_code 4 = .ok (.ifnonnull 7, 3) := by decide +kernel
theorem dE0_7 : decode prog_33_method_2_code 7 = .ok (.iconst 1, 1) := by decide +kernel
theorem dE0_8 : decode prog_33_method_2_code 8 = .ok (.goto 4, 3) := by decide +kernel
theorem dE0_12 : decode prog_33_method_2_code 12 = .ok (.ireturn, 1) := by decide +kernel
theorem ef_E0 (m : MethodId) (x0 : Addr) : entryFrame m #[(.ref x0)] 1 = mkF m 0 #[.val (.ref x0)] [] := by first | (simp [entryFrame, mkF, argsToLocals, Value.category, maxLocals]; done) | rfl
def QE0 (Z : State) (a : Addr) (q : Addr) (h0 : Heap) (n0 : Nat) (v : Option Value) (h : Heap) (L : List Loc) : Prop := v = some (.int (1 : Int32)) ∧ Fr n0 L ∧ h = h0
set_option maxRecDepth 65536 in
set_option maxHeartbeats 40000000 in
theorem rmE0 (l : Launch) (Z : State) (a0 : Array Value) (hw : ∀ d ∈ tables_1, d.before a0 Z = true) (ws : List Jvm.Cond) (a : Addr) (q : Addr) (h0 : Heap) (n0 : Nat) (Z0 : n0 ≤ h0.size) (Fn : Fld Z h0 a "com/example/turnwise/turnwise/engine/Reply" "next" "Lcom/example/turnwise/turnwise/script/Position;" .null) :
    MetFree l (⟨"com/example/turnwise/turnwise/engine/Reply", "endsDialogue", "()Z"⟩ : MethodName) (head1 (Jvm.Cond.code (⟨"com/example/turnwise/turnwise/engine/Reply", "endsDialogue", "()Z"⟩ : MethodName) prog_33_method_2_code 1 (some .boolean) :: ws) ({ frames := 0, cells := 0, slots := 0, locals := 0 } : Room)) (fun as_ U => as_ = #[(.ref a)] ∧ Z.Warmed39 U.vm ∧ U.heap = h0) (fun _ _ _ _ _ => True) (fun _ U o U' => ∃ v L, o = .returned v ∧ QE0 Z a q h0 n0 v U'.heap L ∧ FrameEnd U o U' L ({ frames := 0, cells := 0, slots := 0, locals := 0 } : Room).cells ({ frames := 0, cells := 0, slots := 0, locals := 0 } : Room).slots) := by
  refine MetFree.of_bodySF (plainFor_of_name pn_7) hisR ?_
  intro p e s m args below meth c s₁ Bd hml0 hP hK
  obtain ⟨rfl, hZ, hh⟩ := hP
  have hx := Bd.exec
  have hby := Bd.bytes
  have hml : c.maxLocals = 1 := hml0
  have hown : s.vm.findClass "com/example/turnwise/turnwise/engine/Reply" = some m.cls := findClass_of_methodNamed Bd.named
  have hnm := (name_of_methodNamed Bd.named Bd.method).1
  have X0 : Stand p l e ({ frames := 0, cells := 0, slots := 0, locals := 0 } : Room) s m #[(.ref a)] below meth c s₁ [] 0 0 := Stand.of_body Bd
  have e0 : s₁.heap = h0 := by rw [← hh, Bd.state]; rfl
  have N0 := Fr.nil n0
  obtain ⟨E0, hE0⟩ : ∃ z, z = s₁.setTop (entryFrame m #[(.ref a)] 1) := ⟨_, rfl⟩
  rw [← hE0]
  have go0 : ∀ tgt, Steps p.tables e below (s₁.setTop (mkF m 0 #[.val (.ref a)] [])) tgt → Steps p.tables e below E0 tgt := fun tgt kont => by rw [hE0]; exact castTop (ef_E0 m a) kont
  have go1 : ∀ tgt, Steps p.tables e below (s₁.setTop (mkF m 1 #[.val (.ref a)] [(.ref a)])) tgt → Steps p.tables e below E0 tgt := fun tgt kont => go0 tgt (by
    show Steps p.tables e below (s₁.setTop (mkF m 0 #[.val (.ref a)] [])) tgt
    refine XS.aloadN X0.here hx rfl (hb hby dE0_0) rfl rfl ?_
    exact kont)
  obtain ⟨T2, X2, e2, st2⟩ := getF X0 hx hZ hown (host := "") (Or.inl (hw _ (List.mem_of_getElem? (i := 68) rfl))) Via.refl e0 Fn (g := (mkF m 1 #[.val (.ref a)] [(.ref a)])) rfl rfl (hb hby dE0_1)
  have go2 : ∀ tgt, Steps p.tables e below (T2.setTop (mkF m 4 #[.val (.ref a)] [.null])) tgt → Steps p.tables e below E0 tgt := fun tgt kont => go1 tgt (st2 tgt kont)
  have go3 : ∀ tgt, Steps p.tables e below (T2.setTop (mkF m 12 #[.val (.ref a)] [(.int (1 : Int32))])) tgt → Steps p.tables e below E0 tgt := fun tgt kont => go2 tgt (by
    show Steps p.tables e below (T2.setTop (mkF m 4 #[.val (.ref a)] [.null])) tgt
    refine XS.ifnonnullNo X2.here hx rfl (hb hby dE0_4) rfl ?_
    show Steps p.tables e below (T2.setTop (mkF m 7 #[.val (.ref a)] [])) tgt
    refine XS.iconst X2.here hx rfl (hb hby dE0_7) ?_
    show Steps p.tables e below (T2.setTop (mkF m 8 #[.val (.ref a)] [(.int (1 : Int32))])) tgt
    refine XS.goto X2.here hx rfl (pc0 := 8) (pc' := 12) rfl (hb hby dE0_8) (by decide) (by decide) ?_
    exact kont)
  obtain ⟨fs, hr, hrun, hended, hW, hsame⟩ := X2.leave (v := some (.int (1 : Int32))) (fun h => by rw [Bd.returns] at h; cases h)
  refine ⟨_, _, go3 _ ?_, hrun, hended, _, _, rfl, ?_, ⟨_, rfl⟩, hW, hsame.mono (by decide) (by decide)⟩
  · show Steps p.tables e below (T2.setTop (mkF m 12 #[.val (.ref a)] [(.int (1 : Int32))])) _
    exact retN X2 hx (t := .boolean) Bd.returns (by simp) (hb hby dE0_12) hr
  · show QE0 Z a q h0 n0 _ T2.heap _
    rw [e2]
    exact ⟨rfl, N0, rfl⟩
theorem dE1_0 : decode prog_33_method_2_code 0 = .ok (.aload_n 0, 1) := by decide +kernel
theorem dE1_1 : decode prog_33_method_2_code 1 = .ok (.getfield 35, 3) := by decide +kernel
theorem dE1_4 : decode prog_33_method_2_code 4 = .ok (.ifnonnull 7, 3) := by decide +kernel
theorem dE1_11 : decode prog_33_method_2_code 11 = .ok (.iconst 0, 1) := by decide +kernel
theorem dE1_12 : decode prog_33_method_2_code 12 = .ok (.ireturn, 1) := by decide +kernel
theorem ef_E1 (m : MethodId) (x0 : Addr) : entryFrame m #[(.ref x0)] 1 = mkF m 0 #[.val (.ref x0)] [] := by first | (simp [entryFrame, mkF, argsToLocals, Value.category, maxLocals]; done) | rfl
def QE1 (Z : State) (a : Addr) (q : Addr) (h0 : Heap) (n0 : Nat) (v : Option Value) (h : Heap) (L : List Loc) : Prop := v = some (.int (0 : Int32)) ∧ Fr n0 L ∧ h = h0
set_option maxRecDepth 65536 in
set_option maxHeartbeats 40000000 in
theorem rmE1 (l : Launch) (Z : State) (a0 : Array Value) (hw : ∀ d ∈ tables_1, d.before a0 Z = true) (ws : List Jvm.Cond) (a : Addr) (q : Addr) (h0 : Heap) (n0 : Nat) (Z0 : n0 ≤ h0.size) (Fn : Fld Z h0 a "com/example/turnwise/turnwise/engine/Reply" "next" "Lcom/example/turnwise/turnwise/script/Position;" (.ref q)) :
    MetFree l (⟨"com/example/turnwise/turnwise/engine/Reply", "endsDialogue", "()Z"⟩ : MethodName) (head1 (Jvm.Cond.code (⟨"com/example/turnwise/turnwise/engine/Reply", "endsDialogue", "()Z"⟩ : MethodName) prog_33_method_2_code 1 (some .boolean) :: ws) ({ frames := 0, cells := 0, slots := 0, locals := 0 } : Room)) (fun as_ U => as_ = #[(.ref a)] ∧ Z.Warmed39 U.vm ∧ U.heap = h0) (fun _ _ _ _ _ => True) (fun _ U o U' => ∃ v L, o = .returned v ∧ QE1 Z a q h0 n0 v U'.heap L ∧ FrameEnd U o U' L ({ frames := 0, cells := 0, slots := 0, locals := 0 } : Room).cells ({ frames := 0, cells := 0, slots := 0, locals := 0 } : Room).slots) := by
  refine MetFree.of_bodySF (plainFor_of_name pn_7) hisR ?_
  intro p e s m args below meth c s₁ Bd hml0 hP hK
  obtain ⟨rfl, hZ, hh⟩ := hP
  have hx := Bd.exec
  have hby := Bd.bytes
  have hml : c.maxLocals = 1 := hml0
  have hown : s.vm.findClass "com/example/turnwise/turnwise/engine/Reply" = some m.cls := findClass_of_methodNamed Bd.named
  have hnm := (name_of_methodNamed Bd.named Bd.method).1
  have X0 : Stand p l e ({ frames := 0, cells := 0, slots := 0, locals := 0 } : Room) s m #[(.ref a)] below meth c s₁ [] 0 0 := Stand.of_body Bd
  have e0 : s₁.heap = h0 := by rw [← hh, Bd.state]; rfl
  have N0 := Fr.nil n0
  obtain ⟨E0, hE0⟩ : ∃ z, z = s₁.setTop (entryFrame m #[(.ref a)] 1) := ⟨_, rfl⟩
  rw [← hE0]
  have go0 : ∀ tgt, Steps p.tables e below (s₁.setTop (mkF m 0 #[.val (.ref a)] [])) tgt → Steps p.tables e below E0 tgt := fun tgt kont => by rw [hE0]; exact castTop (ef_E1 m a) kont
  have go1 : ∀ tgt, Steps p.tables e below (s₁.setTop (mkF m 1 #[.val (.ref a)] [(.ref a)])) tgt → Steps p.tables e below E0 tgt := fun tgt kont => go0 tgt (by
    show Steps p.tables e below (s₁.setTop (mkF m 0 #[.val (.ref a)] [])) tgt
    refine XS.aloadN X0.here hx rfl (hb hby dE1_0) rfl rfl ?_
    exact kont)
  obtain ⟨T2, X2, e2, st2⟩ := getF X0 hx hZ hown (host := "") (Or.inl (hw _ (List.mem_of_getElem? (i := 68) rfl))) Via.refl e0 Fn (g := (mkF m 1 #[.val (.ref a)] [(.ref a)])) rfl rfl (hb hby dE1_1)
  have go2 : ∀ tgt, Steps p.tables e below (T2.setTop (mkF m 4 #[.val (.ref a)] [(.ref q)])) tgt → Steps p.tables e below E0 tgt := fun tgt kont => go1 tgt (st2 tgt kont)
  have go3 : ∀ tgt, Steps p.tables e below (T2.setTop (mkF m 12 #[.val (.ref a)] [(.int (0 : Int32))])) tgt → Steps p.tables e below E0 tgt := fun tgt kont => go2 tgt (by
    show Steps p.tables e below (T2.setTop (mkF m 4 #[.val (.ref a)] [(.ref q)])) tgt
    refine XS.ifnonnullYes X2.here hx rfl (pc0 := 4) (pc' := 11) rfl (hb hby dE1_4) rfl (by decide) (by decide) ?_
    show Steps p.tables e below (T2.setTop (mkF m 11 #[.val (.ref a)] [])) tgt
    refine XS.iconst X2.here hx rfl (hb hby dE1_11) ?_
    exact kont)
  obtain ⟨fs, hr, hrun, hended, hW, hsame⟩ := X2.leave (v := some (.int (0 : Int32))) (fun h => by rw [Bd.returns] at h; cases h)
  refine ⟨_, _, go3 _ ?_, hrun, hended, _, _, rfl, ?_, ⟨_, rfl⟩, hW, hsame.mono (by decide) (by decide)⟩
  · show Steps p.tables e below (T2.setTop (mkF m 12 #[.val (.ref a)] [(.int (0 : Int32))])) _
    exact retN X2 hx (t := .boolean) Bd.returns (by simp) (hb hby dE1_12) hr
  · show QE1 Z a q h0 n0 _ T2.heap _
    rw [e2]
    exact ⟨rfl, N0, rfl⟩
theorem pd_8 : parseMethodDescriptor "([C)V" = some ⟨[(.array .char)], none⟩ := by decide +kernel
theorem pd_9 : parseMethodDescriptor "(ILjava/lang/String;Lcom/example/turnwise/turnwise/script/Position;Ljava/lang/String;Ljava/util/Map;Ljava/util/List;)V" = some ⟨[.int, (.object "java/lang/String"), (.object "com/example/turnwise/turnwise/script/Position"), (.object "java/lang/String"), (.object "java/util/Map"), (.object "java/util/List")], none⟩ := by decide +kernel
theorem pd_10 : parseMethodDescriptor "()Z" = some ⟨[], some .boolean⟩ := by decide +kernel
theorem pd_11 : parseMethodDescriptor "(Ljava/lang/String;I)V" = some ⟨[(.object "java/lang/String"), .int], none⟩ := by decide +kernel
theorem pn_12 : plainName "com/example/turnwise/turnwise/engine/ReplyEndsDialoguePinLaw" = true := by first | (simp [plainName, overriddenIn]; done) | decide +kernel
theorem ef_L (m : MethodId) (x0 : Int32) (x1 : Int32) (x2 : Int32) (x3 : Int32) : entryFrame m #[(.int x0), (.int x1), (.int x2), (.int x3)] maxLocals = mkF m 0 #[.val (.int x0), .val (.int x1), .val (.int x2), .val (.int x3), .unset, .unset, .unset, .unset, .unset, .unset, .unset, .unset] [] := by first | (simp [entryFrame, mkF, argsToLocals, Value.category, maxLocals]; done) | rfl
def QL (Z : State) (p0 : Int32) (p1 : Int32) (p2 : Int32) (p3 : Int32) (G : Int32) (gm : Addr) (gl : Addr) (h0 : Heap) (n0 : Nat) (v : Option Value) (h : Heap) (L : List Loc) : Prop := v = some (.int 1) ∧ Fr n0 L
set_option maxRecDepth 65536 in
set_option maxHeartbeats 40000000 in
theorem rmL (l : Launch) (Z : State) (a0 : Array Value) (hw : ∀ d ∈ tables_1, d.before a0 Z = true) (ws : List Jvm.Cond) (p0 : Int32) (p1 : Int32) (p2 : Int32) (p3 : Int32) (G : Int32) (gm : Addr) (gl : Addr) (h0 : Heap) (n0 : Nat) (Z0 : n0 ≤ h0.size) (SC : Sta Z Z.heap "java/lang/String" "COMPACT_STRINGS" "Z" (.int G)) (hG : ¬ (G = (0 : Int32))) (SM : Sta Z Z.heap "java/util/ImmutableCollections" "EMPTY_MAP" "Ljava/util/ImmutableCollections$MapN;" (.ref gm)) (SL : Sta Z Z.heap "java/util/ImmutableCollections" "EMPTY_LIST" "Ljava/util/ImmutableCollections$ListN;" (.ref gl)) (O0 : Old Z n0 h0) :
    MetFree l x (head1 (Jvm.Cond.code x code maxLocals ret :: ws) room_1) (fun as_ U => as_ = #[(.int p0), (.int p1), (.int p2), (.int p3)] ∧ Z.Warmed39 U.vm ∧ U.heap = h0) (fun _ _ _ _ _ => True) (fun _ U o U' => ∃ v L, o = .returned v ∧ QL Z p0 p1 p2 p3 G gm gl h0 n0 v U'.heap L ∧ FrameEnd U o U' L 5 14) := by
  refine MetFree.of_bodySF (plainFor_of_name pn_12) hisR ?_
  intro p e s m args below meth c s₁ Bd hml0 hP hK
  obtain ⟨rfl, hZ, hh⟩ := hP
  have hx := Bd.exec
  have hby := Bd.bytes
  have hml : c.maxLocals = 12 := hml0
  have hown : s.vm.findClass "com/example/turnwise/turnwise/engine/ReplyEndsDialoguePinLaw" = some m.cls := findClass_of_methodNamed Bd.named
  have hnm := (name_of_methodNamed Bd.named Bd.method).1
  have X0 : Stand p l e room_1 s m #[(.int p0), (.int p1), (.int p2), (.int p3)] below meth c s₁ [] 0 0 := Stand.of_body Bd
  have e0 : s₁.heap = h0 := by rw [← hh, Bd.state]; rfl
  have N0 := Fr.nil n0
  obtain ⟨E0, hE0⟩ : ∃ z, z = s₁.setTop (entryFrame m #[(.int p0), (.int p1), (.int p2), (.int p3)] maxLocals) := ⟨_, rfl⟩
  rw [← hE0]
  have go0 : ∀ tgt, Steps p.tables e below (s₁.setTop (mkF m 0 #[.val (.int p0), .val (.int p1), .val (.int p2), .val (.int p3), .unset, .unset, .unset, .unset, .unset, .unset, .unset, .unset] [])) tgt → Steps p.tables e below E0 tgt := fun tgt kont => by rw [hE0]; exact castTop (ef_L m p0 p1 p2 p3) kont
  have hws : ∀ d ∈ StrChars.Road.words, d.before a0 Z = true := fun d hd => hw d ((by decide +kernel : ∀ d ∈ StrChars.Road.words, d ∈ tables_1) d hd)
  obtain ⟨b4, hb4, go1⟩ : ∃ b4 : Int32, (b4 = (0 : Int32) ∨ b4 = (1 : Int32)) ∧ ∀ tgt, Steps p.tables e below (s₁.setTop (mkF m 13 #[.val (.int p0), .val (.int p1), .val (.int p2), .val (.int p3), .val (.int b4), .unset, .unset, .unset, .unset, .unset, .unset, .unset] [])) tgt → Steps p.tables e below E0 tgt := by
    by_cases hc : (p1 &&& (1 : Int32)) = (0 : Int32)
    · exact ⟨(0 : Int32), Or.inl rfl, fun tgt kont => go0 tgt (by
        show Steps p.tables e below (s₁.setTop (mkF m 0 #[.val (.int p0), .val (.int p1), .val (.int p2), .val (.int p3), .unset, .unset, .unset, .unset, .unset, .unset, .unset, .unset] [])) tgt
        refine XS.iloadN X0.here hx rfl (hb hby at_0) rfl ?_
        show Steps p.tables e below (s₁.setTop (mkF m 1 #[.val (.int p0), .val (.int p1), .val (.int p2), .val (.int p3), .unset, .unset, .unset, .unset, .unset, .unset, .unset, .unset] [(.int p1)])) tgt
        refine XS.iconst X0.here hx rfl (hb hby at_1) ?_
        show Steps p.tables e below (s₁.setTop (mkF m 2 #[.val (.int p0), .val (.int p1), .val (.int p2), .val (.int p3), .unset, .unset, .unset, .unset, .unset, .unset, .unset, .unset] [(.int (1 : Int32)), (.int p1)])) tgt
        refine XS.iand X0.here hx rfl (hb hby at_2) rfl ?_
        show Steps p.tables e below (s₁.setTop (mkF m 3 #[.val (.int p0), .val (.int p1), .val (.int p2), .val (.int p3), .unset, .unset, .unset, .unset, .unset, .unset, .unset, .unset] [(.int (p1 &&& (1 : Int32)))])) tgt
        refine XS.ifYes X0.here hx rfl (pc0 := 3) (pc' := 10) rfl (hb hby at_3) rfl ((if0 _ _).trans (teq hc).1) (by decide) (by decide) ?_
        show Steps p.tables e below (s₁.setTop (mkF m 10 #[.val (.int p0), .val (.int p1), .val (.int p2), .val (.int p3), .unset, .unset, .unset, .unset, .unset, .unset, .unset, .unset] [])) tgt
        refine XS.iconst X0.here hx rfl (hb hby at_10) ?_
        show Steps p.tables e below (s₁.setTop (mkF m 11 #[.val (.int p0), .val (.int p1), .val (.int p2), .val (.int p3), .unset, .unset, .unset, .unset, .unset, .unset, .unset, .unset] [(.int (0 : Int32))])) tgt
        refine XS.istore X0.here hx rfl (hb hby at_11) rfl (l' := #[.val (.int p0), .val (.int p1), .val (.int p2), .val (.int p3), .val (.int (0 : Int32)), .unset, .unset, .unset, .unset, .unset, .unset, .unset]) rfl ?_
        exact kont)⟩
    · exact ⟨(1 : Int32), Or.inr rfl, fun tgt kont => go0 tgt (by
        show Steps p.tables e below (s₁.setTop (mkF m 0 #[.val (.int p0), .val (.int p1), .val (.int p2), .val (.int p3), .unset, .unset, .unset, .unset, .unset, .unset, .unset, .unset] [])) tgt
        refine XS.iloadN X0.here hx rfl (hb hby at_0) rfl ?_
        show Steps p.tables e below (s₁.setTop (mkF m 1 #[.val (.int p0), .val (.int p1), .val (.int p2), .val (.int p3), .unset, .unset, .unset, .unset, .unset, .unset, .unset, .unset] [(.int p1)])) tgt
        refine XS.iconst X0.here hx rfl (hb hby at_1) ?_
        show Steps p.tables e below (s₁.setTop (mkF m 2 #[.val (.int p0), .val (.int p1), .val (.int p2), .val (.int p3), .unset, .unset, .unset, .unset, .unset, .unset, .unset, .unset] [(.int (1 : Int32)), (.int p1)])) tgt
        refine XS.iand X0.here hx rfl (hb hby at_2) rfl ?_
        show Steps p.tables e below (s₁.setTop (mkF m 3 #[.val (.int p0), .val (.int p1), .val (.int p2), .val (.int p3), .unset, .unset, .unset, .unset, .unset, .unset, .unset, .unset] [(.int (p1 &&& (1 : Int32)))])) tgt
        refine XS.ifNo X0.here hx rfl (hb hby at_3) rfl ((if0 _ _).trans (feq hc).1) ?_
        show Steps p.tables e below (s₁.setTop (mkF m 6 #[.val (.int p0), .val (.int p1), .val (.int p2), .val (.int p3), .unset, .unset, .unset, .unset, .unset, .unset, .unset, .unset] [])) tgt
        refine XS.iconst X0.here hx rfl (hb hby at_6) ?_
        show Steps p.tables e below (s₁.setTop (mkF m 7 #[.val (.int p0), .val (.int p1), .val (.int p2), .val (.int p3), .unset, .unset, .unset, .unset, .unset, .unset, .unset, .unset] [(.int (1 : Int32))])) tgt
        refine XS.goto X0.here hx rfl (pc0 := 7) (pc' := 11) rfl (hb hby at_7) (by decide) (by decide) ?_
        show Steps p.tables e below (s₁.setTop (mkF m 11 #[.val (.int p0), .val (.int p1), .val (.int p2), .val (.int p3), .unset, .unset, .unset, .unset, .unset, .unset, .unset, .unset] [(.int (1 : Int32))])) tgt
        refine XS.istore X0.here hx rfl (hb hby at_11) rfl (l' := #[.val (.int p0), .val (.int p1), .val (.int p2), .val (.int p3), .val (.int (1 : Int32)), .unset, .unset, .unset, .unset, .unset, .unset, .unset]) rfl ?_
        exact kont)⟩
  obtain ⟨b5, hb5, go2⟩ : ∃ b5 : Int32, (b5 = (0 : Int32) ∨ b5 = (1 : Int32)) ∧ ∀ tgt, Steps p.tables e below (s₁.setTop (mkF m 26 #[.val (.int p0), .val (.int p1), .val (.int p2), .val (.int p3), .val (.int b4), .val (.int b5), .unset, .unset, .unset, .unset, .unset, .unset] [])) tgt → Steps p.tables e below E0 tgt := by
    by_cases hc : (p1 &&& (2 : Int32)) = (0 : Int32)
    · exact ⟨(0 : Int32), Or.inl rfl, fun tgt kont => go1 tgt (by
        show Steps p.tables e below (s₁.setTop (mkF m 13 #[.val (.int p0), .val (.int p1), .val (.int p2), .val (.int p3), .val (.int b4), .unset, .unset, .unset, .unset, .unset, .unset, .unset] [])) tgt
        refine XS.iloadN X0.here hx rfl (hb hby at_13) rfl ?_
        show Steps p.tables e below (s₁.setTop (mkF m 14 #[.val (.int p0), .val (.int p1), .val (.int p2), .val (.int p3), .val (.int b4), .unset, .unset, .unset, .unset, .unset, .unset, .unset] [(.int p1)])) tgt
        refine XS.iconst X0.here hx rfl (hb hby at_14) ?_
        show Steps p.tables e below (s₁.setTop (mkF m 15 #[.val (.int p0), .val (.int p1), .val (.int p2), .val (.int p3), .val (.int b4), .unset, .unset, .unset, .unset, .unset, .unset, .unset] [(.int (2 : Int32)), (.int p1)])) tgt
        refine XS.iand X0.here hx rfl (hb hby at_15) rfl ?_
        show Steps p.tables e below (s₁.setTop (mkF m 16 #[.val (.int p0), .val (.int p1), .val (.int p2), .val (.int p3), .val (.int b4), .unset, .unset, .unset, .unset, .unset, .unset, .unset] [(.int (p1 &&& (2 : Int32)))])) tgt
        refine XS.ifYes X0.here hx rfl (pc0 := 16) (pc' := 23) rfl (hb hby at_16) rfl ((if0 _ _).trans (teq hc).1) (by decide) (by decide) ?_
        show Steps p.tables e below (s₁.setTop (mkF m 23 #[.val (.int p0), .val (.int p1), .val (.int p2), .val (.int p3), .val (.int b4), .unset, .unset, .unset, .unset, .unset, .unset, .unset] [])) tgt
        refine XS.iconst X0.here hx rfl (hb hby at_23) ?_
        show Steps p.tables e below (s₁.setTop (mkF m 24 #[.val (.int p0), .val (.int p1), .val (.int p2), .val (.int p3), .val (.int b4), .unset, .unset, .unset, .unset, .unset, .unset, .unset] [(.int (0 : Int32))])) tgt
        refine XS.istore X0.here hx rfl (hb hby at_24) rfl (l' := #[.val (.int p0), .val (.int p1), .val (.int p2), .val (.int p3), .val (.int b4), .val (.int (0 : Int32)), .unset, .unset, .unset, .unset, .unset, .unset]) rfl ?_
        exact kont)⟩
    · exact ⟨(1 : Int32), Or.inr rfl, fun tgt kont => go1 tgt (by
        show Steps p.tables e below (s₁.setTop (mkF m 13 #[.val (.int p0), .val (.int p1), .val (.int p2), .val (.int p3), .val (.int b4), .unset, .unset, .unset, .unset, .unset, .unset, .unset] [])) tgt
        refine XS.iloadN X0.here hx rfl (hb hby at_13) rfl ?_
        show Steps p.tables e below (s₁.setTop (mkF m 14 #[.val (.int p0), .val (.int p1), .val (.int p2), .val (.int p3), .val (.int b4), .unset, .unset, .unset, .unset, .unset, .unset, .unset] [(.int p1)])) tgt
        refine XS.iconst X0.here hx rfl (hb hby at_14) ?_
        show Steps p.tables e below (s₁.setTop (mkF m 15 #[.val (.int p0), .val (.int p1), .val (.int p2), .val (.int p3), .val (.int b4), .unset, .unset, .unset, .unset, .unset, .unset, .unset] [(.int (2 : Int32)), (.int p1)])) tgt
        refine XS.iand X0.here hx rfl (hb hby at_15) rfl ?_
        show Steps p.tables e below (s₁.setTop (mkF m 16 #[.val (.int p0), .val (.int p1), .val (.int p2), .val (.int p3), .val (.int b4), .unset, .unset, .unset, .unset, .unset, .unset, .unset] [(.int (p1 &&& (2 : Int32)))])) tgt
        refine XS.ifNo X0.here hx rfl (hb hby at_16) rfl ((if0 _ _).trans (feq hc).1) ?_
        show Steps p.tables e below (s₁.setTop (mkF m 19 #[.val (.int p0), .val (.int p1), .val (.int p2), .val (.int p3), .val (.int b4), .unset, .unset, .unset, .unset, .unset, .unset, .unset] [])) tgt
        refine XS.iconst X0.here hx rfl (hb hby at_19) ?_
        show Steps p.tables e below (s₁.setTop (mkF m 20 #[.val (.int p0), .val (.int p1), .val (.int p2), .val (.int p3), .val (.int b4), .unset, .unset, .unset, .unset, .unset, .unset, .unset] [(.int (1 : Int32))])) tgt
        refine XS.goto X0.here hx rfl (pc0 := 20) (pc' := 24) rfl (hb hby at_20) (by decide) (by decide) ?_
        show Steps p.tables e below (s₁.setTop (mkF m 24 #[.val (.int p0), .val (.int p1), .val (.int p2), .val (.int p3), .val (.int b4), .unset, .unset, .unset, .unset, .unset, .unset, .unset] [(.int (1 : Int32))])) tgt
        refine XS.istore X0.here hx rfl (hb hby at_24) rfl (l' := #[.val (.int p0), .val (.int p1), .val (.int p2), .val (.int p3), .val (.int b4), .val (.int (1 : Int32)), .unset, .unset, .unset, .unset, .unset, .unset]) rfl ?_
        exact kont)⟩
  obtain ⟨b6, hb6, go3⟩ : ∃ b6 : Int32, (b6 = (0 : Int32) ∨ b6 = (1 : Int32)) ∧ ∀ tgt, Steps p.tables e below (s₁.setTop (mkF m 39 #[.val (.int p0), .val (.int p1), .val (.int p2), .val (.int p3), .val (.int b4), .val (.int b5), .val (.int b6), .unset, .unset, .unset, .unset, .unset] [])) tgt → Steps p.tables e below E0 tgt := by
    by_cases hc : (p1 &&& (4 : Int32)) = (0 : Int32)
    · exact ⟨(0 : Int32), Or.inl rfl, fun tgt kont => go2 tgt (by
        show Steps p.tables e below (s₁.setTop (mkF m 26 #[.val (.int p0), .val (.int p1), .val (.int p2), .val (.int p3), .val (.int b4), .val (.int b5), .unset, .unset, .unset, .unset, .unset, .unset] [])) tgt
        refine XS.iloadN X0.here hx rfl (hb hby at_26) rfl ?_
        show Steps p.tables e below (s₁.setTop (mkF m 27 #[.val (.int p0), .val (.int p1), .val (.int p2), .val (.int p3), .val (.int b4), .val (.int b5), .unset, .unset, .unset, .unset, .unset, .unset] [(.int p1)])) tgt
        refine XS.iconst X0.here hx rfl (hb hby at_27) ?_
        show Steps p.tables e below (s₁.setTop (mkF m 28 #[.val (.int p0), .val (.int p1), .val (.int p2), .val (.int p3), .val (.int b4), .val (.int b5), .unset, .unset, .unset, .unset, .unset, .unset] [(.int (4 : Int32)), (.int p1)])) tgt
        refine XS.iand X0.here hx rfl (hb hby at_28) rfl ?_
        show Steps p.tables e below (s₁.setTop (mkF m 29 #[.val (.int p0), .val (.int p1), .val (.int p2), .val (.int p3), .val (.int b4), .val (.int b5), .unset, .unset, .unset, .unset, .unset, .unset] [(.int (p1 &&& (4 : Int32)))])) tgt
        refine XS.ifYes X0.here hx rfl (pc0 := 29) (pc' := 36) rfl (hb hby at_29) rfl ((if0 _ _).trans (teq hc).1) (by decide) (by decide) ?_
        show Steps p.tables e below (s₁.setTop (mkF m 36 #[.val (.int p0), .val (.int p1), .val (.int p2), .val (.int p3), .val (.int b4), .val (.int b5), .unset, .unset, .unset, .unset, .unset, .unset] [])) tgt
        refine XS.iconst X0.here hx rfl (hb hby at_36) ?_
        show Steps p.tables e below (s₁.setTop (mkF m 37 #[.val (.int p0), .val (.int p1), .val (.int p2), .val (.int p3), .val (.int b4), .val (.int b5), .unset, .unset, .unset, .unset, .unset, .unset] [(.int (0 : Int32))])) tgt
        refine XS.istore X0.here hx rfl (hb hby at_37) rfl (l' := #[.val (.int p0), .val (.int p1), .val (.int p2), .val (.int p3), .val (.int b4), .val (.int b5), .val (.int (0 : Int32)), .unset, .unset, .unset, .unset, .unset]) rfl ?_
        exact kont)⟩
    · exact ⟨(1 : Int32), Or.inr rfl, fun tgt kont => go2 tgt (by
        show Steps p.tables e below (s₁.setTop (mkF m 26 #[.val (.int p0), .val (.int p1), .val (.int p2), .val (.int p3), .val (.int b4), .val (.int b5), .unset, .unset, .unset, .unset, .unset, .unset] [])) tgt
        refine XS.iloadN X0.here hx rfl (hb hby at_26) rfl ?_
        show Steps p.tables e below (s₁.setTop (mkF m 27 #[.val (.int p0), .val (.int p1), .val (.int p2), .val (.int p3), .val (.int b4), .val (.int b5), .unset, .unset, .unset, .unset, .unset, .unset] [(.int p1)])) tgt
        refine XS.iconst X0.here hx rfl (hb hby at_27) ?_
        show Steps p.tables e below (s₁.setTop (mkF m 28 #[.val (.int p0), .val (.int p1), .val (.int p2), .val (.int p3), .val (.int b4), .val (.int b5), .unset, .unset, .unset, .unset, .unset, .unset] [(.int (4 : Int32)), (.int p1)])) tgt
        refine XS.iand X0.here hx rfl (hb hby at_28) rfl ?_
        show Steps p.tables e below (s₁.setTop (mkF m 29 #[.val (.int p0), .val (.int p1), .val (.int p2), .val (.int p3), .val (.int b4), .val (.int b5), .unset, .unset, .unset, .unset, .unset, .unset] [(.int (p1 &&& (4 : Int32)))])) tgt
        refine XS.ifNo X0.here hx rfl (hb hby at_29) rfl ((if0 _ _).trans (feq hc).1) ?_
        show Steps p.tables e below (s₁.setTop (mkF m 32 #[.val (.int p0), .val (.int p1), .val (.int p2), .val (.int p3), .val (.int b4), .val (.int b5), .unset, .unset, .unset, .unset, .unset, .unset] [])) tgt
        refine XS.iconst X0.here hx rfl (hb hby at_32) ?_
        show Steps p.tables e below (s₁.setTop (mkF m 33 #[.val (.int p0), .val (.int p1), .val (.int p2), .val (.int p3), .val (.int b4), .val (.int b5), .unset, .unset, .unset, .unset, .unset, .unset] [(.int (1 : Int32))])) tgt
        refine XS.goto X0.here hx rfl (pc0 := 33) (pc' := 37) rfl (hb hby at_33) (by decide) (by decide) ?_
        show Steps p.tables e below (s₁.setTop (mkF m 37 #[.val (.int p0), .val (.int p1), .val (.int p2), .val (.int p3), .val (.int b4), .val (.int b5), .unset, .unset, .unset, .unset, .unset, .unset] [(.int (1 : Int32))])) tgt
        refine XS.istore X0.here hx rfl (hb hby at_37) rfl (l' := #[.val (.int p0), .val (.int p1), .val (.int p2), .val (.int p3), .val (.int b4), .val (.int b5), .val (.int (1 : Int32)), .unset, .unset, .unset, .unset, .unset]) rfl ?_
        exact kont)⟩
  obtain ⟨b7, hb7, go4⟩ : ∃ b7 : Int32, (b7 = (0 : Int32) ∨ b7 = (1 : Int32)) ∧ ∀ tgt, Steps p.tables e below (s₁.setTop (mkF m 53 #[.val (.int p0), .val (.int p1), .val (.int p2), .val (.int p3), .val (.int b4), .val (.int b5), .val (.int b6), .val (.int b7), .unset, .unset, .unset, .unset] [])) tgt → Steps p.tables e below E0 tgt := by
    by_cases hc : (p1 &&& (8 : Int32)) = (0 : Int32)
    · exact ⟨(0 : Int32), Or.inl rfl, fun tgt kont => go3 tgt (by
        show Steps p.tables e below (s₁.setTop (mkF m 39 #[.val (.int p0), .val (.int p1), .val (.int p2), .val (.int p3), .val (.int b4), .val (.int b5), .val (.int b6), .unset, .unset, .unset, .unset, .unset] [])) tgt
        refine XS.iloadN X0.here hx rfl (hb hby at_39) rfl ?_
        show Steps p.tables e below (s₁.setTop (mkF m 40 #[.val (.int p0), .val (.int p1), .val (.int p2), .val (.int p3), .val (.int b4), .val (.int b5), .val (.int b6), .unset, .unset, .unset, .unset, .unset] [(.int p1)])) tgt
        refine XS.bipush X0.here hx rfl (hb hby at_40) ?_
        show Steps p.tables e below (s₁.setTop (mkF m 42 #[.val (.int p0), .val (.int p1), .val (.int p2), .val (.int p3), .val (.int b4), .val (.int b5), .val (.int b6), .unset, .unset, .unset, .unset, .unset] [(.int (8 : Int32)), (.int p1)])) tgt
        refine XS.iand X0.here hx rfl (hb hby at_42) rfl ?_
        show Steps p.tables e below (s₁.setTop (mkF m 43 #[.val (.int p0), .val (.int p1), .val (.int p2), .val (.int p3), .val (.int b4), .val (.int b5), .val (.int b6), .unset, .unset, .unset, .unset, .unset] [(.int (p1 &&& (8 : Int32)))])) tgt
        refine XS.ifYes X0.here hx rfl (pc0 := 43) (pc' := 50) rfl (hb hby at_43) rfl ((if0 _ _).trans (teq hc).1) (by decide) (by decide) ?_
        show Steps p.tables e below (s₁.setTop (mkF m 50 #[.val (.int p0), .val (.int p1), .val (.int p2), .val (.int p3), .val (.int b4), .val (.int b5), .val (.int b6), .unset, .unset, .unset, .unset, .unset] [])) tgt
        refine XS.iconst X0.here hx rfl (hb hby at_50) ?_
        show Steps p.tables e below (s₁.setTop (mkF m 51 #[.val (.int p0), .val (.int p1), .val (.int p2), .val (.int p3), .val (.int b4), .val (.int b5), .val (.int b6), .unset, .unset, .unset, .unset, .unset] [(.int (0 : Int32))])) tgt
        refine XS.istore X0.here hx rfl (hb hby at_51) rfl (l' := #[.val (.int p0), .val (.int p1), .val (.int p2), .val (.int p3), .val (.int b4), .val (.int b5), .val (.int b6), .val (.int (0 : Int32)), .unset, .unset, .unset, .unset]) rfl ?_
        exact kont)⟩
    · exact ⟨(1 : Int32), Or.inr rfl, fun tgt kont => go3 tgt (by
        show Steps p.tables e below (s₁.setTop (mkF m 39 #[.val (.int p0), .val (.int p1), .val (.int p2), .val (.int p3), .val (.int b4), .val (.int b5), .val (.int b6), .unset, .unset, .unset, .unset, .unset] [])) tgt
        refine XS.iloadN X0.here hx rfl (hb hby at_39) rfl ?_
        show Steps p.tables e below (s₁.setTop (mkF m 40 #[.val (.int p0), .val (.int p1), .val (.int p2), .val (.int p3), .val (.int b4), .val (.int b5), .val (.int b6), .unset, .unset, .unset, .unset, .unset] [(.int p1)])) tgt
        refine XS.bipush X0.here hx rfl (hb hby at_40) ?_
        show Steps p.tables e below (s₁.setTop (mkF m 42 #[.val (.int p0), .val (.int p1), .val (.int p2), .val (.int p3), .val (.int b4), .val (.int b5), .val (.int b6), .unset, .unset, .unset, .unset, .unset] [(.int (8 : Int32)), (.int p1)])) tgt
        refine XS.iand X0.here hx rfl (hb hby at_42) rfl ?_
        show Steps p.tables e below (s₁.setTop (mkF m 43 #[.val (.int p0), .val (.int p1), .val (.int p2), .val (.int p3), .val (.int b4), .val (.int b5), .val (.int b6), .unset, .unset, .unset, .unset, .unset] [(.int (p1 &&& (8 : Int32)))])) tgt
        refine XS.ifNo X0.here hx rfl (hb hby at_43) rfl ((if0 _ _).trans (feq hc).1) ?_
        show Steps p.tables e below (s₁.setTop (mkF m 46 #[.val (.int p0), .val (.int p1), .val (.int p2), .val (.int p3), .val (.int b4), .val (.int b5), .val (.int b6), .unset, .unset, .unset, .unset, .unset] [])) tgt
        refine XS.iconst X0.here hx rfl (hb hby at_46) ?_
        show Steps p.tables e below (s₁.setTop (mkF m 47 #[.val (.int p0), .val (.int p1), .val (.int p2), .val (.int p3), .val (.int b4), .val (.int b5), .val (.int b6), .unset, .unset, .unset, .unset, .unset] [(.int (1 : Int32))])) tgt
        refine XS.goto X0.here hx rfl (pc0 := 47) (pc' := 51) rfl (hb hby at_47) (by decide) (by decide) ?_
        show Steps p.tables e below (s₁.setTop (mkF m 51 #[.val (.int p0), .val (.int p1), .val (.int p2), .val (.int p3), .val (.int b4), .val (.int b5), .val (.int b6), .unset, .unset, .unset, .unset, .unset] [(.int (1 : Int32))])) tgt
        refine XS.istore X0.here hx rfl (hb hby at_51) rfl (l' := #[.val (.int p0), .val (.int p1), .val (.int p2), .val (.int p3), .val (.int b4), .val (.int b5), .val (.int b6), .val (.int (1 : Int32)), .unset, .unset, .unset, .unset]) rfl ?_
        exact kont)⟩
  have go5 : ∀ tgt, Steps p.tables e below (s₁.setTop (mkF m 54 #[.val (.int p0), .val (.int p1), .val (.int p2), .val (.int p3), .val (.int b4), .val (.int b5), .val (.int b6), .val (.int b7), .unset, .unset, .unset, .unset] [(.int (1 : Int32))])) tgt → Steps p.tables e below E0 tgt := fun tgt kont => go4 tgt (by
    show Steps p.tables e below (s₁.setTop (mkF m 53 #[.val (.int p0), .val (.int p1), .val (.int p2), .val (.int p3), .val (.int b4), .val (.int b5), .val (.int b6), .val (.int b7), .unset, .unset, .unset, .unset] [])) tgt
    refine XS.iconst X0.here hx rfl (hb hby at_53) ?_
    exact kont)
  obtain ⟨T6, h6, k6, X6, e6, E6, A6, st6⟩ := newP X0 hx hZ (hw _ (List.mem_of_getElem? (i := 0) rfl)) e0 (g := (mkF m 54 #[.val (.int p0), .val (.int p1), .val (.int p2), .val (.int p3), .val (.int b4), .val (.int b5), .val (.int b6), .val (.int b7), .unset, .unset, .unset, .unset] [(.int (1 : Int32))])) rfl (hb hby at_54) rfl (by decide) (cap := 1) (by decide) (by decide) (by decide) (by decide)
  obtain ⟨ca, g6⟩ : ∃ z, z = h0.size := ⟨_, rfl⟩
  rw [← g6] at A6 st6
  have ge_ca : n0 ≤ ca := Nat.le_trans Z0 (Nat.le_of_eq g6.symm)
  have z7 : n0 ≤ h6.size := Nat.le_trans Z0 E6.1
  have V6 : Arv Z h6 ca k6 .char (1 : Int32) [] (.int (0 : Int32)) := Arv.new A6 (by decide)
  have go6 : ∀ tgt, Steps p.tables e below (T6.setTop (mkF m 56 #[.val (.int p0), .val (.int p1), .val (.int p2), .val (.int p3), .val (.int b4), .val (.int b5), .val (.int b6), .val (.int b7), .unset, .unset, .unset, .unset] [(.ref ca)])) tgt → Steps p.tables e below E0 tgt := fun tgt kont => go5 tgt (st6 tgt kont)
  have go8 : ∀ tgt, Steps p.tables e below (T6.setTop (mkF m 67 #[.val (.int p0), .val (.int p1), .val (.int p2), .val (.int p3), .val (.int b4), .val (.int b5), .val (.int b6), .val (.int b7), .val (.ref ca), .unset, .unset, .unset] [(.int ((p3 &&& (255 : Int32)).toUInt32.toUInt16.toUInt32.toInt32)), (.int (0 : Int32)), (.ref ca)])) tgt → Steps p.tables e below E0 tgt := fun tgt kont => go6 tgt (by
    show Steps p.tables e below (T6.setTop (mkF m 56 #[.val (.int p0), .val (.int p1), .val (.int p2), .val (.int p3), .val (.int b4), .val (.int b5), .val (.int b6), .val (.int b7), .unset, .unset, .unset, .unset] [(.ref ca)])) tgt
    refine XS.astore X6.here hx rfl (hb hby at_56) rfl rfl (l' := #[.val (.int p0), .val (.int p1), .val (.int p2), .val (.int p3), .val (.int b4), .val (.int b5), .val (.int b6), .val (.int b7), .val (.ref ca), .unset, .unset, .unset]) rfl ?_
    show Steps p.tables e below (T6.setTop (mkF m 58 #[.val (.int p0), .val (.int p1), .val (.int p2), .val (.int p3), .val (.int b4), .val (.int b5), .val (.int b6), .val (.int b7), .val (.ref ca), .unset, .unset, .unset] [])) tgt
    refine XS.aload X6.here hx rfl (hb hby at_58) rfl rfl ?_
    show Steps p.tables e below (T6.setTop (mkF m 60 #[.val (.int p0), .val (.int p1), .val (.int p2), .val (.int p3), .val (.int b4), .val (.int b5), .val (.int b6), .val (.int b7), .val (.ref ca), .unset, .unset, .unset] [(.ref ca)])) tgt
    refine XS.iconst X6.here hx rfl (hb hby at_60) ?_
    show Steps p.tables e below (T6.setTop (mkF m 61 #[.val (.int p0), .val (.int p1), .val (.int p2), .val (.int p3), .val (.int b4), .val (.int b5), .val (.int b6), .val (.int b7), .val (.ref ca), .unset, .unset, .unset] [(.int (0 : Int32)), (.ref ca)])) tgt
    refine XS.iloadN X6.here hx rfl (hb hby at_61) rfl ?_
    show Steps p.tables e below (T6.setTop (mkF m 62 #[.val (.int p0), .val (.int p1), .val (.int p2), .val (.int p3), .val (.int b4), .val (.int b5), .val (.int b6), .val (.int b7), .val (.ref ca), .unset, .unset, .unset] [(.int p3), (.int (0 : Int32)), (.ref ca)])) tgt
    refine XS.sipush X6.here hx rfl (hb hby at_62) ?_
    show Steps p.tables e below (T6.setTop (mkF m 65 #[.val (.int p0), .val (.int p1), .val (.int p2), .val (.int p3), .val (.int b4), .val (.int b5), .val (.int b6), .val (.int b7), .val (.ref ca), .unset, .unset, .unset] [(.int (255 : Int32)), (.int p3), (.int (0 : Int32)), (.ref ca)])) tgt
    refine XS.iand X6.here hx rfl (hb hby at_65) rfl ?_
    show Steps p.tables e below (T6.setTop (mkF m 66 #[.val (.int p0), .val (.int p1), .val (.int p2), .val (.int p3), .val (.int b4), .val (.int b5), .val (.int b6), .val (.int b7), .val (.ref ca), .unset, .unset, .unset] [(.int (p3 &&& (255 : Int32))), (.int (0 : Int32)), (.ref ca)])) tgt
    refine XS.i2c X6.here hx rfl (hb hby at_66) rfl ?_
    exact kont)
  have p9 : Arv Z h6 ca k6 .char (1 : Int32) [(.int (0 : Int32))] (.int (0 : Int32)) := V6.pad (pad_rep [] (.int (0 : Int32)) 1)
  obtain ⟨c10, Ar10, q10, S10, M10, Hh10, G10⟩ := id p9
  obtain ⟨T10, h10, X10, e10, W10, st10⟩ := stC X6 hx hZ e6 Ar10 (j := (0 : Int32)) (inb_of S10 ⟨by decide, by decide⟩) (g := (mkF m 67 #[.val (.int p0), .val (.int p1), .val (.int p2), .val (.int p3), .val (.int b4), .val (.int b5), .val (.int b6), .val (.int b7), .val (.ref ca), .unset, .unset, .unset] [(.int ((p3 &&& (255 : Int32)).toUInt32.toUInt16.toUInt32.toInt32)), (.int (0 : Int32)), (.ref ca)])) rfl rfl (hb hby at_67)
  have z11 : n0 ≤ h10.size := Nat.le_trans z7 (Keep.of_wr W10).1
  have N10 := Fr.snoc X10 N0 ge_ca
  have f12 : Arv Z h10 ca k6 .char (1 : Int32) [(.int (nar .char ((p3 &&& (255 : Int32)).toUInt32.toUInt16.toUInt32.toInt32)))] (.int (0 : Int32)) := Arv.set Ar10 q10 S10 M10 Hh10 G10 (fits_nar_char _) W10 0 rfl (Nat.le_of_ble_eq_true rfl)
  have go10 : ∀ tgt, Steps p.tables e below (T10.setTop (mkF m 68 #[.val (.int p0), .val (.int p1), .val (.int p2), .val (.int p3), .val (.int b4), .val (.int b5), .val (.int b6), .val (.int b7), .val (.ref ca), .unset, .unset, .unset] [])) tgt → Steps p.tables e below E0 tgt := fun tgt kont => go8 tgt (st10 tgt kont)
  obtain ⟨T13, h13, X13, e13, E13, A13, D13, -, st13⟩ := newO X10 hx hZ hown (hw _ (List.mem_of_getElem? (i := 1) rfl)) (hw _ (List.mem_of_getElem? (i := 2) rfl)) (hw _ (List.mem_of_getElem? (i := 3) rfl)) e10 (g := (mkF m 68 #[.val (.int p0), .val (.int p1), .val (.int p2), .val (.int p3), .val (.int b4), .val (.int b5), .val (.int b6), .val (.int b7), .val (.ref ca), .unset, .unset, .unset] [])) rfl (hb hby at_68) (by decide) (by decide)
  obtain ⟨st, g13⟩ : ∃ z, z = h10.size := ⟨_, rfl⟩
  rw [← g13] at A13 D13 st13
  have ne_ca_st : ca ≠ st := Nat.ne_of_lt (Nat.lt_of_lt_of_le (Nat.lt_of_lt_of_le V6.lt (Keep.of_wr W10).1) (Nat.le_of_eq g13.symm))
  have ge_st : n0 ≤ st := Nat.le_trans z11 (Nat.le_of_eq g13.symm)
  have z14 : n0 ≤ h13.size := Nat.le_trans z11 E13.1
  have Fcoder_st : Fld Z h13 st "java/lang/String" "coder" "B" (.int (0 : Int32)) := D13 (Or.inr (hw _ (List.mem_of_getElem? (i := 27) rfl))) (ty := .byte) (by decide)
  have Fvalue_st : Fld Z h13 st "java/lang/String" "value" "[B" .null := D13 (Or.inr (hw _ (List.mem_of_getElem? (i := 29) rfl))) (ty := (.array .byte)) (by decide)
  have go13 : ∀ tgt, Steps p.tables e below (T13.setTop (mkF m 71 #[.val (.int p0), .val (.int p1), .val (.int p2), .val (.int p3), .val (.int b4), .val (.int b5), .val (.int b6), .val (.int b7), .val (.ref ca), .unset, .unset, .unset] [(.ref st)])) tgt → Steps p.tables e below E0 tgt := fun tgt kont => go10 tgt (st13 tgt kont)
  have hp : ∀ c ∈ ([(nar .char ((p3 &&& (255 : Int32)).toUInt32.toUInt16.toUInt32.toInt32))] : List Int32), ¬ c < 0 ∧ ¬ (255 : Int32) < c := by
    intro c hc
    simp only [List.mem_cons, List.not_mem_nil, or_false] at hc
    rcases hc with rfl
    exact own_c255 p3
  have f15 : Old Z n0 h13 := (((O0.ext E6).wr W10 ge_ca).ext E13)
  have go16 : ∀ tgt, Steps p.tables e below (T13.setTop (mkF m 74 #[.val (.int p0), .val (.int p1), .val (.int p2), .val (.int p3), .val (.int b4), .val (.int b5), .val (.int b6), .val (.int b7), .val (.ref ca), .unset, .unset, .unset] [(.ref ca), (.ref st), (.ref st)])) tgt → Steps p.tables e below E0 tgt := fun tgt kont => go13 tgt (by
    show Steps p.tables e below (T13.setTop (mkF m 71 #[.val (.int p0), .val (.int p1), .val (.int p2), .val (.int p3), .val (.int b4), .val (.int b5), .val (.int b6), .val (.int b7), .val (.ref ca), .unset, .unset, .unset] [(.ref st)])) tgt
    refine XS.dup X13.here hx rfl (hb hby at_71) rfl rfl ?_
    show Steps p.tables e below (T13.setTop (mkF m 72 #[.val (.int p0), .val (.int p1), .val (.int p2), .val (.int p3), .val (.int b4), .val (.int b5), .val (.int b6), .val (.int b7), .val (.ref ca), .unset, .unset, .unset] [(.ref st), (.ref st)])) tgt
    refine XS.aload X13.here hx rfl (hb hby at_72) rfl rfl ?_
    exact kont)
  have f17 : Arv Z h13 ca k6 .char (1 : Int32) [(.int (nar .char ((p3 &&& (255 : Int32)).toUInt32.toUInt16.toUInt32.toInt32)))] (.int (0 : Int32)) := (f12.ext E13)
  obtain ⟨_, _, ⟨T18, L18, k18, n18⟩, -, X18, ⟨Lc18, hQ18, l18, y18, z18⟩, st18⟩ := X13.specialBack hx (y := (⟨"java/lang/String", "<init>", "([C)V"⟩ : MethodName)) rfl hown (mvT hZ (hw _ (List.mem_of_getElem? (i := 4) rfl))) (mvT hZ (hw _ (List.mem_of_getElem? (i := 5) rfl))) (mvT hZ (hw _ (List.mem_of_getElem? (i := 6) rfl))) (by decide) (StrChars.Road.backV (W := 1) hZ hws (kI := 4) (hw _ (List.mem_of_getElem? (i := 2) rfl)) (cs := ([(nar .char ((p3 &&& (255 : Int32)).toUInt32.toUInt16.toUInt32.toInt32))] : List Int32)) (bs := ([(nar .char ((p3 &&& (255 : Int32)).toUInt32.toUInt16.toUInt32.toInt32))] : List Int32).map (fun c => c.toInt8.toInt32)) (n := 1) ge_st z14 A13 Fvalue_st Fcoder_st f17 (SC.ext f15.2) hG rfl rfl (by decide) (by decide) hp rfl (by decide) (by decide)) (g := (mkF m 74 #[.val (.int p0), .val (.int p1), .val (.int p2), .val (.int p3), .val (.int b4), .val (.int b5), .val (.int b6), .val (.int b7), .val (.ref ca), .unset, .unset, .unset] [(.ref ca), (.ref st), (.ref st)])) rfl (by rw [hml]; rfl) (Steps.refl _) (a := st) (argsL := [(.ref ca)]) (rest := [(.ref st)]) (lenOf pd_8 rfl) rfl (by show 2 * 0 + _ ≤ _; exact Nat.le_of_eq rfl) (hb hby at_74) (fun _ _ => ⟨rfl, e13, (by decide : 2 + 1 ≤ _), (by decide : 5 + 1 ≤ _)⟩)
  dsimp only [Pt.U, Pt.locs, Pt.cells, Pt.slots] at X18 l18 y18 z18 st18 hQ18
  subst l18 y18 z18
  obtain ⟨rfl, N18q, KS, ES, FcS, tS, kbS, gtS, ztS, ntS, FvS, AvS⟩ := hQ18
  have N18 := Fr.app N10 N18q
  have z19 : n0 ≤ T18.heap.size := Nat.le_trans z14 KS.1
  have go18 : ∀ tgt, Steps p.tables e below (T18.setTop (mkF m 77 #[.val (.int p0), .val (.int p1), .val (.int p2), .val (.int p3), .val (.int b4), .val (.int b5), .val (.int b6), .val (.int b7), .val (.ref ca), .unset, .unset, .unset] [(.ref st)])) tgt → Steps p.tables e below E0 tgt := fun tgt kont => go16 tgt (st18.trans kont)
  have ne_ca_tS : ca ≠ tS := Nat.ne_of_lt (Nat.lt_of_lt_of_le (Nat.lt_of_lt_of_le V6.lt (Nat.le_trans (Keep.of_wr W10).1 E13.1)) ztS)
  have lt_st_tS : st < tS := Nat.lt_of_lt_of_le A13.lt ztS
  have go20 : ∀ tgt, Steps p.tables e below (T18.setTop (mkF m 81 #[.val (.int p0), .val (.int p1), .val (.int p2), .val (.int p3), .val (.int b4), .val (.int b5), .val (.int b6), .val (.int b7), .val (.ref ca), .val (.ref st), .unset, .unset] [(.int b4)])) tgt → Steps p.tables e below E0 tgt := fun tgt kont => go18 tgt (by
    show Steps p.tables e below (T18.setTop (mkF m 77 #[.val (.int p0), .val (.int p1), .val (.int p2), .val (.int p3), .val (.int b4), .val (.int b5), .val (.int b6), .val (.int b7), .val (.ref ca), .unset, .unset, .unset] [(.ref st)])) tgt
    refine XS.astore X18.here hx rfl (hb hby at_77) rfl rfl (l' := #[.val (.int p0), .val (.int p1), .val (.int p2), .val (.int p3), .val (.int b4), .val (.int b5), .val (.int b6), .val (.int b7), .val (.ref ca), .val (.ref st), .unset, .unset]) rfl ?_
    show Steps p.tables e below (T18.setTop (mkF m 79 #[.val (.int p0), .val (.int p1), .val (.int p2), .val (.int p3), .val (.int b4), .val (.int b5), .val (.int b6), .val (.int b7), .val (.ref ca), .val (.ref st), .unset, .unset] [])) tgt
    refine XS.iload X18.here hx rfl (hb hby at_79) rfl ?_
    exact kont)
  by_cases hbb : b4 = (0 : Int32)
  · have go21 : ∀ tgt, Steps p.tables e below (T18.setTop (mkF m 109 #[.val (.int p0), .val (.int p1), .val (.int p2), .val (.int p3), .val (.int b4), .val (.int b5), .val (.int b6), .val (.int b7), .val (.ref ca), .val (.ref st), .val .null, .unset] [])) tgt → Steps p.tables e below E0 tgt := fun tgt kont => go20 tgt (by
      show Steps p.tables e below (T18.setTop (mkF m 81 #[.val (.int p0), .val (.int p1), .val (.int p2), .val (.int p3), .val (.int b4), .val (.int b5), .val (.int b6), .val (.int b7), .val (.ref ca), .val (.ref st), .unset, .unset] [(.int b4)])) tgt
      refine XS.ifYes X18.here hx rfl (pc0 := 81) (pc' := 106) rfl (hb hby at_81) rfl ((if0 _ _).trans (teq hbb).1) (by decide) (by decide) ?_
      show Steps p.tables e below (T18.setTop (mkF m 106 #[.val (.int p0), .val (.int p1), .val (.int p2), .val (.int p3), .val (.int b4), .val (.int b5), .val (.int b6), .val (.int b7), .val (.ref ca), .val (.ref st), .unset, .unset] [])) tgt
      refine XS.aconstNull X18.here hx rfl (hb hby at_106) ?_
      show Steps p.tables e below (T18.setTop (mkF m 107 #[.val (.int p0), .val (.int p1), .val (.int p2), .val (.int p3), .val (.int b4), .val (.int b5), .val (.int b6), .val (.int b7), .val (.ref ca), .val (.ref st), .unset, .unset] [.null])) tgt
      refine XS.astore X18.here hx rfl (hb hby at_107) rfl rfl (l' := #[.val (.int p0), .val (.int p1), .val (.int p2), .val (.int p3), .val (.int b4), .val (.int b5), .val (.int b6), .val (.int b7), .val (.ref ca), .val (.ref st), .val .null, .unset]) rfl ?_
      exact kont)
    obtain ⟨T22, h22, X22, e22, E22, A22, D22, -, st22⟩ := newO X18 hx hZ hown (hw _ (List.mem_of_getElem? (i := 46) rfl)) (hw _ (List.mem_of_getElem? (i := 47) rfl)) (hw _ (List.mem_of_getElem? (i := 48) rfl)) rfl (g := (mkF m 109 #[.val (.int p0), .val (.int p1), .val (.int p2), .val (.int p3), .val (.int b4), .val (.int b5), .val (.int b6), .val (.int b7), .val (.ref ca), .val (.ref st), .val .null, .unset] [])) rfl (hb hby at_109) (by decide) (by decide)
    obtain ⟨re, g22⟩ : ∃ z, z = T18.heap.size := ⟨_, rfl⟩
    rw [← g22] at A22 D22 st22
    have ne_ca_re : ca ≠ re := Nat.ne_of_lt (Nat.lt_of_lt_of_le (Nat.lt_of_lt_of_le V6.lt (Nat.le_trans (Nat.le_trans (Keep.of_wr W10).1 E13.1) KS.1)) (Nat.le_of_eq g22.symm))
    have ne_st_re : st ≠ re := Nat.ne_of_lt (Nat.lt_of_lt_of_le (Nat.lt_of_lt_of_le A13.lt KS.1) (Nat.le_of_eq g22.symm))
    have ne_tS_re : tS ≠ re := Nat.ne_of_lt (Nat.lt_of_lt_of_le AvS.lt (Nat.le_of_eq g22.symm))
    have ge_re : n0 ≤ re := Nat.le_trans z19 (Nat.le_of_eq g22.symm)
    have z23 : n0 ≤ h22.size := Nat.le_trans z19 E22.1
    have Fid_re : Fld Z h22 re "com/example/turnwise/turnwise/engine/Reply" "id" "I" (.int (0 : Int32)) := D22 (Or.inr (hw _ (List.mem_of_getElem? (i := 65) rfl))) (ty := .int) (by decide)
    have Ftext_re : Fld Z h22 re "com/example/turnwise/turnwise/engine/Reply" "text" "Ljava/lang/String;" .null := D22 (Or.inr (hw _ (List.mem_of_getElem? (i := 67) rfl))) (ty := (.object "java/lang/String")) (by decide)
    have Fnext_re : Fld Z h22 re "com/example/turnwise/turnwise/engine/Reply" "next" "Lcom/example/turnwise/turnwise/script/Position;" .null := D22 (Or.inr (hw _ (List.mem_of_getElem? (i := 69) rfl))) (ty := (.object "com/example/turnwise/turnwise/script/Position")) (by decide)
    have FnextLine_re : Fld Z h22 re "com/example/turnwise/turnwise/engine/Reply" "nextLine" "Ljava/lang/String;" .null := D22 (Or.inr (hw _ (List.mem_of_getElem? (i := 71) rfl))) (ty := (.object "java/lang/String")) (by decide)
    have Fsets_re : Fld Z h22 re "com/example/turnwise/turnwise/engine/Reply" "sets" "Ljava/util/Map;" .null := D22 (Or.inr (hw _ (List.mem_of_getElem? (i := 73) rfl))) (ty := (.object "java/util/Map")) (by decide)
    have Factions_re : Fld Z h22 re "com/example/turnwise/turnwise/engine/Reply" "actions" "Ljava/util/List;" .null := D22 (Or.inr (hw _ (List.mem_of_getElem? (i := 75) rfl))) (ty := (.object "java/util/List")) (by decide)
    have go22 : ∀ tgt, Steps p.tables e below (T22.setTop (mkF m 112 #[.val (.int p0), .val (.int p1), .val (.int p2), .val (.int p3), .val (.int b4), .val (.int b5), .val (.int b6), .val (.int b7), .val (.ref ca), .val (.ref st), .val .null, .unset] [(.ref re)])) tgt → Steps p.tables e below E0 tgt := fun tgt kont => go21 tgt (st22 tgt kont)
    have go24 : ∀ tgt, Steps p.tables e below (T22.setTop (mkF m 116 #[.val (.int p0), .val (.int p1), .val (.int p2), .val (.int p3), .val (.int b4), .val (.int b5), .val (.int b6), .val (.int b7), .val (.ref ca), .val (.ref st), .val .null, .unset] [(.int b5), (.int p0), (.ref re), (.ref re)])) tgt → Steps p.tables e below E0 tgt := fun tgt kont => go22 tgt (by
      show Steps p.tables e below (T22.setTop (mkF m 112 #[.val (.int p0), .val (.int p1), .val (.int p2), .val (.int p3), .val (.int b4), .val (.int b5), .val (.int b6), .val (.int b7), .val (.ref ca), .val (.ref st), .val .null, .unset] [(.ref re)])) tgt
      refine XS.dup X22.here hx rfl (hb hby at_112) rfl rfl ?_
      show Steps p.tables e below (T22.setTop (mkF m 113 #[.val (.int p0), .val (.int p1), .val (.int p2), .val (.int p3), .val (.int b4), .val (.int b5), .val (.int b6), .val (.int b7), .val (.ref ca), .val (.ref st), .val .null, .unset] [(.ref re), (.ref re)])) tgt
      refine XS.iloadN X22.here hx rfl (hb hby at_113) rfl ?_
      show Steps p.tables e below (T22.setTop (mkF m 114 #[.val (.int p0), .val (.int p1), .val (.int p2), .val (.int p3), .val (.int b4), .val (.int b5), .val (.int b6), .val (.int b7), .val (.ref ca), .val (.ref st), .val .null, .unset] [(.int p0), (.ref re), (.ref re)])) tgt
      refine XS.iload X22.here hx rfl (hb hby at_114) rfl ?_
      exact kont)
    obtain ⟨vt, hvtr, hvt, go25⟩ : ∃ vt : Value, vt.isRef = true ∧ (True) ∧ ∀ tgt, Steps p.tables e below (T22.setTop (mkF m 125 #[.val (.int p0), .val (.int p1), .val (.int p2), .val (.int p3), .val (.int b4), .val (.int b5), .val (.int b6), .val (.int b7), .val (.ref ca), .val (.ref st), .val .null, .unset] [vt, (.int p0), (.ref re), (.ref re)])) tgt → Steps p.tables e below E0 tgt := by
      by_cases hd : b5 = (0 : Int32)
      · exact ⟨.null, rfl, trivial, fun tgt kont => go24 tgt (by
          show Steps p.tables e below (T22.setTop (mkF m 116 #[.val (.int p0), .val (.int p1), .val (.int p2), .val (.int p3), .val (.int b4), .val (.int b5), .val (.int b6), .val (.int b7), .val (.ref ca), .val (.ref st), .val .null, .unset] [(.int b5), (.int p0), (.ref re), (.ref re)])) tgt
          refine XS.ifYes X22.here hx rfl (pc0 := 116) (pc' := 124) rfl (hb hby at_116) rfl ((if0 _ _).trans (teq hd).1) (by decide) (by decide) ?_
          show Steps p.tables e below (T22.setTop (mkF m 124 #[.val (.int p0), .val (.int p1), .val (.int p2), .val (.int p3), .val (.int b4), .val (.int b5), .val (.int b6), .val (.int b7), .val (.ref ca), .val (.ref st), .val .null, .unset] [(.int p0), (.ref re), (.ref re)])) tgt
          refine XS.aconstNull X22.here hx rfl (hb hby at_124) ?_
          exact kont)⟩
      · exact ⟨(.ref st), rfl, trivial, fun tgt kont => go24 tgt (by
          show Steps p.tables e below (T22.setTop (mkF m 116 #[.val (.int p0), .val (.int p1), .val (.int p2), .val (.int p3), .val (.int b4), .val (.int b5), .val (.int b6), .val (.int b7), .val (.ref ca), .val (.ref st), .val .null, .unset] [(.int b5), (.int p0), (.ref re), (.ref re)])) tgt
          refine XS.ifNo X22.here hx rfl (hb hby at_116) rfl ((if0 _ _).trans (feq hd).1) ?_
          show Steps p.tables e below (T22.setTop (mkF m 119 #[.val (.int p0), .val (.int p1), .val (.int p2), .val (.int p3), .val (.int b4), .val (.int b5), .val (.int b6), .val (.int b7), .val (.ref ca), .val (.ref st), .val .null, .unset] [(.int p0), (.ref re), (.ref re)])) tgt
          refine XS.aload X22.here hx rfl (hb hby at_119) rfl rfl ?_
          show Steps p.tables e below (T22.setTop (mkF m 121 #[.val (.int p0), .val (.int p1), .val (.int p2), .val (.int p3), .val (.int b4), .val (.int b5), .val (.int b6), .val (.int b7), .val (.ref ca), .val (.ref st), .val .null, .unset] [(.ref st), (.int p0), (.ref re), (.ref re)])) tgt
          refine XS.goto X22.here hx rfl (pc0 := 121) (pc' := 125) rfl (hb hby at_121) (by decide) (by decide) ?_
          exact kont)⟩
    have go26 : ∀ tgt, Steps p.tables e below (T22.setTop (mkF m 129 #[.val (.int p0), .val (.int p1), .val (.int p2), .val (.int p3), .val (.int b4), .val (.int b5), .val (.int b6), .val (.int b7), .val (.ref ca), .val (.ref st), .val .null, .unset] [(.int b6), .null, vt, (.int p0), (.ref re), (.ref re)])) tgt → Steps p.tables e below E0 tgt := fun tgt kont => go25 tgt (by
      show Steps p.tables e below (T22.setTop (mkF m 125 #[.val (.int p0), .val (.int p1), .val (.int p2), .val (.int p3), .val (.int b4), .val (.int b5), .val (.int b6), .val (.int b7), .val (.ref ca), .val (.ref st), .val .null, .unset] [vt, (.int p0), (.ref re), (.ref re)])) tgt
      refine XS.aload X22.here hx rfl (hb hby at_125) rfl rfl ?_
      show Steps p.tables e below (T22.setTop (mkF m 127 #[.val (.int p0), .val (.int p1), .val (.int p2), .val (.int p3), .val (.int b4), .val (.int b5), .val (.int b6), .val (.int b7), .val (.ref ca), .val (.ref st), .val .null, .unset] [.null, vt, (.int p0), (.ref re), (.ref re)])) tgt
      refine XS.iload X22.here hx rfl (hb hby at_127) rfl ?_
      exact kont)
    obtain ⟨vl, hvlr, hvl, go27⟩ : ∃ vl : Value, vl.isRef = true ∧ (True) ∧ ∀ tgt, Steps p.tables e below (T22.setTop (mkF m 138 #[.val (.int p0), .val (.int p1), .val (.int p2), .val (.int p3), .val (.int b4), .val (.int b5), .val (.int b6), .val (.int b7), .val (.ref ca), .val (.ref st), .val .null, .unset] [vl, .null, vt, (.int p0), (.ref re), (.ref re)])) tgt → Steps p.tables e below E0 tgt := by
      by_cases hd : b6 = (0 : Int32)
      · exact ⟨.null, rfl, trivial, fun tgt kont => go26 tgt (by
          show Steps p.tables e below (T22.setTop (mkF m 129 #[.val (.int p0), .val (.int p1), .val (.int p2), .val (.int p3), .val (.int b4), .val (.int b5), .val (.int b6), .val (.int b7), .val (.ref ca), .val (.ref st), .val .null, .unset] [(.int b6), .null, vt, (.int p0), (.ref re), (.ref re)])) tgt
          refine XS.ifYes X22.here hx rfl (pc0 := 129) (pc' := 137) rfl (hb hby at_129) rfl ((if0 _ _).trans (teq hd).1) (by decide) (by decide) ?_
          show Steps p.tables e below (T22.setTop (mkF m 137 #[.val (.int p0), .val (.int p1), .val (.int p2), .val (.int p3), .val (.int b4), .val (.int b5), .val (.int b6), .val (.int b7), .val (.ref ca), .val (.ref st), .val .null, .unset] [.null, vt, (.int p0), (.ref re), (.ref re)])) tgt
          refine XS.aconstNull X22.here hx rfl (hb hby at_137) ?_
          exact kont)⟩
      · exact ⟨(.ref st), rfl, trivial, fun tgt kont => go26 tgt (by
          show Steps p.tables e below (T22.setTop (mkF m 129 #[.val (.int p0), .val (.int p1), .val (.int p2), .val (.int p3), .val (.int b4), .val (.int b5), .val (.int b6), .val (.int b7), .val (.ref ca), .val (.ref st), .val .null, .unset] [(.int b6), .null, vt, (.int p0), (.ref re), (.ref re)])) tgt
          refine XS.ifNo X22.here hx rfl (hb hby at_129) rfl ((if0 _ _).trans (feq hd).1) ?_
          show Steps p.tables e below (T22.setTop (mkF m 132 #[.val (.int p0), .val (.int p1), .val (.int p2), .val (.int p3), .val (.int b4), .val (.int b5), .val (.int b6), .val (.int b7), .val (.ref ca), .val (.ref st), .val .null, .unset] [.null, vt, (.int p0), (.ref re), (.ref re)])) tgt
          refine XS.aload X22.here hx rfl (hb hby at_132) rfl rfl ?_
          show Steps p.tables e below (T22.setTop (mkF m 134 #[.val (.int p0), .val (.int p1), .val (.int p2), .val (.int p3), .val (.int b4), .val (.int b5), .val (.int b6), .val (.int b7), .val (.ref ca), .val (.ref st), .val .null, .unset] [(.ref st), .null, vt, (.int p0), (.ref re), (.ref re)])) tgt
          refine XS.goto X22.here hx rfl (pc0 := 134) (pc' := 138) rfl (hb hby at_134) (by decide) (by decide) ?_
          exact kont)⟩
    have f28 : Old Z n0 h22 := ((f15.keep KS (allS ge_st all0)).ext E22)
    have go29 : ∀ tgt, Steps p.tables e below (T22.setTop (mkF m 140 #[.val (.int p0), .val (.int p1), .val (.int p2), .val (.int p3), .val (.int b4), .val (.int b5), .val (.int b6), .val (.int b7), .val (.ref ca), .val (.ref st), .val .null, .unset] [.null, .null, vl, .null, vt, (.int p0), (.ref re), (.ref re)])) tgt → Steps p.tables e below E0 tgt := fun tgt kont => go27 tgt (by
      show Steps p.tables e below (T22.setTop (mkF m 138 #[.val (.int p0), .val (.int p1), .val (.int p2), .val (.int p3), .val (.int b4), .val (.int b5), .val (.int b6), .val (.int b7), .val (.ref ca), .val (.ref st), .val .null, .unset] [vl, .null, vt, (.int p0), (.ref re), (.ref re)])) tgt
      refine XS.aconstNull X22.here hx rfl (hb hby at_138) ?_
      show Steps p.tables e below (T22.setTop (mkF m 139 #[.val (.int p0), .val (.int p1), .val (.int p2), .val (.int p3), .val (.int b4), .val (.int b5), .val (.int b6), .val (.int b7), .val (.ref ca), .val (.ref st), .val .null, .unset] [.null, vl, .null, vt, (.int p0), (.ref re), (.ref re)])) tgt
      refine XS.aconstNull X22.here hx rfl (hb hby at_139) ?_
      exact kont)
    obtain ⟨_, _, ⟨T30, L30, k30, n30⟩, -, X30, ⟨Lc30, hQ30, l30, y30, z30⟩, st30⟩ := X22.specialBack hx (y := (⟨"com/example/turnwise/turnwise/engine/Reply", "<init>", "(ILjava/lang/String;Lcom/example/turnwise/turnwise/script/Position;Ljava/lang/String;Ljava/util/Map;Ljava/util/List;)V"⟩ : MethodName)) rfl hown (mvT hZ (hw _ (List.mem_of_getElem? (i := 49) rfl))) (mvT hZ (hw _ (List.mem_of_getElem? (i := 50) rfl))) (mvT hZ (hw _ (List.mem_of_getElem? (i := 51) rfl))) (by decide) (backOf (W := 1) (rmRI l Z a0 hw [] re p0 vt .null vl gm gl h22 n0 z23 hvtr rfl hvlr A22 ge_re Fid_re Ftext_re Fnext_re FnextLine_re Fsets_re Factions_re (SM.ext f28.2) (SL.ext f28.2)) hZ (hw _ (List.mem_of_getElem? (i := 51) rfl)) (hw _ (List.mem_of_getElem? (i := 48) rfl)) (by decide) (by decide)) (g := (mkF m 140 #[.val (.int p0), .val (.int p1), .val (.int p2), .val (.int p3), .val (.int b4), .val (.int b5), .val (.int b6), .val (.int b7), .val (.ref ca), .val (.ref st), .val .null, .unset] [.null, .null, vl, .null, vt, (.int p0), (.ref re), (.ref re)])) rfl (by rw [hml]; rfl) (Steps.refl _) (a := re) (argsL := [(.int p0), vt, .null, vl, .null, .null]) (rest := [(.ref re)]) (lenOf pd_9 rfl) rfl (by show 2 * 0 + _ ≤ _; exact Nat.le_of_eq rfl) (hb hby at_140) (fun _ _ => ⟨rfl, e22, (by decide : 4 + 0 ≤ _), (by decide : 12 + 0 ≤ _)⟩)
    dsimp only [Pt.U, Pt.locs, Pt.cells, Pt.slots] at X30 l30 y30 z30 st30 hQ30
    subst l30 y30 z30
    obtain ⟨rfl, N30q, KR, ER, FR⟩ := hQ30
    have N30 := Fr.app N18 N30q
    have z31 : n0 ≤ T30.heap.size := Nat.le_trans z23 KR.1
    have go30 : ∀ tgt, Steps p.tables e below (T30.setTop (mkF m 143 #[.val (.int p0), .val (.int p1), .val (.int p2), .val (.int p3), .val (.int b4), .val (.int b5), .val (.int b6), .val (.int b7), .val (.ref ca), .val (.ref st), .val .null, .unset] [(.ref re)])) tgt → Steps p.tables e below E0 tgt := fun tgt kont => go29 tgt (st30.trans kont)
    have go32 : ∀ tgt, Steps p.tables e below (T30.setTop (mkF m 147 #[.val (.int p0), .val (.int p1), .val (.int p2), .val (.int p3), .val (.int b4), .val (.int b5), .val (.int b6), .val (.int b7), .val (.ref ca), .val (.ref st), .val .null, .val (.ref re)] [(.ref re)])) tgt → Steps p.tables e below E0 tgt := fun tgt kont => go30 tgt (by
      show Steps p.tables e below (T30.setTop (mkF m 143 #[.val (.int p0), .val (.int p1), .val (.int p2), .val (.int p3), .val (.int b4), .val (.int b5), .val (.int b6), .val (.int b7), .val (.ref ca), .val (.ref st), .val .null, .unset] [(.ref re)])) tgt
      refine XS.astore X30.here hx rfl (hb hby at_143) rfl rfl (l' := #[.val (.int p0), .val (.int p1), .val (.int p2), .val (.int p3), .val (.int b4), .val (.int b5), .val (.int b6), .val (.int b7), .val (.ref ca), .val (.ref st), .val .null, .val (.ref re)]) rfl ?_
      show Steps p.tables e below (T30.setTop (mkF m 145 #[.val (.int p0), .val (.int p1), .val (.int p2), .val (.int p3), .val (.int b4), .val (.int b5), .val (.int b6), .val (.int b7), .val (.ref ca), .val (.ref st), .val .null, .val (.ref re)] [])) tgt
      refine XS.aload X30.here hx rfl (hb hby at_145) rfl rfl ?_
      exact kont)
    obtain ⟨cq33, kq33, q33a, q33b, q33c⟩ := isOf hZ rfl ER
    obtain ⟨_, _, ⟨T33, L33, k33, n33⟩, -, X33, ⟨Lc33, hQ33, l33, y33, z33⟩, st33⟩ := X30.virtualBack hx (y := (⟨"com/example/turnwise/turnwise/engine/Reply", "endsDialogue", "()Z"⟩ : MethodName)) (z := (⟨"com/example/turnwise/turnwise/engine/Reply", "endsDialogue", "()Z"⟩ : MethodName)) hown (mvT hZ (hw _ (List.mem_of_getElem? (i := 76) rfl))) (mvT hZ (hw _ (List.mem_of_getElem? (i := 77) rfl))) (notFace_of_selects (args := #[]) (mvT hZ (hw _ (List.mem_of_getElem? (i := 79) rfl)))) (mvT hZ (hw _ (List.mem_of_getElem? (i := 79) rfl))) (mvT hZ (hw _ (List.mem_of_getElem? (i := 78) rfl))) (by decide) (backOf (W := 0) (rmE0 l Z a0 hw [] re re T30.heap n0 z31 FR) hZ (hw _ (List.mem_of_getElem? (i := 80) rfl)) (hw _ (List.mem_of_getElem? (i := 48) rfl)) (by decide) (by decide)) q33a q33c (g := (mkF m 147 #[.val (.int p0), .val (.int p1), .val (.int p2), .val (.int p3), .val (.int b4), .val (.int b5), .val (.int b6), .val (.int b7), .val (.ref ca), .val (.ref st), .val .null, .val (.ref re)] [(.ref re)])) rfl (by rw [hml]; rfl) (Steps.refl _) (argsL := []) (rest := []) (lenOf pd_10 rfl) rfl (by show 2 * 0 + _ ≤ _; exact Nat.le_of_eq rfl) (hb hby at_147) (fun _ _ => ⟨rfl, rfl, (by decide : 4 + 0 ≤ _), (by decide : 12 + 0 ≤ _)⟩)
    dsimp only [Pt.U, Pt.locs, Pt.cells, Pt.slots] at X33 l33 y33 z33 st33 hQ33
    subst l33 y33 z33
    obtain ⟨rfl, N33q, e33⟩ := hQ33
    have N33 := Fr.app N30 N33q
    have go33 : ∀ tgt, Steps p.tables e below (T33.setTop (mkF m 150 #[.val (.int p0), .val (.int p1), .val (.int p2), .val (.int p3), .val (.int b4), .val (.int b5), .val (.int b6), .val (.int b7), .val (.ref ca), .val (.ref st), .val .null, .val (.ref re)] [(.int (1 : Int32))])) tgt → Steps p.tables e below E0 tgt := fun tgt kont => go32 tgt (st33.trans kont)
    have go34 : ∀ tgt, Steps p.tables e below (T33.setTop (mkF m 168 #[.val (.int p0), .val (.int p1), .val (.int p2), .val (.int p3), .val (.int b4), .val (.int b5), .val (.int b6), .val (.int b7), .val (.ref ca), .val (.ref st), .val .null, .val (.ref re)] [(.int (1 : Int32))])) tgt → Steps p.tables e below E0 tgt := fun tgt kont => go33 tgt (by
      show Steps p.tables e below (T33.setTop (mkF m 150 #[.val (.int p0), .val (.int p1), .val (.int p2), .val (.int p3), .val (.int b4), .val (.int b5), .val (.int b6), .val (.int b7), .val (.ref ca), .val (.ref st), .val .null, .val (.ref re)] [(.int (1 : Int32))])) tgt
      refine XS.iload X33.here hx rfl (hb hby at_150) rfl ?_
      show Steps p.tables e below (T33.setTop (mkF m 152 #[.val (.int p0), .val (.int p1), .val (.int p2), .val (.int p3), .val (.int b4), .val (.int b5), .val (.int b6), .val (.int b7), .val (.ref ca), .val (.ref st), .val .null, .val (.ref re)] [(.int b4), (.int (1 : Int32))])) tgt
      refine XS.ifNo X33.here hx rfl (hb hby at_152) rfl ((if0 _ _).trans (teq hbb).2) ?_
      show Steps p.tables e below (T33.setTop (mkF m 155 #[.val (.int p0), .val (.int p1), .val (.int p2), .val (.int p3), .val (.int b4), .val (.int b5), .val (.int b6), .val (.int b7), .val (.ref ca), .val (.ref st), .val .null, .val (.ref re)] [(.int (1 : Int32))])) tgt
      refine XS.iconst X33.here hx rfl (hb hby at_155) ?_
      show Steps p.tables e below (T33.setTop (mkF m 156 #[.val (.int p0), .val (.int p1), .val (.int p2), .val (.int p3), .val (.int b4), .val (.int b5), .val (.int b6), .val (.int b7), .val (.ref ca), .val (.ref st), .val .null, .val (.ref re)] [(.int (1 : Int32)), (.int (1 : Int32))])) tgt
      refine XS.goto X33.here hx rfl (pc0 := 156) (pc' := 160) rfl (hb hby at_156) (by decide) (by decide) ?_
      show Steps p.tables e below (T33.setTop (mkF m 160 #[.val (.int p0), .val (.int p1), .val (.int p2), .val (.int p3), .val (.int b4), .val (.int b5), .val (.int b6), .val (.int b7), .val (.ref ca), .val (.ref st), .val .null, .val (.ref re)] [(.int (1 : Int32)), (.int (1 : Int32))])) tgt
      refine XS.icmpNo X33.here hx rfl (hb hby at_160) rfl (teq rfl).2 ?_
      show Steps p.tables e below (T33.setTop (mkF m 163 #[.val (.int p0), .val (.int p1), .val (.int p2), .val (.int p3), .val (.int b4), .val (.int b5), .val (.int b6), .val (.int b7), .val (.ref ca), .val (.ref st), .val .null, .val (.ref re)] [])) tgt
      refine XS.iconst X33.here hx rfl (hb hby at_163) ?_
      show Steps p.tables e below (T33.setTop (mkF m 164 #[.val (.int p0), .val (.int p1), .val (.int p2), .val (.int p3), .val (.int b4), .val (.int b5), .val (.int b6), .val (.int b7), .val (.ref ca), .val (.ref st), .val .null, .val (.ref re)] [(.int (1 : Int32))])) tgt
      refine XS.goto X33.here hx rfl (pc0 := 164) (pc' := 168) rfl (hb hby at_164) (by decide) (by decide) ?_
      exact kont)
    obtain ⟨fs, hr, hrun, hended, hW, hsame⟩ := X33.leave (v := some (.int (1 : Int32))) (fun h => by rw [Bd.returns] at h; cases h)
    refine ⟨_, _, go34 _ ?_, hrun, hended, _, _, rfl, ?_, ⟨_, rfl⟩, hW, hsame.mono (by decide) (by decide)⟩
    · show Steps p.tables e below (T33.setTop (mkF m 168 #[.val (.int p0), .val (.int p1), .val (.int p2), .val (.int p3), .val (.int b4), .val (.int b5), .val (.int b6), .val (.int b7), .val (.ref ca), .val (.ref st), .val .null, .val (.ref re)] [(.int (1 : Int32))])) _
      exact retN X33 hx (t := .boolean) Bd.returns (by simp) (hb hby at_168) hr
    · show QL Z p0 p1 p2 p3 G gm gl h0 n0 _ T33.heap _
      rw [e33]
      exact ⟨rfl, N33⟩
  · have go35 : ∀ tgt, Steps p.tables e below (T18.setTop (mkF m 84 #[.val (.int p0), .val (.int p1), .val (.int p2), .val (.int p3), .val (.int b4), .val (.int b5), .val (.int b6), .val (.int b7), .val (.ref ca), .val (.ref st), .unset, .unset] [])) tgt → Steps p.tables e below E0 tgt := fun tgt kont => go20 tgt (by
      show Steps p.tables e below (T18.setTop (mkF m 81 #[.val (.int p0), .val (.int p1), .val (.int p2), .val (.int p3), .val (.int b4), .val (.int b5), .val (.int b6), .val (.int b7), .val (.ref ca), .val (.ref st), .unset, .unset] [(.int b4)])) tgt
      refine XS.ifNo X18.here hx rfl (hb hby at_81) rfl ((if0 _ _).trans (feq hbb).1) ?_
      exact kont)
    obtain ⟨T36, h36, X36, e36, E36, A36, D36, -, st36⟩ := newO X18 hx hZ hown (hw _ (List.mem_of_getElem? (i := 30) rfl)) (hw _ (List.mem_of_getElem? (i := 31) rfl)) (hw _ (List.mem_of_getElem? (i := 32) rfl)) rfl (g := (mkF m 84 #[.val (.int p0), .val (.int p1), .val (.int p2), .val (.int p3), .val (.int b4), .val (.int b5), .val (.int b6), .val (.int b7), .val (.ref ca), .val (.ref st), .unset, .unset] [])) rfl (hb hby at_84) (by decide) (by decide)
    obtain ⟨po, g36⟩ : ∃ z, z = T18.heap.size := ⟨_, rfl⟩
    rw [← g36] at A36 D36 st36
    have ne_ca_po : ca ≠ po := Nat.ne_of_lt (Nat.lt_of_lt_of_le (Nat.lt_of_lt_of_le V6.lt (Nat.le_trans (Nat.le_trans (Keep.of_wr W10).1 E13.1) KS.1)) (Nat.le_of_eq g36.symm))
    have ne_st_po : st ≠ po := Nat.ne_of_lt (Nat.lt_of_lt_of_le (Nat.lt_of_lt_of_le A13.lt KS.1) (Nat.le_of_eq g36.symm))
    have ne_tS_po : tS ≠ po := Nat.ne_of_lt (Nat.lt_of_lt_of_le AvS.lt (Nat.le_of_eq g36.symm))
    have ge_po : n0 ≤ po := Nat.le_trans z19 (Nat.le_of_eq g36.symm)
    have z37 : n0 ≤ h36.size := Nat.le_trans z19 E36.1
    have Fnode_po : Fld Z h36 po "com/example/turnwise/turnwise/script/Position" "node" "Ljava/lang/String;" .null := D36 (Or.inr (hw _ (List.mem_of_getElem? (i := 43) rfl))) (ty := (.object "java/lang/String")) (by decide)
    have Fstep_po : Fld Z h36 po "com/example/turnwise/turnwise/script/Position" "step" "I" (.int (0 : Int32)) := D36 (Or.inr (hw _ (List.mem_of_getElem? (i := 45) rfl))) (ty := .int) (by decide)
    have go36 : ∀ tgt, Steps p.tables e below (T36.setTop (mkF m 87 #[.val (.int p0), .val (.int p1), .val (.int p2), .val (.int p3), .val (.int b4), .val (.int b5), .val (.int b6), .val (.int b7), .val (.ref ca), .val (.ref st), .unset, .unset] [(.ref po)])) tgt → Steps p.tables e below E0 tgt := fun tgt kont => go35 tgt (st36 tgt kont)
    have go38 : ∀ tgt, Steps p.tables e below (T36.setTop (mkF m 90 #[.val (.int p0), .val (.int p1), .val (.int p2), .val (.int p3), .val (.int b4), .val (.int b5), .val (.int b6), .val (.int b7), .val (.ref ca), .val (.ref st), .unset, .unset] [(.int b7), (.ref po), (.ref po)])) tgt → Steps p.tables e below E0 tgt := fun tgt kont => go36 tgt (by
      show Steps p.tables e below (T36.setTop (mkF m 87 #[.val (.int p0), .val (.int p1), .val (.int p2), .val (.int p3), .val (.int b4), .val (.int b5), .val (.int b6), .val (.int b7), .val (.ref ca), .val (.ref st), .unset, .unset] [(.ref po)])) tgt
      refine XS.dup X36.here hx rfl (hb hby at_87) rfl rfl ?_
      show Steps p.tables e below (T36.setTop (mkF m 88 #[.val (.int p0), .val (.int p1), .val (.int p2), .val (.int p3), .val (.int b4), .val (.int b5), .val (.int b6), .val (.int b7), .val (.ref ca), .val (.ref st), .unset, .unset] [(.ref po), (.ref po)])) tgt
      refine XS.iload X36.here hx rfl (hb hby at_88) rfl ?_
      exact kont)
    obtain ⟨vs, hvsr, hvs, go39⟩ : ∃ vs : Value, vs.isRef = true ∧ (True) ∧ ∀ tgt, Steps p.tables e below (T36.setTop (mkF m 99 #[.val (.int p0), .val (.int p1), .val (.int p2), .val (.int p3), .val (.int b4), .val (.int b5), .val (.int b6), .val (.int b7), .val (.ref ca), .val (.ref st), .unset, .unset] [vs, (.ref po), (.ref po)])) tgt → Steps p.tables e below E0 tgt := by
      by_cases hd : b7 = (0 : Int32)
      · exact ⟨(.ref st), rfl, trivial, fun tgt kont => go38 tgt (by
          show Steps p.tables e below (T36.setTop (mkF m 90 #[.val (.int p0), .val (.int p1), .val (.int p2), .val (.int p3), .val (.int b4), .val (.int b5), .val (.int b6), .val (.int b7), .val (.ref ca), .val (.ref st), .unset, .unset] [(.int b7), (.ref po), (.ref po)])) tgt
          refine XS.ifYes X36.here hx rfl (pc0 := 90) (pc' := 97) rfl (hb hby at_90) rfl ((if0 _ _).trans (teq hd).1) (by decide) (by decide) ?_
          show Steps p.tables e below (T36.setTop (mkF m 97 #[.val (.int p0), .val (.int p1), .val (.int p2), .val (.int p3), .val (.int b4), .val (.int b5), .val (.int b6), .val (.int b7), .val (.ref ca), .val (.ref st), .unset, .unset] [(.ref po), (.ref po)])) tgt
          refine XS.aload X36.here hx rfl (hb hby at_97) rfl rfl ?_
          exact kont)⟩
      · exact ⟨.null, rfl, trivial, fun tgt kont => go38 tgt (by
          show Steps p.tables e below (T36.setTop (mkF m 90 #[.val (.int p0), .val (.int p1), .val (.int p2), .val (.int p3), .val (.int b4), .val (.int b5), .val (.int b6), .val (.int b7), .val (.ref ca), .val (.ref st), .unset, .unset] [(.int b7), (.ref po), (.ref po)])) tgt
          refine XS.ifNo X36.here hx rfl (hb hby at_90) rfl ((if0 _ _).trans (feq hd).1) ?_
          show Steps p.tables e below (T36.setTop (mkF m 93 #[.val (.int p0), .val (.int p1), .val (.int p2), .val (.int p3), .val (.int b4), .val (.int b5), .val (.int b6), .val (.int b7), .val (.ref ca), .val (.ref st), .unset, .unset] [(.ref po), (.ref po)])) tgt
          refine XS.aconstNull X36.here hx rfl (hb hby at_93) ?_
          show Steps p.tables e below (T36.setTop (mkF m 94 #[.val (.int p0), .val (.int p1), .val (.int p2), .val (.int p3), .val (.int b4), .val (.int b5), .val (.int b6), .val (.int b7), .val (.ref ca), .val (.ref st), .unset, .unset] [.null, (.ref po), (.ref po)])) tgt
          refine XS.goto X36.here hx rfl (pc0 := 94) (pc' := 99) rfl (hb hby at_94) (by decide) (by decide) ?_
          exact kont)⟩
    have go40 : ∀ tgt, Steps p.tables e below (T36.setTop (mkF m 100 #[.val (.int p0), .val (.int p1), .val (.int p2), .val (.int p3), .val (.int b4), .val (.int b5), .val (.int b6), .val (.int b7), .val (.ref ca), .val (.ref st), .unset, .unset] [(.int p2), vs, (.ref po), (.ref po)])) tgt → Steps p.tables e below E0 tgt := fun tgt kont => go39 tgt (by
      show Steps p.tables e below (T36.setTop (mkF m 99 #[.val (.int p0), .val (.int p1), .val (.int p2), .val (.int p3), .val (.int b4), .val (.int b5), .val (.int b6), .val (.int b7), .val (.ref ca), .val (.ref st), .unset, .unset] [vs, (.ref po), (.ref po)])) tgt
      refine XS.iloadN X36.here hx rfl (hb hby at_99) rfl ?_
      exact kont)
    obtain ⟨_, _, ⟨T41, L41, k41, n41⟩, -, X41, ⟨Lc41, hQ41, l41, y41, z41⟩, st41⟩ := X36.specialBack hx (y := (⟨"com/example/turnwise/turnwise/script/Position", "<init>", "(Ljava/lang/String;I)V"⟩ : MethodName)) rfl hown (mvT hZ (hw _ (List.mem_of_getElem? (i := 33) rfl))) (mvT hZ (hw _ (List.mem_of_getElem? (i := 34) rfl))) (mvT hZ (hw _ (List.mem_of_getElem? (i := 35) rfl))) (by decide) (backOf (W := 1) (rmPI l Z a0 hw [] po vs p2 h36 n0 z37 hvsr A36 ge_po Fnode_po Fstep_po) hZ (hw _ (List.mem_of_getElem? (i := 35) rfl)) (hw _ (List.mem_of_getElem? (i := 32) rfl)) (by decide) (by decide)) (g := (mkF m 100 #[.val (.int p0), .val (.int p1), .val (.int p2), .val (.int p3), .val (.int b4), .val (.int b5), .val (.int b6), .val (.int b7), .val (.ref ca), .val (.ref st), .unset, .unset] [(.int p2), vs, (.ref po), (.ref po)])) rfl (by rw [hml]; rfl) (Steps.refl _) (a := po) (argsL := [vs, (.int p2)]) (rest := [(.ref po)]) (lenOf pd_11 rfl) rfl (by show 2 * 0 + _ ≤ _; exact Nat.le_of_eq rfl) (hb hby at_100) (fun _ _ => ⟨rfl, e36, (by decide : 4 + 0 ≤ _), (by decide : 8 + 0 ≤ _)⟩)
    dsimp only [Pt.U, Pt.locs, Pt.cells, Pt.slots] at X41 l41 y41 z41 st41 hQ41
    subst l41 y41 z41
    obtain ⟨rfl, N41q, KP, EP⟩ := hQ41
    have N41 := Fr.app N18 N41q
    have z42 : n0 ≤ T41.heap.size := Nat.le_trans z37 KP.1
    have go41 : ∀ tgt, Steps p.tables e below (T41.setTop (mkF m 103 #[.val (.int p0), .val (.int p1), .val (.int p2), .val (.int p3), .val (.int b4), .val (.int b5), .val (.int b6), .val (.int b7), .val (.ref ca), .val (.ref st), .unset, .unset] [(.ref po)])) tgt → Steps p.tables e below E0 tgt := fun tgt kont => go40 tgt (st41.trans kont)
    have go43 : ∀ tgt, Steps p.tables e below (T41.setTop (mkF m 109 #[.val (.int p0), .val (.int p1), .val (.int p2), .val (.int p3), .val (.int b4), .val (.int b5), .val (.int b6), .val (.int b7), .val (.ref ca), .val (.ref st), .val (.ref po), .unset] [])) tgt → Steps p.tables e below E0 tgt := fun tgt kont => go41 tgt (by
      show Steps p.tables e below (T41.setTop (mkF m 103 #[.val (.int p0), .val (.int p1), .val (.int p2), .val (.int p3), .val (.int b4), .val (.int b5), .val (.int b6), .val (.int b7), .val (.ref ca), .val (.ref st), .unset, .unset] [(.ref po)])) tgt
      refine XS.goto X41.here hx rfl (pc0 := 103) (pc' := 107) rfl (hb hby at_103) (by decide) (by decide) ?_
      show Steps p.tables e below (T41.setTop (mkF m 107 #[.val (.int p0), .val (.int p1), .val (.int p2), .val (.int p3), .val (.int b4), .val (.int b5), .val (.int b6), .val (.int b7), .val (.ref ca), .val (.ref st), .unset, .unset] [(.ref po)])) tgt
      refine XS.astore X41.here hx rfl (hb hby at_107) rfl rfl (l' := #[.val (.int p0), .val (.int p1), .val (.int p2), .val (.int p3), .val (.int b4), .val (.int b5), .val (.int b6), .val (.int b7), .val (.ref ca), .val (.ref st), .val (.ref po), .unset]) rfl ?_
      exact kont)
    obtain ⟨T44, h44, X44, e44, E44, A44, D44, -, st44⟩ := newO X41 hx hZ hown (hw _ (List.mem_of_getElem? (i := 46) rfl)) (hw _ (List.mem_of_getElem? (i := 47) rfl)) (hw _ (List.mem_of_getElem? (i := 48) rfl)) rfl (g := (mkF m 109 #[.val (.int p0), .val (.int p1), .val (.int p2), .val (.int p3), .val (.int b4), .val (.int b5), .val (.int b6), .val (.int b7), .val (.ref ca), .val (.ref st), .val (.ref po), .unset] [])) rfl (hb hby at_109) (by decide) (by decide)
    obtain ⟨re, g44⟩ : ∃ z, z = T41.heap.size := ⟨_, rfl⟩
    rw [← g44] at A44 D44 st44
    have ne_ca_re : ca ≠ re := Nat.ne_of_lt (Nat.lt_of_lt_of_le (Nat.lt_of_lt_of_le V6.lt (Nat.le_trans (Nat.le_trans (Nat.le_trans (Nat.le_trans (Keep.of_wr W10).1 E13.1) KS.1) E36.1) KP.1)) (Nat.le_of_eq g44.symm))
    have ne_st_re : st ≠ re := Nat.ne_of_lt (Nat.lt_of_lt_of_le (Nat.lt_of_lt_of_le A13.lt (Nat.le_trans (Nat.le_trans KS.1 E36.1) KP.1)) (Nat.le_of_eq g44.symm))
    have ne_tS_re : tS ≠ re := Nat.ne_of_lt (Nat.lt_of_lt_of_le (Nat.lt_of_lt_of_le AvS.lt (Nat.le_trans E36.1 KP.1)) (Nat.le_of_eq g44.symm))
    have ne_po_re : po ≠ re := Nat.ne_of_lt (Nat.lt_of_lt_of_le (Nat.lt_of_lt_of_le A36.lt KP.1) (Nat.le_of_eq g44.symm))
    have ge_re : n0 ≤ re := Nat.le_trans z42 (Nat.le_of_eq g44.symm)
    have z45 : n0 ≤ h44.size := Nat.le_trans z42 E44.1
    have Fid_re : Fld Z h44 re "com/example/turnwise/turnwise/engine/Reply" "id" "I" (.int (0 : Int32)) := D44 (Or.inr (hw _ (List.mem_of_getElem? (i := 65) rfl))) (ty := .int) (by decide)
    have Ftext_re : Fld Z h44 re "com/example/turnwise/turnwise/engine/Reply" "text" "Ljava/lang/String;" .null := D44 (Or.inr (hw _ (List.mem_of_getElem? (i := 67) rfl))) (ty := (.object "java/lang/String")) (by decide)
    have Fnext_re : Fld Z h44 re "com/example/turnwise/turnwise/engine/Reply" "next" "Lcom/example/turnwise/turnwise/script/Position;" .null := D44 (Or.inr (hw _ (List.mem_of_getElem? (i := 69) rfl))) (ty := (.object "com/example/turnwise/turnwise/script/Position")) (by decide)
    have FnextLine_re : Fld Z h44 re "com/example/turnwise/turnwise/engine/Reply" "nextLine" "Ljava/lang/String;" .null := D44 (Or.inr (hw _ (List.mem_of_getElem? (i := 71) rfl))) (ty := (.object "java/lang/String")) (by decide)
    have Fsets_re : Fld Z h44 re "com/example/turnwise/turnwise/engine/Reply" "sets" "Ljava/util/Map;" .null := D44 (Or.inr (hw _ (List.mem_of_getElem? (i := 73) rfl))) (ty := (.object "java/util/Map")) (by decide)
    have Factions_re : Fld Z h44 re "com/example/turnwise/turnwise/engine/Reply" "actions" "Ljava/util/List;" .null := D44 (Or.inr (hw _ (List.mem_of_getElem? (i := 75) rfl))) (ty := (.object "java/util/List")) (by decide)
    have go44 : ∀ tgt, Steps p.tables e below (T44.setTop (mkF m 112 #[.val (.int p0), .val (.int p1), .val (.int p2), .val (.int p3), .val (.int b4), .val (.int b5), .val (.int b6), .val (.int b7), .val (.ref ca), .val (.ref st), .val (.ref po), .unset] [(.ref re)])) tgt → Steps p.tables e below E0 tgt := fun tgt kont => go43 tgt (st44 tgt kont)
    have go46 : ∀ tgt, Steps p.tables e below (T44.setTop (mkF m 116 #[.val (.int p0), .val (.int p1), .val (.int p2), .val (.int p3), .val (.int b4), .val (.int b5), .val (.int b6), .val (.int b7), .val (.ref ca), .val (.ref st), .val (.ref po), .unset] [(.int b5), (.int p0), (.ref re), (.ref re)])) tgt → Steps p.tables e below E0 tgt := fun tgt kont => go44 tgt (by
      show Steps p.tables e below (T44.setTop (mkF m 112 #[.val (.int p0), .val (.int p1), .val (.int p2), .val (.int p3), .val (.int b4), .val (.int b5), .val (.int b6), .val (.int b7), .val (.ref ca), .val (.ref st), .val (.ref po), .unset] [(.ref re)])) tgt
      refine XS.dup X44.here hx rfl (hb hby at_112) rfl rfl ?_
      show Steps p.tables e below (T44.setTop (mkF m 113 #[.val (.int p0), .val (.int p1), .val (.int p2), .val (.int p3), .val (.int b4), .val (.int b5), .val (.int b6), .val (.int b7), .val (.ref ca), .val (.ref st), .val (.ref po), .unset] [(.ref re), (.ref re)])) tgt
      refine XS.iloadN X44.here hx rfl (hb hby at_113) rfl ?_
      show Steps p.tables e below (T44.setTop (mkF m 114 #[.val (.int p0), .val (.int p1), .val (.int p2), .val (.int p3), .val (.int b4), .val (.int b5), .val (.int b6), .val (.int b7), .val (.ref ca), .val (.ref st), .val (.ref po), .unset] [(.int p0), (.ref re), (.ref re)])) tgt
      refine XS.iload X44.here hx rfl (hb hby at_114) rfl ?_
      exact kont)
    obtain ⟨vt, hvtr, hvt, go47⟩ : ∃ vt : Value, vt.isRef = true ∧ (True) ∧ ∀ tgt, Steps p.tables e below (T44.setTop (mkF m 125 #[.val (.int p0), .val (.int p1), .val (.int p2), .val (.int p3), .val (.int b4), .val (.int b5), .val (.int b6), .val (.int b7), .val (.ref ca), .val (.ref st), .val (.ref po), .unset] [vt, (.int p0), (.ref re), (.ref re)])) tgt → Steps p.tables e below E0 tgt := by
      by_cases hd : b5 = (0 : Int32)
      · exact ⟨.null, rfl, trivial, fun tgt kont => go46 tgt (by
          show Steps p.tables e below (T44.setTop (mkF m 116 #[.val (.int p0), .val (.int p1), .val (.int p2), .val (.int p3), .val (.int b4), .val (.int b5), .val (.int b6), .val (.int b7), .val (.ref ca), .val (.ref st), .val (.ref po), .unset] [(.int b5), (.int p0), (.ref re), (.ref re)])) tgt
          refine XS.ifYes X44.here hx rfl (pc0 := 116) (pc' := 124) rfl (hb hby at_116) rfl ((if0 _ _).trans (teq hd).1) (by decide) (by decide) ?_
          show Steps p.tables e below (T44.setTop (mkF m 124 #[.val (.int p0), .val (.int p1), .val (.int p2), .val (.int p3), .val (.int b4), .val (.int b5), .val (.int b6), .val (.int b7), .val (.ref ca), .val (.ref st), .val (.ref po), .unset] [(.int p0), (.ref re), (.ref re)])) tgt
          refine XS.aconstNull X44.here hx rfl (hb hby at_124) ?_
          exact kont)⟩
      · exact ⟨(.ref st), rfl, trivial, fun tgt kont => go46 tgt (by
          show Steps p.tables e below (T44.setTop (mkF m 116 #[.val (.int p0), .val (.int p1), .val (.int p2), .val (.int p3), .val (.int b4), .val (.int b5), .val (.int b6), .val (.int b7), .val (.ref ca), .val (.ref st), .val (.ref po), .unset] [(.int b5), (.int p0), (.ref re), (.ref re)])) tgt
          refine XS.ifNo X44.here hx rfl (hb hby at_116) rfl ((if0 _ _).trans (feq hd).1) ?_
          show Steps p.tables e below (T44.setTop (mkF m 119 #[.val (.int p0), .val (.int p1), .val (.int p2), .val (.int p3), .val (.int b4), .val (.int b5), .val (.int b6), .val (.int b7), .val (.ref ca), .val (.ref st), .val (.ref po), .unset] [(.int p0), (.ref re), (.ref re)])) tgt
          refine XS.aload X44.here hx rfl (hb hby at_119) rfl rfl ?_
          show Steps p.tables e below (T44.setTop (mkF m 121 #[.val (.int p0), .val (.int p1), .val (.int p2), .val (.int p3), .val (.int b4), .val (.int b5), .val (.int b6), .val (.int b7), .val (.ref ca), .val (.ref st), .val (.ref po), .unset] [(.ref st), (.int p0), (.ref re), (.ref re)])) tgt
          refine XS.goto X44.here hx rfl (pc0 := 121) (pc' := 125) rfl (hb hby at_121) (by decide) (by decide) ?_
          exact kont)⟩
    have go48 : ∀ tgt, Steps p.tables e below (T44.setTop (mkF m 129 #[.val (.int p0), .val (.int p1), .val (.int p2), .val (.int p3), .val (.int b4), .val (.int b5), .val (.int b6), .val (.int b7), .val (.ref ca), .val (.ref st), .val (.ref po), .unset] [(.int b6), (.ref po), vt, (.int p0), (.ref re), (.ref re)])) tgt → Steps p.tables e below E0 tgt := fun tgt kont => go47 tgt (by
      show Steps p.tables e below (T44.setTop (mkF m 125 #[.val (.int p0), .val (.int p1), .val (.int p2), .val (.int p3), .val (.int b4), .val (.int b5), .val (.int b6), .val (.int b7), .val (.ref ca), .val (.ref st), .val (.ref po), .unset] [vt, (.int p0), (.ref re), (.ref re)])) tgt
      refine XS.aload X44.here hx rfl (hb hby at_125) rfl rfl ?_
      show Steps p.tables e below (T44.setTop (mkF m 127 #[.val (.int p0), .val (.int p1), .val (.int p2), .val (.int p3), .val (.int b4), .val (.int b5), .val (.int b6), .val (.int b7), .val (.ref ca), .val (.ref st), .val (.ref po), .unset] [(.ref po), vt, (.int p0), (.ref re), (.ref re)])) tgt
      refine XS.iload X44.here hx rfl (hb hby at_127) rfl ?_
      exact kont)
    obtain ⟨vl, hvlr, hvl, go49⟩ : ∃ vl : Value, vl.isRef = true ∧ (True) ∧ ∀ tgt, Steps p.tables e below (T44.setTop (mkF m 138 #[.val (.int p0), .val (.int p1), .val (.int p2), .val (.int p3), .val (.int b4), .val (.int b5), .val (.int b6), .val (.int b7), .val (.ref ca), .val (.ref st), .val (.ref po), .unset] [vl, (.ref po), vt, (.int p0), (.ref re), (.ref re)])) tgt → Steps p.tables e below E0 tgt := by
      by_cases hd : b6 = (0 : Int32)
      · exact ⟨.null, rfl, trivial, fun tgt kont => go48 tgt (by
          show Steps p.tables e below (T44.setTop (mkF m 129 #[.val (.int p0), .val (.int p1), .val (.int p2), .val (.int p3), .val (.int b4), .val (.int b5), .val (.int b6), .val (.int b7), .val (.ref ca), .val (.ref st), .val (.ref po), .unset] [(.int b6), (.ref po), vt, (.int p0), (.ref re), (.ref re)])) tgt
          refine XS.ifYes X44.here hx rfl (pc0 := 129) (pc' := 137) rfl (hb hby at_129) rfl ((if0 _ _).trans (teq hd).1) (by decide) (by decide) ?_
          show Steps p.tables e below (T44.setTop (mkF m 137 #[.val (.int p0), .val (.int p1), .val (.int p2), .val (.int p3), .val (.int b4), .val (.int b5), .val (.int b6), .val (.int b7), .val (.ref ca), .val (.ref st), .val (.ref po), .unset] [(.ref po), vt, (.int p0), (.ref re), (.ref re)])) tgt
          refine XS.aconstNull X44.here hx rfl (hb hby at_137) ?_
          exact kont)⟩
      · exact ⟨(.ref st), rfl, trivial, fun tgt kont => go48 tgt (by
          show Steps p.tables e below (T44.setTop (mkF m 129 #[.val (.int p0), .val (.int p1), .val (.int p2), .val (.int p3), .val (.int b4), .val (.int b5), .val (.int b6), .val (.int b7), .val (.ref ca), .val (.ref st), .val (.ref po), .unset] [(.int b6), (.ref po), vt, (.int p0), (.ref re), (.ref re)])) tgt
          refine XS.ifNo X44.here hx rfl (hb hby at_129) rfl ((if0 _ _).trans (feq hd).1) ?_
          show Steps p.tables e below (T44.setTop (mkF m 132 #[.val (.int p0), .val (.int p1), .val (.int p2), .val (.int p3), .val (.int b4), .val (.int b5), .val (.int b6), .val (.int b7), .val (.ref ca), .val (.ref st), .val (.ref po), .unset] [(.ref po), vt, (.int p0), (.ref re), (.ref re)])) tgt
          refine XS.aload X44.here hx rfl (hb hby at_132) rfl rfl ?_
          show Steps p.tables e below (T44.setTop (mkF m 134 #[.val (.int p0), .val (.int p1), .val (.int p2), .val (.int p3), .val (.int b4), .val (.int b5), .val (.int b6), .val (.int b7), .val (.ref ca), .val (.ref st), .val (.ref po), .unset] [(.ref st), (.ref po), vt, (.int p0), (.ref re), (.ref re)])) tgt
          refine XS.goto X44.here hx rfl (pc0 := 134) (pc' := 138) rfl (hb hby at_134) (by decide) (by decide) ?_
          exact kont)⟩
    have f50 : Old Z n0 h44 := ((((f15.keep KS (allS ge_st all0)).ext E36).keep KP (allS ge_po all0)).ext E44)
    have go51 : ∀ tgt, Steps p.tables e below (T44.setTop (mkF m 140 #[.val (.int p0), .val (.int p1), .val (.int p2), .val (.int p3), .val (.int b4), .val (.int b5), .val (.int b6), .val (.int b7), .val (.ref ca), .val (.ref st), .val (.ref po), .unset] [.null, .null, vl, (.ref po), vt, (.int p0), (.ref re), (.ref re)])) tgt → Steps p.tables e below E0 tgt := fun tgt kont => go49 tgt (by
      show Steps p.tables e below (T44.setTop (mkF m 138 #[.val (.int p0), .val (.int p1), .val (.int p2), .val (.int p3), .val (.int b4), .val (.int b5), .val (.int b6), .val (.int b7), .val (.ref ca), .val (.ref st), .val (.ref po), .unset] [vl, (.ref po), vt, (.int p0), (.ref re), (.ref re)])) tgt
      refine XS.aconstNull X44.here hx rfl (hb hby at_138) ?_
      show Steps p.tables e below (T44.setTop (mkF m 139 #[.val (.int p0), .val (.int p1), .val (.int p2), .val (.int p3), .val (.int b4), .val (.int b5), .val (.int b6), .val (.int b7), .val (.ref ca), .val (.ref st), .val (.ref po), .unset] [.null, vl, (.ref po), vt, (.int p0), (.ref re), (.ref re)])) tgt
      refine XS.aconstNull X44.here hx rfl (hb hby at_139) ?_
      exact kont)
    obtain ⟨_, _, ⟨T52, L52, k52, n52⟩, -, X52, ⟨Lc52, hQ52, l52, y52, z52⟩, st52⟩ := X44.specialBack hx (y := (⟨"com/example/turnwise/turnwise/engine/Reply", "<init>", "(ILjava/lang/String;Lcom/example/turnwise/turnwise/script/Position;Ljava/lang/String;Ljava/util/Map;Ljava/util/List;)V"⟩ : MethodName)) rfl hown (mvT hZ (hw _ (List.mem_of_getElem? (i := 49) rfl))) (mvT hZ (hw _ (List.mem_of_getElem? (i := 50) rfl))) (mvT hZ (hw _ (List.mem_of_getElem? (i := 51) rfl))) (by decide) (backOf (W := 1) (rmRI l Z a0 hw [] re p0 vt (.ref po) vl gm gl h44 n0 z45 hvtr rfl hvlr A44 ge_re Fid_re Ftext_re Fnext_re FnextLine_re Fsets_re Factions_re (SM.ext f50.2) (SL.ext f50.2)) hZ (hw _ (List.mem_of_getElem? (i := 51) rfl)) (hw _ (List.mem_of_getElem? (i := 48) rfl)) (by decide) (by decide)) (g := (mkF m 140 #[.val (.int p0), .val (.int p1), .val (.int p2), .val (.int p3), .val (.int b4), .val (.int b5), .val (.int b6), .val (.int b7), .val (.ref ca), .val (.ref st), .val (.ref po), .unset] [.null, .null, vl, (.ref po), vt, (.int p0), (.ref re), (.ref re)])) rfl (by rw [hml]; rfl) (Steps.refl _) (a := re) (argsL := [(.int p0), vt, (.ref po), vl, .null, .null]) (rest := [(.ref re)]) (lenOf pd_9 rfl) rfl (by show 2 * 0 + _ ≤ _; exact Nat.le_of_eq rfl) (hb hby at_140) (fun _ _ => ⟨rfl, e44, (by decide : 5 + 0 ≤ _), (by decide : 14 + 0 ≤ _)⟩)
    dsimp only [Pt.U, Pt.locs, Pt.cells, Pt.slots] at X52 l52 y52 z52 st52 hQ52
    subst l52 y52 z52
    obtain ⟨rfl, N52q, KR, ER, FR⟩ := hQ52
    have N52 := Fr.app N41 N52q
    have z53 : n0 ≤ T52.heap.size := Nat.le_trans z45 KR.1
    have go52 : ∀ tgt, Steps p.tables e below (T52.setTop (mkF m 143 #[.val (.int p0), .val (.int p1), .val (.int p2), .val (.int p3), .val (.int b4), .val (.int b5), .val (.int b6), .val (.int b7), .val (.ref ca), .val (.ref st), .val (.ref po), .unset] [(.ref re)])) tgt → Steps p.tables e below E0 tgt := fun tgt kont => go51 tgt (st52.trans kont)
    have go54 : ∀ tgt, Steps p.tables e below (T52.setTop (mkF m 147 #[.val (.int p0), .val (.int p1), .val (.int p2), .val (.int p3), .val (.int b4), .val (.int b5), .val (.int b6), .val (.int b7), .val (.ref ca), .val (.ref st), .val (.ref po), .val (.ref re)] [(.ref re)])) tgt → Steps p.tables e below E0 tgt := fun tgt kont => go52 tgt (by
      show Steps p.tables e below (T52.setTop (mkF m 143 #[.val (.int p0), .val (.int p1), .val (.int p2), .val (.int p3), .val (.int b4), .val (.int b5), .val (.int b6), .val (.int b7), .val (.ref ca), .val (.ref st), .val (.ref po), .unset] [(.ref re)])) tgt
      refine XS.astore X52.here hx rfl (hb hby at_143) rfl rfl (l' := #[.val (.int p0), .val (.int p1), .val (.int p2), .val (.int p3), .val (.int b4), .val (.int b5), .val (.int b6), .val (.int b7), .val (.ref ca), .val (.ref st), .val (.ref po), .val (.ref re)]) rfl ?_
      show Steps p.tables e below (T52.setTop (mkF m 145 #[.val (.int p0), .val (.int p1), .val (.int p2), .val (.int p3), .val (.int b4), .val (.int b5), .val (.int b6), .val (.int b7), .val (.ref ca), .val (.ref st), .val (.ref po), .val (.ref re)] [])) tgt
      refine XS.aload X52.here hx rfl (hb hby at_145) rfl rfl ?_
      exact kont)
    obtain ⟨cq55, kq55, q55a, q55b, q55c⟩ := isOf hZ rfl ER
    obtain ⟨_, _, ⟨T55, L55, k55, n55⟩, -, X55, ⟨Lc55, hQ55, l55, y55, z55⟩, st55⟩ := X52.virtualBack hx (y := (⟨"com/example/turnwise/turnwise/engine/Reply", "endsDialogue", "()Z"⟩ : MethodName)) (z := (⟨"com/example/turnwise/turnwise/engine/Reply", "endsDialogue", "()Z"⟩ : MethodName)) hown (mvT hZ (hw _ (List.mem_of_getElem? (i := 76) rfl))) (mvT hZ (hw _ (List.mem_of_getElem? (i := 77) rfl))) (notFace_of_selects (args := #[]) (mvT hZ (hw _ (List.mem_of_getElem? (i := 79) rfl)))) (mvT hZ (hw _ (List.mem_of_getElem? (i := 79) rfl))) (mvT hZ (hw _ (List.mem_of_getElem? (i := 78) rfl))) (by decide) (backOf (W := 0) (rmE1 l Z a0 hw [] re po T52.heap n0 z53 FR) hZ (hw _ (List.mem_of_getElem? (i := 80) rfl)) (hw _ (List.mem_of_getElem? (i := 48) rfl)) (by decide) (by decide)) q55a q55c (g := (mkF m 147 #[.val (.int p0), .val (.int p1), .val (.int p2), .val (.int p3), .val (.int b4), .val (.int b5), .val (.int b6), .val (.int b7), .val (.ref ca), .val (.ref st), .val (.ref po), .val (.ref re)] [(.ref re)])) rfl (by rw [hml]; rfl) (Steps.refl _) (argsL := []) (rest := []) (lenOf pd_10 rfl) rfl (by show 2 * 0 + _ ≤ _; exact Nat.le_of_eq rfl) (hb hby at_147) (fun _ _ => ⟨rfl, rfl, (by decide : 5 + 0 ≤ _), (by decide : 14 + 0 ≤ _)⟩)
    dsimp only [Pt.U, Pt.locs, Pt.cells, Pt.slots] at X55 l55 y55 z55 st55 hQ55
    subst l55 y55 z55
    obtain ⟨rfl, N55q, e55⟩ := hQ55
    have N55 := Fr.app N52 N55q
    have go55 : ∀ tgt, Steps p.tables e below (T55.setTop (mkF m 150 #[.val (.int p0), .val (.int p1), .val (.int p2), .val (.int p3), .val (.int b4), .val (.int b5), .val (.int b6), .val (.int b7), .val (.ref ca), .val (.ref st), .val (.ref po), .val (.ref re)] [(.int (0 : Int32))])) tgt → Steps p.tables e below E0 tgt := fun tgt kont => go54 tgt (st55.trans kont)
    have go56 : ∀ tgt, Steps p.tables e below (T55.setTop (mkF m 168 #[.val (.int p0), .val (.int p1), .val (.int p2), .val (.int p3), .val (.int b4), .val (.int b5), .val (.int b6), .val (.int b7), .val (.ref ca), .val (.ref st), .val (.ref po), .val (.ref re)] [(.int (1 : Int32))])) tgt → Steps p.tables e below E0 tgt := fun tgt kont => go55 tgt (by
      show Steps p.tables e below (T55.setTop (mkF m 150 #[.val (.int p0), .val (.int p1), .val (.int p2), .val (.int p3), .val (.int b4), .val (.int b5), .val (.int b6), .val (.int b7), .val (.ref ca), .val (.ref st), .val (.ref po), .val (.ref re)] [(.int (0 : Int32))])) tgt
      refine XS.iload X55.here hx rfl (hb hby at_150) rfl ?_
      show Steps p.tables e below (T55.setTop (mkF m 152 #[.val (.int p0), .val (.int p1), .val (.int p2), .val (.int p3), .val (.int b4), .val (.int b5), .val (.int b6), .val (.int b7), .val (.ref ca), .val (.ref st), .val (.ref po), .val (.ref re)] [(.int b4), (.int (0 : Int32))])) tgt
      refine XS.ifYes X55.here hx rfl (pc0 := 152) (pc' := 159) rfl (hb hby at_152) rfl ((if0 _ _).trans (feq hbb).2) (by decide) (by decide) ?_
      show Steps p.tables e below (T55.setTop (mkF m 159 #[.val (.int p0), .val (.int p1), .val (.int p2), .val (.int p3), .val (.int b4), .val (.int b5), .val (.int b6), .val (.int b7), .val (.ref ca), .val (.ref st), .val (.ref po), .val (.ref re)] [(.int (0 : Int32))])) tgt
      refine XS.iconst X55.here hx rfl (hb hby at_159) ?_
      show Steps p.tables e below (T55.setTop (mkF m 160 #[.val (.int p0), .val (.int p1), .val (.int p2), .val (.int p3), .val (.int b4), .val (.int b5), .val (.int b6), .val (.int b7), .val (.ref ca), .val (.ref st), .val (.ref po), .val (.ref re)] [(.int (0 : Int32)), (.int (0 : Int32))])) tgt
      refine XS.icmpNo X55.here hx rfl (hb hby at_160) rfl (teq rfl).2 ?_
      show Steps p.tables e below (T55.setTop (mkF m 163 #[.val (.int p0), .val (.int p1), .val (.int p2), .val (.int p3), .val (.int b4), .val (.int b5), .val (.int b6), .val (.int b7), .val (.ref ca), .val (.ref st), .val (.ref po), .val (.ref re)] [])) tgt
      refine XS.iconst X55.here hx rfl (hb hby at_163) ?_
      show Steps p.tables e below (T55.setTop (mkF m 164 #[.val (.int p0), .val (.int p1), .val (.int p2), .val (.int p3), .val (.int b4), .val (.int b5), .val (.int b6), .val (.int b7), .val (.ref ca), .val (.ref st), .val (.ref po), .val (.ref re)] [(.int (1 : Int32))])) tgt
      refine XS.goto X55.here hx rfl (pc0 := 164) (pc' := 168) rfl (hb hby at_164) (by decide) (by decide) ?_
      exact kont)
    obtain ⟨fs, hr, hrun, hended, hW, hsame⟩ := X55.leave (v := some (.int (1 : Int32))) (fun h => by rw [Bd.returns] at h; cases h)
    refine ⟨_, _, go56 _ ?_, hrun, hended, _, _, rfl, ?_, ⟨_, rfl⟩, hW, hsame.mono (by decide) (by decide)⟩
    · show Steps p.tables e below (T55.setTop (mkF m 168 #[.val (.int p0), .val (.int p1), .val (.int p2), .val (.int p3), .val (.int b4), .val (.int b5), .val (.int b6), .val (.int b7), .val (.ref ca), .val (.ref st), .val (.ref po), .val (.ref re)] [(.int (1 : Int32))])) _
      exact retN X55 hx (t := .boolean) Bd.returns (by simp) (hb hby at_168) hr
    · show QL Z p0 p1 p2 p3 G gm gl h0 n0 _ T55.heap _
      rw [e55]
      exact ⟨rfl, N55⟩
set_option maxRecDepth 65536 in
set_option maxHeartbeats 40000000 in
theorem comes_1 {Post : Tables → Env → Array Value → State → Outcome → State → Prop} (hpost : ∀ tb e args s v u, (limb_1_1.after args s (.returned v) u = true ∧ limb_1_2.after args s (.returned v) u = true ∧ True) → FrameEnd s (.returned v) u (Jvm.fieldLocs frame_1_writes args s ++ Jvm.arrayLocs frame_1_arrays args s ++ Jvm.staticLocs frame_1_statics s) 24 128 → Post tb e args s (.returned v) u) :
    ArmFor flags0 classFile x code maxLocals ret World_1 tables_1 room_1 Calls_1 rest_1 Pre_1 Post := by
  intro l hfl _ _ p e ha hc hk s m args below hf hA hF happ hP
  obtain ⟨hcalls, hrest, hpre⟩ := hP
  obtain ⟨-, -, -, hnamed, -, -, -, hat⟩ := (Spec.applies_iff hf).mp happ
  obtain ⟨hg, hn⟩ := and_e (Cond.before_iff.mp (show (Jvm.Cond.and given_1 narrow_1).before args s = true from hpre))
  obtain ⟨h1, r0⟩ := and_e hg
  obtain ⟨t0, r1⟩ := and_e r0
  obtain ⟨t1, r2⟩ := and_e r1
  obtain ⟨t2, r3⟩ := and_e r2
  have t3 := r3
  obtain ⟨w0, w1, w2, w3, rfl⟩ : ∃ w0 w1 w2 w3 : Value, args = #[w0, w1, w2, w3] := by
    have hs : args.size = 4 := by simpa [Cond.value, given_1] using h1
    obtain ⟨L⟩ := args
    match L, hs with
    | [w0, w1, w2, w3], _ => exact ⟨w0, w1, w2, w3, rfl⟩
  have hw := fun d (hd : d ∈ tables_1) => atoms_spec (ws := Jvm.Cond.code x code maxLocals ret :: tables_1) hat d (List.mem_cons_of_mem _ hd)
  have hfit : Fit s := fun {y c} hc i hi => by
    obtain ⟨ha, rfl⟩ := Array.getElem?_eq_some_iff.mp hc
    have q := List.all_eq_true.mp ((Array.all_eq_true_iff_forall_mem.mp hF) _ (Array.getElem_mem ha)) i (List.mem_range.mpr hi)
    simpa [Array.getElem?_eq_getElem hi] using q
  obtain ⟨i0, e0⟩ := is_v t0
  obtain rfl : w0 = (.int i0) := Option.some.inj e0
  obtain ⟨i1, e1⟩ := is_v t1
  obtain rfl : w1 = (.int i1) := Option.some.inj e1
  obtain ⟨i2, e2⟩ := is_v t2
  obtain rfl : w2 = (.int i2) := Option.some.inj e2
  obtain ⟨i3, e3⟩ := is_v t3
  obtain rfl : w3 = (.int i3) := Option.some.inj e3
  obtain ⟨hsets, hown0⟩ := atoms_of _ (rest_1_c_eq ▸ (show rest_1_c.before _ s = true from hrest))
  have nC := not_v (Cond.before_iff.mp (hsets _ (List.mem_of_getElem? (i := 2) rfl)))
  obtain ⟨iC, eC⟩ := is_v (Cond.before_iff.mp (hsets _ (List.mem_of_getElem? (i := 1) rfl)))
  have SC : Sta s s.heap "java/lang/String" "COMPACT_STRINGS" "Z" (.int iC) := Sta.start eC (Or.inl (hsets _ (List.mem_of_getElem? (i := 0) rfl)))
  have cC : ¬ (iC = (0 : Int32)) := gotF (Cond.eq_ints eC (Term.int_eval (0))) nC
  obtain ⟨gM, eM⟩ := exa_v (Cond.before_iff.mp (hsets _ (List.mem_of_getElem? (i := 11) rfl)))
  have SM : Sta s s.heap "java/util/ImmutableCollections" "EMPTY_MAP" "Ljava/util/ImmutableCollections$MapN;" (.ref gM) := Sta.start eM (Or.inl (hsets _ (List.mem_of_getElem? (i := 10) rfl)))
  obtain ⟨gL, eL⟩ := exa_v (Cond.before_iff.mp (hsets _ (List.mem_of_getElem? (i := 18) rfl)))
  have SL : Sta s s.heap "java/util/ImmutableCollections" "EMPTY_LIST" "Ljava/util/ImmutableCollections$ListN;" (.ref gL) := Sta.start eL (Or.inl (hsets _ (List.mem_of_getElem? (i := 17) rfl)))
  obtain ⟨n, o, h1, h2, h3, _, L, rfl, ⟨rfl, N⟩, hq⟩ := rmL l s _ hw tables_1 i0 i1 i2 i3 iC gM gL  s.heap s.heap.size (Nat.le_refl _)  SC cC SM SL (Old.start s) p e ha hc hk s m _ below hf ((Spec.applies_iff_loose hf).mp happ).1 ⟨rfl, State.Warmed39.refl s, rfl⟩ trivial
  refine ⟨n, _, h1, h2, h3, hpost _ _ _ _ _ _ ⟨Cond.after_iff.mpr rfl, Cond.after_iff.mpr (eq_i res_at (Term.int_eval (1)) rfl), trivial⟩ ⟨hq.1, hq.2.1, (hq.2.2.sift fun y hy => Or.inr (N y hy)).mono (by decide) (by decide)⟩⟩
theorem main_1_1 : Claimed_1_1 := comes_1 fun _ _ _ _ _ _ h hF => ⟨h.1, hF⟩
theorem main_1_2 : Claimed_1_2 := comes_1 fun _ _ _ _ _ _ h hF => ⟨h.2.1, hF⟩
end Jvm.Pilot.@@N@@
namespace Jvm.Pilot.@@N@@
open Jvm Jvm.ClassFile Sem Op Lib Jvm.Free Jvm.Stand Jvm.Pilot.@@N@@.Jvm.D
/-! MADE BY PROGRAM (witnessworld.py) out of the Statement's table words and the real class files: 37 classes; the members and pool entries that the words name. The judged class is class 1, her method 1. -/
namespace start1
open Jvm.ClassFile
def u (s : String) : CpInfo := .utf8 (stringToUtf16 s)
/-- a pool by its gaps: so many unusable entries, then the entry; so many at the end -/
def gap : Nat → List CpInfo → List CpInfo
  | 0, r => r
  | n + 1, r => .unusable :: gap n r
def poolList (es : List (Nat × CpInfo)) (last : Nat) : List CpInfo := es.foldr (fun e r => gap e.1 (e.2 :: r)) (gap last [])
def pool (es : List (Nat × CpInfo)) (last : Nat) : Array CpInfo := ⟨poolList es last⟩
def fileOf (pool : Array CpInfo) (this : Nat) (attrs : Array Attribute := #[]) (ms : Array MethodInfo := #[]) (fl : Nat := 33) (sup : Nat := 0) (ifs : Array Nat := #[]) (fds : Array FieldInfo := #[]) : ClassFile where
  minorVersion := 0
  majorVersion := 65
  constantPool := pool
  accessFlags := fl
  thisClass := this
  superClass := sup
  interfaces := ifs
  fields := fds
  methods := ms
  attributes := attrs
def plain (name : String) (sup : Option ClassId) : Class where
  name := name
  kind := .ordinary
  loader := none
  accessFlags := 33
  super := sup
  interfaces := #[]
  cf := none
  fields := #[]
  methods := #[]
  instanceTypes := #[]
  staticTypes := #[]
  resolved := #[]
  callSites := []
  init := .initialized
  statics := none
  mirror := none

def pool0 : Array CpInfo := pool [(5, u "<init>"), (0, u "()V"), (1, .class_ 10), (1, u "java/lang/Object")] 113

def k0c0 : Code := { maxStack := 0, maxLocals := 1, code := object_method_1_code, exceptionTable := #[], attributes := #[] }
def k0m0 : Method := { name := "<init>", desc := "()V", sig := { parameters := [], returnType := none }, accessFlags := 1, code := some k0c0 }
/-- java/lang/Object -/
def k0 : Class := { plain "java/lang/Object" none with
  accessFlags := 33
  interfaces := #[]
  cf := some (fileOf pool0 8 #[] #[{ accessFlags := 1, nameIndex := 5, descriptorIndex := 6, attributes := #[] }] 33 0 #[] #[])
  fields := #[]
  methods := #[k0m0]
  instanceTypes := #[]
  staticTypes := #[]
  resolved := Array.replicate 124 none
  statics := none }

def pool1 : Array CpInfo := pool [(2, .class_ 4), (1, u "java/lang/Object"), (0, u "<init>"), (0, u "()V"), (0, .class_ 8), (0, u "java/lang/String"), (0, .methodref 7 10), (0, .nameAndType 5 11), (0, u "([C)V"), (0, .class_ 13), (0, u "com/example/turnwise/turnwise/script/Position"), (0, .methodref 12 15), (0, .nameAndType 5 16), (0, u "(Ljava/lang/String;I)V"), (0, .class_ 18), (0, u "com/example/turnwise/turnwise/engine/Reply"), (0, .methodref 17 20), (0, .nameAndType 5 21), (0, u "(ILjava/lang/String;Lcom/example/turnwise/turnwise/script/Position;Ljava/lang/String;Ljava/util/Map;Ljava/util/List;)V"), (0, .methodref 17 23), (0, .nameAndType 24 25), (0, u "endsDialogue"), (0, u "()Z"), (0, .class_ 27), (0, u "com/example/turnwise/turnwise/engine/ReplyEndsDialoguePinLaw"), (2, u "law"), (0, u "(IIII)Z")] 5

def k1m0 : Method := { name := "<init>", desc := "()V", sig := { parameters := [], returnType := none }, accessFlags := 1, code := none }
def k1c1 : Code := { maxStack := 8, maxLocals := 12, code := code, exceptionTable := #[], attributes := #[] }
def k1m1 : Method := { name := "law", desc := "(IIII)Z", sig := { parameters := [.int, .int, .int, .int], returnType := some .boolean }, accessFlags := 9, code := some k1c1 }
/-- com/example/turnwise/turnwise/engine/ReplyEndsDialoguePinLaw -/
def k1 : Class := { plain "com/example/turnwise/turnwise/engine/ReplyEndsDialoguePinLaw" (some 0) with
  accessFlags := 49
  interfaces := #[]
  cf := some (fileOf pool1 26 #[] #[{ accessFlags := 1, nameIndex := 5, descriptorIndex := 6, attributes := #[] }, { accessFlags := 9, nameIndex := 30, descriptorIndex := 31, attributes := #[] }] 49 2 #[] #[])
  fields := #[]
  methods := #[k1m0, k1m1]
  instanceTypes := #[]
  staticTypes := #[]
  resolved := Array.replicate 37 none
  statics := none }

def pool2 : Array CpInfo := pool [(1, .class_ 2), (0, u "java/io/Serializable"), (0, .class_ 4), (0, u "java/lang/Object")] 2

/-- java/io/Serializable -/
def k2 : Class := { plain "java/io/Serializable" (some 0) with
  accessFlags := 1537
  interfaces := #[]
  cf := some (fileOf pool2 1 #[] #[] 1537 3 #[] #[])
  fields := #[]
  methods := #[]
  instanceTypes := #[]
  staticTypes := #[]
  resolved := Array.replicate 7 none
  statics := none }

def pool3 : Array CpInfo := pool [(1, .class_ 2), (0, u "java/lang/Comparable"), (0, .class_ 4), (0, u "java/lang/Object")] 7

/-- java/lang/Comparable -/
def k3 : Class := { plain "java/lang/Comparable" (some 0) with
  accessFlags := 1537
  interfaces := #[]
  cf := some (fileOf pool3 1 #[] #[] 1537 3 #[] #[])
  fields := #[]
  methods := #[]
  instanceTypes := #[]
  staticTypes := #[]
  resolved := Array.replicate 12 none
  statics := none }

def pool4 : Array CpInfo := pool [(2, .class_ 4), (1, u "java/lang/CharSequence"), (42, .class_ 48), (0, u "java/lang/CharSequence$1CodePointIterator"), (10, .class_ 60), (0, u "java/lang/CharSequence$1CharIterator"), (5, .class_ 67), (0, u "java/lang/Object")] 63

/-- java/lang/CharSequence -/
def k4 : Class := { plain "java/lang/CharSequence" (some 0) with
  accessFlags := 1537
  interfaces := #[]
  cf := some (fileOf pool4 2 #[.nestMembers #[47, 59]] #[] 1537 66 #[] #[])
  fields := #[]
  methods := #[]
  instanceTypes := #[]
  staticTypes := #[]
  resolved := Array.replicate 131 none
  statics := none }

def pool5 : Array CpInfo := pool [(1, .class_ 2), (0, u "java/lang/constant/Constable"), (0, .class_ 4), (0, u "java/lang/Object")] 6

/-- java/lang/constant/Constable -/
def k5 : Class := { plain "java/lang/constant/Constable" (some 0) with
  accessFlags := 1537
  interfaces := #[]
  cf := some (fileOf pool5 1 #[] #[] 1537 3 #[] #[])
  fields := #[]
  methods := #[]
  instanceTypes := #[]
  staticTypes := #[]
  resolved := Array.replicate 11 none
  statics := none }

def pool6 : Array CpInfo := pool [(1, .class_ 2), (0, u "java/lang/constant/ConstantDesc"), (0, .class_ 4), (0, u "java/lang/Object")] 32

/-- java/lang/constant/ConstantDesc -/
def k6 : Class := { plain "java/lang/constant/ConstantDesc" (some 0) with
  accessFlags := 1537
  interfaces := #[]
  cf := some (fileOf pool6 1 #[] #[] 1537 3 #[] #[])
  fields := #[]
  methods := #[]
  instanceTypes := #[]
  staticTypes := #[]
  resolved := Array.replicate 37 none
  statics := none }

def pool7 : Array CpInfo := pool [(1, .methodref 2 3), (0, .class_ 4), (0, .nameAndType 5 6), (0, u "java/lang/Object"), (0, u "<init>"), (0, u "()V"), (2, .fieldref 10 11), (0, .class_ 12), (0, .nameAndType 13 14), (0, u "java/lang/String"), (0, u "value"), (0, u "[B"), (0, .fieldref 10 16), (0, .nameAndType 17 18), (0, u "coder"), (0, u "B"), (2, u "hash"), (0, u "I"), (2, u "hashIsZero"), (0, u "Z"), (0, .methodref 10 28), (0, .nameAndType 5 29), (0, u "([CIILjava/lang/Void;)V"), (8, .fieldref 10 39), (0, .nameAndType 40 26), (0, u "COMPACT_STRINGS"), (1, .class_ 44), (1, u "java/lang/StringUTF16"), (0, u "compress"), (1, .methodref 42 48), (0, .nameAndType 49 50), (0, u "coderFromArrayLen"), (0, u "([BI)B"), (126, .methodref 42 178), (0, .nameAndType 45 179), (0, u "([CII)[B"), (395, .class_ 576), (0, u "java/lang/CharSequence"), (22, u "CASE_INSENSITIVE_ORDER"), (0, u "Ljava/util/Comparator;"), (409, u "([C)V"), (90, u "serialPersistentFields"), (0, u "[Ljava/io/ObjectStreamField;"), (0, .class_ 1104), (0, u "java/lang/String$CaseInsensitiveComparator"), (1, .class_ 1107), (0, u "java/io/Serializable"), (0, .class_ 1109), (0, u "java/lang/Comparable"), (0, .class_ 1111), (0, u "java/lang/constant/Constable"), (0, .class_ 1113), (0, u "java/lang/constant/ConstantDesc"), (2, u "serialVersionUID"), (0, u "J"), (3, u "REPL"), (0, u "C"), (2, u "LATIN1"), (1, u "UTF16")] 323

def k7m0 : Method := { name := "<init>", desc := "()V", sig := { parameters := [], returnType := none }, accessFlags := 1, code := none }
def k7c1 : Code := { maxStack := 5, maxLocals := 2, code := jdk_42_method_3_code, exceptionTable := #[], attributes := #[] }
def k7m1 : Method := { name := "<init>", desc := "([C)V", sig := { parameters := [(.array .char)], returnType := none }, accessFlags := 1, code := some k7c1 }
def k7c2 : Code := { maxStack := 4, maxLocals := 6, code := jdk_42_method_149_code, exceptionTable := #[], attributes := #[] }
def k7m2 : Method := { name := "<init>", desc := "([CIILjava/lang/Void;)V", sig := { parameters := [(.array .char), .int, .int, (.object "java/lang/Void")], returnType := none }, accessFlags := 2, code := some k7c2 }
/-- java/lang/String -/
def k7 : Class := { plain "java/lang/String" (some 0) with
  accessFlags := 49
  interfaces := #[2, 3, 4, 5, 6]
  cf := some (fileOf pool7 10 #[.nestMembers #[1103]] #[{ accessFlags := 1, nameIndex := 5, descriptorIndex := 6, attributes := #[] }, { accessFlags := 1, nameIndex := 5, descriptorIndex := 1010, attributes := #[] }, { accessFlags := 2, nameIndex := 5, descriptorIndex := 29, attributes := #[] }] 49 2 #[1106, 1108, 575, 1110, 1112] #[{ accessFlags := 18, nameIndex := 13, descriptorIndex := 14, attributes := #[] }, { accessFlags := 18, nameIndex := 17, descriptorIndex := 18, attributes := #[] }, { accessFlags := 2, nameIndex := 21, descriptorIndex := 22, attributes := #[] }, { accessFlags := 2, nameIndex := 25, descriptorIndex := 26, attributes := #[] }, { accessFlags := 26, nameIndex := 1116, descriptorIndex := 1117, attributes := #[] }, { accessFlags := 24, nameIndex := 40, descriptorIndex := 26, attributes := #[] }, { accessFlags := 26, nameIndex := 1101, descriptorIndex := 1102, attributes := #[] }, { accessFlags := 26, nameIndex := 1121, descriptorIndex := 1122, attributes := #[] }, { accessFlags := 25, nameIndex := 599, descriptorIndex := 600, attributes := #[] }, { accessFlags := 24, nameIndex := 1125, descriptorIndex := 18, attributes := #[] }, { accessFlags := 24, nameIndex := 1127, descriptorIndex := 18, attributes := #[] }])
  fields := #[{ name := "value", type := (.array .byte), accessFlags := 18, slot := 0, constantValue := 0 }, { name := "coder", type := .byte, accessFlags := 18, slot := 1, constantValue := 0 }, { name := "hash", type := .int, accessFlags := 2, slot := 2, constantValue := 0 }, { name := "hashIsZero", type := .boolean, accessFlags := 2, slot := 3, constantValue := 0 }, { name := "serialVersionUID", type := .long, accessFlags := 26, slot := 0, constantValue := 0 }, { name := "COMPACT_STRINGS", type := .boolean, accessFlags := 24, slot := 1, constantValue := 0 }, { name := "serialPersistentFields", type := (.array (.object "java/io/ObjectStreamField")), accessFlags := 26, slot := 2, constantValue := 0 }, { name := "REPL", type := .char, accessFlags := 26, slot := 3, constantValue := 0 }, { name := "CASE_INSENSITIVE_ORDER", type := (.object "java/util/Comparator"), accessFlags := 25, slot := 4, constantValue := 0 }, { name := "LATIN1", type := .byte, accessFlags := 24, slot := 5, constantValue := 0 }, { name := "UTF16", type := .byte, accessFlags := 24, slot := 6, constantValue := 0 }]
  methods := #[k7m0, k7m1, k7m2]
  instanceTypes := #[(.array .byte), .byte, .int, .boolean]
  staticTypes := #[.long, .boolean, (.array (.object "java/io/ObjectStreamField")), .char, (.object "java/util/Comparator"), .byte, .byte]
  resolved := Array.replicate 1451 none
  statics := some 0 }

def pool8 : Array CpInfo := pool [(6, .class_ 8), (1, u "java/lang/Object"), (0, u "<init>"), (0, u "()V"), (1, .class_ 14), (1, u "java/lang/StringUTF16"), (31, u "$assertionsDisabled"), (0, u "Z"), (13, u "HI_BYTE_SHIFT"), (0, u "I"), (2, u "LO_BYTE_SHIFT"), (49, .methodref 12 116), (0, .nameAndType 117 118), (0, u "compress"), (0, u "([CI[BII)I"), (3, u "([CII)[B"), (138, u "coderFromArrayLen"), (0, u "([BI)B"), (106, .class_ 371), (1, u "java/lang/StringUTF16$LinesSpliterator"), (58, u "MAX_LENGTH"), (196, .class_ 628), (0, u "java/lang/StringUTF16$CodePointsSpliterator"), (0, .class_ 630), (0, u "java/lang/StringUTF16$CharsSpliterator")] 4

def k8m0 : Method := { name := "<init>", desc := "()V", sig := { parameters := [], returnType := none }, accessFlags := 0, code := none }
def k8c1 : Code := { maxStack := 2, maxLocals := 2, code := jdk_52_method_15_code, exceptionTable := #[], attributes := #[] }
def k8m1 : Method := { name := "coderFromArrayLen", desc := "([BI)B", sig := { parameters := [(.array .byte), .int], returnType := some .byte }, accessFlags := 8, code := some k8c1 }
def k8c2 : Code := { maxStack := 5, maxLocals := 6, code := jdk_52_method_16_code, exceptionTable := #[], attributes := #[] }
def k8m2 : Method := { name := "compress", desc := "([CII)[B", sig := { parameters := [(.array .char), .int, .int], returnType := some (.array .byte) }, accessFlags := 9, code := some k8c2 }
def k8c3 : Code := { maxStack := 3, maxLocals := 7, code := jdk_52_method_21_code, exceptionTable := #[], attributes := #[] }
def k8m3 : Method := { name := "compress", desc := "([CI[BII)I", sig := { parameters := [(.array .char), .int, (.array .byte), .int, .int], returnType := some .int }, accessFlags := 9, code := some k8c3 }
/-- java/lang/StringUTF16 -/
def k8 : Class := { plain "java/lang/StringUTF16" (some 0) with
  accessFlags := 48
  interfaces := #[]
  cf := some (fileOf pool8 12 #[.nestMembers #[627, 629, 369]] #[{ accessFlags := 0, nameIndex := 9, descriptorIndex := 10, attributes := #[] }, { accessFlags := 8, nameIndex := 261, descriptorIndex := 262, attributes := #[] }, { accessFlags := 9, nameIndex := 117, descriptorIndex := 122, attributes := #[] }, { accessFlags := 9, nameIndex := 117, descriptorIndex := 118, attributes := #[] }] 48 6 #[] #[{ accessFlags := 26, nameIndex := 61, descriptorIndex := 62, attributes := #[] }, { accessFlags := 26, nameIndex := 65, descriptorIndex := 62, attributes := #[] }, { accessFlags := 24, nameIndex := 430, descriptorIndex := 62, attributes := #[] }, { accessFlags := 4120, nameIndex := 46, descriptorIndex := 47, attributes := #[] }])
  fields := #[{ name := "HI_BYTE_SHIFT", type := .int, accessFlags := 26, slot := 0, constantValue := 0 }, { name := "LO_BYTE_SHIFT", type := .int, accessFlags := 26, slot := 1, constantValue := 0 }, { name := "MAX_LENGTH", type := .int, accessFlags := 24, slot := 2, constantValue := 0 }, { name := "$assertionsDisabled", type := .boolean, accessFlags := 4120, slot := 3, constantValue := 0 }]
  methods := #[k8m0, k8m1, k8m2, k8m3]
  instanceTypes := #[]
  staticTypes := #[.int, .int, .int, .boolean]
  resolved := Array.replicate 635 none
  statics := none }

def pool9 : Array CpInfo := pool [(1, .methodref 2 3), (0, .class_ 4), (0, .nameAndType 5 6), (0, u "java/lang/Object"), (0, u "<init>"), (0, u "()V"), (0, .class_ 8), (0, u "java/lang/Record")] 13

def k9c0 : Code := { maxStack := 1, maxLocals := 1, code := jdk_30_method_1_code, exceptionTable := #[], attributes := #[] }
def k9m0 : Method := { name := "<init>", desc := "()V", sig := { parameters := [], returnType := none }, accessFlags := 4, code := some k9c0 }
/-- java/lang/Record -/
def k9 : Class := { plain "java/lang/Record" (some 0) with
  accessFlags := 1057
  interfaces := #[]
  cf := some (fileOf pool9 7 #[] #[{ accessFlags := 4, nameIndex := 5, descriptorIndex := 6, attributes := #[] }] 1057 2 #[] #[])
  fields := #[]
  methods := #[k9m0]
  instanceTypes := #[]
  staticTypes := #[]
  resolved := Array.replicate 22 none
  statics := none }

def pool10 : Array CpInfo := pool [(1, .methodref 2 3), (0, .class_ 4), (0, .nameAndType 5 6), (0, u "java/lang/Record"), (0, u "<init>"), (0, u "()V"), (0, .fieldref 8 9), (0, .class_ 10), (0, .nameAndType 11 12), (0, u "com/example/turnwise/turnwise/script/Position"), (0, u "node"), (0, u "Ljava/lang/String;"), (0, .fieldref 8 14), (0, .nameAndType 15 16), (0, u "step"), (0, u "I"), (12, u "(Ljava/lang/String;I)V")] 27

def k10c0 : Code := { maxStack := 2, maxLocals := 3, code := prog_49_method_1_code, exceptionTable := #[], attributes := #[] }
def k10m0 : Method := { name := "<init>", desc := "(Ljava/lang/String;I)V", sig := { parameters := [(.object "java/lang/String"), .int], returnType := none }, accessFlags := 1, code := some k10c0 }
/-- com/example/turnwise/turnwise/script/Position -/
def k10 : Class := { plain "com/example/turnwise/turnwise/script/Position" (some 9) with
  accessFlags := 49
  interfaces := #[]
  cf := some (fileOf pool10 8 #[] #[{ accessFlags := 1, nameIndex := 5, descriptorIndex := 29, attributes := #[] }] 49 2 #[] #[{ accessFlags := 18, nameIndex := 11, descriptorIndex := 12, attributes := #[] }, { accessFlags := 18, nameIndex := 15, descriptorIndex := 16, attributes := #[] }])
  fields := #[{ name := "node", type := (.object "java/lang/String"), accessFlags := 18, slot := 0, constantValue := 0 }, { name := "step", type := .int, accessFlags := 18, slot := 1, constantValue := 0 }]
  methods := #[k10m0]
  instanceTypes := #[(.object "java/lang/String"), .int]
  staticTypes := #[]
  resolved := Array.replicate 57 none
  statics := none }

def pool11 : Array CpInfo := pool [(1, .methodref 2 3), (0, .class_ 4), (0, .nameAndType 5 6), (0, u "java/lang/Record"), (0, u "<init>"), (0, u "()V"), (0, .interfaceMethodref 8 9), (0, .class_ 10), (0, .nameAndType 11 12), (0, u "java/util/Map"), (0, u "of"), (0, u "()Ljava/util/Map;"), (4, .interfaceMethodref 18 19), (0, .class_ 20), (0, .nameAndType 11 21), (0, u "java/util/List"), (0, u "()Ljava/util/List;"), (3, .fieldref 26 27), (0, .class_ 28), (0, .nameAndType 29 30), (0, u "com/example/turnwise/turnwise/engine/Reply"), (0, u "id"), (0, u "I"), (0, .fieldref 26 32), (0, .nameAndType 33 34), (0, u "text"), (0, u "Ljava/lang/String;"), (0, .fieldref 26 36), (0, .nameAndType 37 38), (0, u "next"), (0, u "Lcom/example/turnwise/turnwise/script/Position;"), (0, .fieldref 26 40), (0, .nameAndType 41 34), (0, u "nextLine"), (0, .fieldref 26 43), (0, .nameAndType 44 45), (0, u "sets"), (0, u "Ljava/util/Map;"), (0, .fieldref 26 47), (0, .nameAndType 48 49), (0, u "actions"), (0, u "Ljava/util/List;"), (15, u "(ILjava/lang/String;Lcom/example/turnwise/turnwise/script/Position;Ljava/lang/String;Ljava/util/Map;Ljava/util/List;)V"), (9, u "endsDialogue"), (0, u "()Z")] 31

def k11c0 : Code := { maxStack := 2, maxLocals := 7, code := prog_33_method_1_code, exceptionTable := #[], attributes := #[] }
def k11m0 : Method := { name := "<init>", desc := "(ILjava/lang/String;Lcom/example/turnwise/turnwise/script/Position;Ljava/lang/String;Ljava/util/Map;Ljava/util/List;)V", sig := { parameters := [.int, (.object "java/lang/String"), (.object "com/example/turnwise/turnwise/script/Position"), (.object "java/lang/String"), (.object "java/util/Map"), (.object "java/util/List")], returnType := none }, accessFlags := 1, code := some k11c0 }
def k11c1 : Code := { maxStack := 1, maxLocals := 1, code := prog_33_method_2_code, exceptionTable := #[], attributes := #[] }
def k11m1 : Method := { name := "endsDialogue", desc := "()Z", sig := { parameters := [], returnType := some .boolean }, accessFlags := 1, code := some k11c1 }
/-- com/example/turnwise/turnwise/engine/Reply -/
def k11 : Class := { plain "com/example/turnwise/turnwise/engine/Reply" (some 9) with
  accessFlags := 49
  interfaces := #[]
  cf := some (fileOf pool11 26 #[] #[{ accessFlags := 1, nameIndex := 5, descriptorIndex := 65, attributes := #[] }, { accessFlags := 1, nameIndex := 75, descriptorIndex := 76, attributes := #[] }] 49 2 #[] #[{ accessFlags := 18, nameIndex := 29, descriptorIndex := 30, attributes := #[] }, { accessFlags := 18, nameIndex := 33, descriptorIndex := 34, attributes := #[] }, { accessFlags := 18, nameIndex := 37, descriptorIndex := 38, attributes := #[] }, { accessFlags := 18, nameIndex := 41, descriptorIndex := 34, attributes := #[] }, { accessFlags := 18, nameIndex := 44, descriptorIndex := 45, attributes := #[] }, { accessFlags := 18, nameIndex := 48, descriptorIndex := 49, attributes := #[] }])
  fields := #[{ name := "id", type := .int, accessFlags := 18, slot := 0, constantValue := 0 }, { name := "text", type := (.object "java/lang/String"), accessFlags := 18, slot := 1, constantValue := 0 }, { name := "next", type := (.object "com/example/turnwise/turnwise/script/Position"), accessFlags := 18, slot := 2, constantValue := 0 }, { name := "nextLine", type := (.object "java/lang/String"), accessFlags := 18, slot := 3, constantValue := 0 }, { name := "sets", type := (.object "java/util/Map"), accessFlags := 18, slot := 4, constantValue := 0 }, { name := "actions", type := (.object "java/util/List"), accessFlags := 18, slot := 5, constantValue := 0 }]
  methods := #[k11m0, k11m1]
  instanceTypes := #[.int, (.object "java/lang/String"), (.object "com/example/turnwise/turnwise/script/Position"), (.object "java/lang/String"), (.object "java/util/Map"), (.object "java/util/List")]
  staticTypes := #[]
  resolved := Array.replicate 108 none
  statics := none }

def pool12 : Array CpInfo := pool [(2, .class_ 4), (1, u "java/util/Map"), (31, .class_ 37), (0, u "java/util/Map$Entry"), (43, .fieldref 82 83), (0, .class_ 84), (0, .nameAndType 85 86), (0, u "java/util/ImmutableCollections"), (0, u "EMPTY_MAP"), (0, u "Ljava/util/ImmutableCollections$MapN;"), (6, .class_ 94), (0, u "java/lang/Object"), (13, u "of"), (0, u "()Ljava/util/Map;")] 153

def k12c0 : Code := { maxStack := 1, maxLocals := 0, code := jdk_72_method_26_code, exceptionTable := #[], attributes := #[] }
def k12m0 : Method := { name := "of", desc := "()Ljava/util/Map;", sig := { parameters := [], returnType := some (.object "java/util/Map") }, accessFlags := 9, code := some k12c0 }
/-- java/util/Map -/
def k12 : Class := { plain "java/util/Map" (some 0) with
  accessFlags := 1537
  interfaces := #[]
  cf := some (fileOf pool12 2 #[.nestMembers #[36]] #[{ accessFlags := 9, nameIndex := 108, descriptorIndex := 109, attributes := #[] }] 1537 93 #[] #[])
  fields := #[]
  methods := #[k12m0]
  instanceTypes := #[]
  staticTypes := #[]
  resolved := Array.replicate 263 none
  statics := none }

def pool13 : Array CpInfo := pool [(2, .class_ 4), (1, u "java/lang/Object"), (0, u "<init>"), (0, u "()V"), (3, .class_ 11), (0, u "java/util/ImmutableCollections$List12"), (0, .class_ 13), (0, u "java/util/ImmutableCollections$ListN"), (3, u "Z"), (29, .class_ 49), (1, u "java/util/ImmutableCollections"), (0, u "$assertionsDisabled"), (5, u "[Ljava/lang/Object;"), (5, u "EMPTY_LIST"), (0, u "Ljava/util/ImmutableCollections$ListN;"), (8, u "EMPTY_LIST_NULLS"), (22, u "SALT32L"), (0, u "J"), (2, u "REVERSE"), (6, u "archivedObjects"), (2, u "EMPTY"), (0, u "Ljava/lang/Object;"), (0, .class_ 112), (0, u "java/util/ImmutableCollections$SetN"), (5, u "EMPTY_SET"), (0, u "Ljava/util/ImmutableCollections$SetN;"), (0, .class_ 121), (0, u "java/util/ImmutableCollections$MapN"), (3, u "EMPTY_MAP"), (0, u "Ljava/util/ImmutableCollections$MapN;"), (4, u "EXPAND_FACTOR"), (0, u "I"), (36, .class_ 170), (0, u "java/util/ImmutableCollections$MapN$MapNIterator"), (0, .class_ 172), (0, u "java/util/ImmutableCollections$MapN$1"), (0, .class_ 174), (0, u "java/util/ImmutableCollections$Map1"), (0, .class_ 176), (0, u "java/util/ImmutableCollections$AbstractImmutableMap"), (0, .class_ 178), (0, u "java/util/ImmutableCollections$SetN$SetNIterator"), (0, .class_ 180), (0, u "java/util/ImmutableCollections$Set12"), (0, .class_ 182), (0, u "java/util/ImmutableCollections$Set12$1"), (0, .class_ 184), (0, u "java/util/ImmutableCollections$AbstractImmutableSet"), (0, .class_ 186), (0, u "java/util/ImmutableCollections$SubList"), (0, .class_ 188), (0, u "java/util/ImmutableCollections$ListItr"), (0, .class_ 190), (0, u "java/util/ImmutableCollections$AbstractImmutableList"), (0, .class_ 192), (0, u "java/util/ImmutableCollections$AbstractImmutableCollection"), (0, .class_ 194), (0, u "java/util/ImmutableCollections$Access"), (0, .class_ 196), (0, u "java/util/ImmutableCollections$Access$1")] 16

def k13m0 : Method := { name := "<init>", desc := "()V", sig := { parameters := [], returnType := none }, accessFlags := 2, code := none }
/-- java/util/ImmutableCollections -/
def k13 : Class := { plain "java/util/ImmutableCollections" (some 0) with
  accessFlags := 32
  interfaces := #[]
  cf := some (fileOf pool13 47 #[.nestMembers #[120, 169, 171, 173, 175, 111, 177, 179, 181, 183, 12, 10, 185, 187, 189, 191, 193, 195]] #[{ accessFlags := 2, nameIndex := 5, descriptorIndex := 6, attributes := #[] }] 32 2 #[] #[{ accessFlags := 26, nameIndex := 95, descriptorIndex := 96, attributes := #[] }, { accessFlags := 26, nameIndex := 99, descriptorIndex := 17, attributes := #[] }, { accessFlags := 10, nameIndex := 106, descriptorIndex := 56, attributes := #[] }, { accessFlags := 26, nameIndex := 109, descriptorIndex := 110, attributes := #[] }, { accessFlags := 24, nameIndex := 62, descriptorIndex := 63, attributes := #[] }, { accessFlags := 24, nameIndex := 72, descriptorIndex := 63, attributes := #[] }, { accessFlags := 24, nameIndex := 118, descriptorIndex := 119, attributes := #[] }, { accessFlags := 24, nameIndex := 125, descriptorIndex := 126, attributes := #[] }, { accessFlags := 24, nameIndex := 131, descriptorIndex := 132, attributes := #[] }, { accessFlags := 4120, nameIndex := 50, descriptorIndex := 17, attributes := #[] }])
  fields := #[{ name := "SALT32L", type := .long, accessFlags := 26, slot := 0, constantValue := 0 }, { name := "REVERSE", type := .boolean, accessFlags := 26, slot := 1, constantValue := 0 }, { name := "archivedObjects", type := (.array (.object "java/lang/Object")), accessFlags := 10, slot := 2, constantValue := 0 }, { name := "EMPTY", type := (.object "java/lang/Object"), accessFlags := 26, slot := 3, constantValue := 0 }, { name := "EMPTY_LIST", type := (.object "java/util/ImmutableCollections$ListN"), accessFlags := 24, slot := 4, constantValue := 0 }, { name := "EMPTY_LIST_NULLS", type := (.object "java/util/ImmutableCollections$ListN"), accessFlags := 24, slot := 5, constantValue := 0 }, { name := "EMPTY_SET", type := (.object "java/util/ImmutableCollections$SetN"), accessFlags := 24, slot := 6, constantValue := 0 }, { name := "EMPTY_MAP", type := (.object "java/util/ImmutableCollections$MapN"), accessFlags := 24, slot := 7, constantValue := 0 }, { name := "EXPAND_FACTOR", type := .int, accessFlags := 24, slot := 8, constantValue := 0 }, { name := "$assertionsDisabled", type := .boolean, accessFlags := 4120, slot := 9, constantValue := 0 }]
  methods := #[k13m0]
  instanceTypes := #[]
  staticTypes := #[.long, .boolean, (.array (.object "java/lang/Object")), (.object "java/lang/Object"), (.object "java/util/ImmutableCollections$ListN"), (.object "java/util/ImmutableCollections$ListN"), (.object "java/util/ImmutableCollections$SetN"), (.object "java/util/ImmutableCollections$MapN"), .int, .boolean]
  resolved := Array.replicate 213 none
  statics := some 1 }

def pool14 : Array CpInfo := pool [(8, .class_ 10), (1, u "java/lang/Iterable"), (24, .class_ 36), (0, u "java/lang/Object")] 25

/-- java/lang/Iterable -/
def k14 : Class := { plain "java/lang/Iterable" (some 0) with
  accessFlags := 1537
  interfaces := #[]
  cf := some (fileOf pool14 8 #[] #[] 1537 35 #[] #[])
  fields := #[]
  methods := #[]
  instanceTypes := #[]
  staticTypes := #[]
  resolved := Array.replicate 62 none
  statics := none }

def pool15 : Array CpInfo := pool [(10, .class_ 12), (1, u "java/util/Collection"), (47, .class_ 61), (0, u "java/lang/Object"), (0, .class_ 63), (0, u "java/lang/Iterable")] 51

/-- java/util/Collection -/
def k15 : Class := { plain "java/util/Collection" (some 0) with
  accessFlags := 1537
  interfaces := #[14]
  cf := some (fileOf pool15 10 #[] #[] 1537 60 #[62] #[])
  fields := #[]
  methods := #[]
  instanceTypes := #[]
  staticTypes := #[]
  resolved := Array.replicate 115 none
  statics := none }

def pool16 : Array CpInfo := pool [(8, .class_ 10), (1, u "java/util/SequencedCollection"), (15, .class_ 27), (0, u "java/lang/Object"), (0, .class_ 29), (0, u "java/util/Collection")] 27

/-- java/util/SequencedCollection -/
def k16 : Class := { plain "java/util/SequencedCollection" (some 0) with
  accessFlags := 1537
  interfaces := #[15]
  cf := some (fileOf pool16 8 #[] #[] 1537 26 #[28] #[])
  fields := #[]
  methods := #[]
  instanceTypes := #[]
  staticTypes := #[]
  resolved := Array.replicate 57 none
  statics := none }

def pool17 : Array CpInfo := pool [(8, .class_ 10), (1, u "java/util/List"), (77, u "of"), (1, .fieldref 91 92), (0, .class_ 93), (0, .nameAndType 94 95), (0, u "java/util/ImmutableCollections"), (0, u "EMPTY_LIST"), (0, u "Ljava/util/ImmutableCollections$ListN;"), (7, .class_ 104), (0, u "java/lang/Object"), (14, u "()Ljava/util/List;"), (0, .class_ 121), (0, u "java/util/SequencedCollection")] 129

def k17c0 : Code := { maxStack := 1, maxLocals := 0, code := jdk_40_method_36_code, exceptionTable := #[], attributes := #[] }
def k17m0 : Method := { name := "of", desc := "()Ljava/util/List;", sig := { parameters := [], returnType := some (.object "java/util/List") }, accessFlags := 9, code := some k17c0 }
/-- java/util/List -/
def k17 : Class := { plain "java/util/List" (some 0) with
  accessFlags := 1537
  interfaces := #[16]
  cf := some (fileOf pool17 8 #[] #[{ accessFlags := 9, nameIndex := 88, descriptorIndex := 119, attributes := #[] }] 1537 103 #[120] #[])
  fields := #[]
  methods := #[k17m0]
  instanceTypes := #[]
  staticTypes := #[]
  resolved := Array.replicate 251 none
  statics := none }

def pool18 : Array CpInfo := pool [(4, .class_ 6), (1, u "java/lang/Object"), (0, u "<init>"), (0, u "()V"), (5, .class_ 16), (1, u "java/lang/StringLatin1"), (104, u "$assertionsDisabled"), (0, u "Z"), (98, .class_ 223), (1, u "java/lang/StringLatin1$LinesSpliterator"), (166, .class_ 391), (0, u "java/lang/StringLatin1$CharsSpliterator")] 3

def k18m0 : Method := { name := "<init>", desc := "()V", sig := { parameters := [], returnType := none }, accessFlags := 0, code := none }
/-- java/lang/StringLatin1 -/
def k18 : Class := { plain "java/lang/StringLatin1" (some 0) with
  accessFlags := 48
  interfaces := #[]
  cf := some (fileOf pool18 14 #[.nestMembers #[390, 221]] #[{ accessFlags := 0, nameIndex := 7, descriptorIndex := 8, attributes := #[] }] 48 4 #[] #[{ accessFlags := 4120, nameIndex := 121, descriptorIndex := 122, attributes := #[] }])
  fields := #[{ name := "$assertionsDisabled", type := .boolean, accessFlags := 4120, slot := 0, constantValue := 0 }]
  methods := #[k18m0]
  instanceTypes := #[]
  staticTypes := #[.boolean]
  resolved := Array.replicate 395 none
  statics := none }

def pool19 : Array CpInfo := pool [(2, .class_ 4), (1, u "java/lang/Object"), (0, u "<init>"), (0, u "()V"), (17, .class_ 26), (1, u "jdk/internal/util/Preconditions"), (28, .class_ 56), (0, u "jdk/internal/util/Preconditions$4"), (57, .class_ 115), (0, u "jdk/internal/util/Preconditions$1"), (7, u "SIOOBE_FORMATTER"), (0, u "Ljava/util/function/BiFunction;"), (0, .class_ 126), (0, u "jdk/internal/util/Preconditions$2"), (3, u "AIOOBE_FORMATTER"), (0, .class_ 132), (0, u "jdk/internal/util/Preconditions$3"), (3, u "IOOBE_FORMATTER")] 57

def k19m0 : Method := { name := "<init>", desc := "()V", sig := { parameters := [], returnType := none }, accessFlags := 1, code := none }
/-- jdk/internal/util/Preconditions -/
def k19 : Class := { plain "jdk/internal/util/Preconditions" (some 0) with
  accessFlags := 33
  interfaces := #[]
  cf := some (fileOf pool19 24 #[.nestMembers #[55, 131, 125, 114]] #[{ accessFlags := 1, nameIndex := 5, descriptorIndex := 6, attributes := #[] }] 33 2 #[] #[{ accessFlags := 25, nameIndex := 123, descriptorIndex := 124, attributes := #[] }, { accessFlags := 25, nameIndex := 130, descriptorIndex := 124, attributes := #[] }, { accessFlags := 25, nameIndex := 136, descriptorIndex := 124, attributes := #[] }])
  fields := #[{ name := "SIOOBE_FORMATTER", type := (.object "java/util/function/BiFunction"), accessFlags := 25, slot := 0, constantValue := 0 }, { name := "AIOOBE_FORMATTER", type := (.object "java/util/function/BiFunction"), accessFlags := 25, slot := 1, constantValue := 0 }, { name := "IOOBE_FORMATTER", type := (.object "java/util/function/BiFunction"), accessFlags := 25, slot := 2, constantValue := 0 }]
  methods := #[k19m0]
  instanceTypes := #[]
  staticTypes := #[(.object "java/util/function/BiFunction"), (.object "java/util/function/BiFunction"), (.object "java/util/function/BiFunction")]
  resolved := Array.replicate 194 none
  statics := some 2 }

def pool20 : Array CpInfo := pool [(9, u "<init>"), (6, .class_ 18), (1, u "java/lang/Object"), (0, u "()V"), (1, .class_ 23), (1, u "jdk/internal/util/ArraysSupport"), (0, u "LOG2_ARRAY_LONG_INDEX_SCALE"), (0, u "I"), (2, u "U"), (0, u "Ljdk/internal/misc/Unsafe;"), (8, u "BIG_ENDIAN"), (0, u "Z"), (8, u "LOG2_BYTE_BIT_SIZE"), (4, u "LOG2_ARRAY_INT_INDEX_SCALE"), (54, u "JLA"), (0, u "Ljdk/internal/access/JavaLangAccess;"), (11, u "LOG2_ARRAY_BOOLEAN_INDEX_SCALE"), (9, u "LOG2_ARRAY_BYTE_INDEX_SCALE"), (5, u "LOG2_ARRAY_CHAR_INDEX_SCALE"), (5, u "LOG2_ARRAY_SHORT_INDEX_SCALE"), (18, u "LOG2_ARRAY_FLOAT_INDEX_SCALE"), (24, u "LOG2_ARRAY_DOUBLE_INDEX_SCALE"), (89, u "T_BOOLEAN"), (2, u "T_CHAR"), (1, u "T_FLOAT"), (1, u "T_DOUBLE"), (1, u "T_BYTE"), (1, u "T_SHORT"), (1, u "T_INT"), (1, u "T_LONG"), (1, u "SOFT_MAX_ARRAY_LENGTH")] 83

def k20m0 : Method := { name := "<init>", desc := "()V", sig := { parameters := [], returnType := none }, accessFlags := 2, code := none }
/-- jdk/internal/util/ArraysSupport -/
def k20 : Class := { plain "jdk/internal/util/ArraysSupport" (some 0) with
  accessFlags := 33
  interfaces := #[]
  cf := some (fileOf pool20 21 #[] #[{ accessFlags := 2, nameIndex := 9, descriptorIndex := 19, attributes := #[] }] 33 16 #[] #[{ accessFlags := 24, nameIndex := 28, descriptorIndex := 29, attributes := #[] }, { accessFlags := 26, nameIndex := 38, descriptorIndex := 39, attributes := #[] }, { accessFlags := 25, nameIndex := 121, descriptorIndex := 25, attributes := #[] }, { accessFlags := 25, nameIndex := 131, descriptorIndex := 25, attributes := #[] }, { accessFlags := 25, nameIndex := 137, descriptorIndex := 25, attributes := #[] }, { accessFlags := 25, nameIndex := 143, descriptorIndex := 25, attributes := #[] }, { accessFlags := 25, nameIndex := 53, descriptorIndex := 25, attributes := #[] }, { accessFlags := 25, nameIndex := 24, descriptorIndex := 25, attributes := #[] }, { accessFlags := 25, nameIndex := 162, descriptorIndex := 25, attributes := #[] }, { accessFlags := 25, nameIndex := 187, descriptorIndex := 25, attributes := #[] }, { accessFlags := 26, nameIndex := 48, descriptorIndex := 25, attributes := #[] }, { accessFlags := 25, nameIndex := 277, descriptorIndex := 25, attributes := #[] }, { accessFlags := 25, nameIndex := 280, descriptorIndex := 25, attributes := #[] }, { accessFlags := 25, nameIndex := 282, descriptorIndex := 25, attributes := #[] }, { accessFlags := 25, nameIndex := 284, descriptorIndex := 25, attributes := #[] }, { accessFlags := 25, nameIndex := 286, descriptorIndex := 25, attributes := #[] }, { accessFlags := 25, nameIndex := 288, descriptorIndex := 25, attributes := #[] }, { accessFlags := 25, nameIndex := 290, descriptorIndex := 25, attributes := #[] }, { accessFlags := 25, nameIndex := 292, descriptorIndex := 25, attributes := #[] }, { accessFlags := 26, nameIndex := 108, descriptorIndex := 109, attributes := #[] }, { accessFlags := 25, nameIndex := 294, descriptorIndex := 25, attributes := #[] }])
  fields := #[{ name := "U", type := (.object "jdk/internal/misc/Unsafe"), accessFlags := 24, slot := 0, constantValue := 0 }, { name := "BIG_ENDIAN", type := .boolean, accessFlags := 26, slot := 1, constantValue := 0 }, { name := "LOG2_ARRAY_BOOLEAN_INDEX_SCALE", type := .int, accessFlags := 25, slot := 2, constantValue := 0 }, { name := "LOG2_ARRAY_BYTE_INDEX_SCALE", type := .int, accessFlags := 25, slot := 3, constantValue := 0 }, { name := "LOG2_ARRAY_CHAR_INDEX_SCALE", type := .int, accessFlags := 25, slot := 4, constantValue := 0 }, { name := "LOG2_ARRAY_SHORT_INDEX_SCALE", type := .int, accessFlags := 25, slot := 5, constantValue := 0 }, { name := "LOG2_ARRAY_INT_INDEX_SCALE", type := .int, accessFlags := 25, slot := 6, constantValue := 0 }, { name := "LOG2_ARRAY_LONG_INDEX_SCALE", type := .int, accessFlags := 25, slot := 7, constantValue := 0 }, { name := "LOG2_ARRAY_FLOAT_INDEX_SCALE", type := .int, accessFlags := 25, slot := 8, constantValue := 0 }, { name := "LOG2_ARRAY_DOUBLE_INDEX_SCALE", type := .int, accessFlags := 25, slot := 9, constantValue := 0 }, { name := "LOG2_BYTE_BIT_SIZE", type := .int, accessFlags := 26, slot := 10, constantValue := 0 }, { name := "T_BOOLEAN", type := .int, accessFlags := 25, slot := 11, constantValue := 0 }, { name := "T_CHAR", type := .int, accessFlags := 25, slot := 12, constantValue := 0 }, { name := "T_FLOAT", type := .int, accessFlags := 25, slot := 13, constantValue := 0 }, { name := "T_DOUBLE", type := .int, accessFlags := 25, slot := 14, constantValue := 0 }, { name := "T_BYTE", type := .int, accessFlags := 25, slot := 15, constantValue := 0 }, { name := "T_SHORT", type := .int, accessFlags := 25, slot := 16, constantValue := 0 }, { name := "T_INT", type := .int, accessFlags := 25, slot := 17, constantValue := 0 }, { name := "T_LONG", type := .int, accessFlags := 25, slot := 18, constantValue := 0 }, { name := "JLA", type := (.object "jdk/internal/access/JavaLangAccess"), accessFlags := 26, slot := 19, constantValue := 0 }, { name := "SOFT_MAX_ARRAY_LENGTH", type := .int, accessFlags := 25, slot := 20, constantValue := 0 }]
  methods := #[k20m0]
  instanceTypes := #[]
  staticTypes := #[(.object "jdk/internal/misc/Unsafe"), .boolean, .int, .int, .int, .int, .int, .int, .int, .int, .int, .int, .int, .int, .int, .int, .int, .int, .int, (.object "jdk/internal/access/JavaLangAccess"), .int]
  resolved := Array.replicate 378 none
  statics := none }

def pool21 : Array CpInfo := pool [(2, .class_ 4), (1, u "java/lang/Object"), (0, u "<init>"), (0, u "()V"), (1, .class_ 10), (1, u "java/util/AbstractMap"), (42, .class_ 54), (0, u "java/util/Map"), (9, u "keySet"), (0, u "Ljava/util/Set;"), (0, .class_ 67), (0, u "java/util/AbstractMap$1"), (5, u "values"), (0, u "Ljava/util/Collection;"), (0, .class_ 76), (0, u "java/util/AbstractMap$2"), (104, .class_ 182), (0, u "java/util/AbstractMap$ViewCollection"), (0, .class_ 184), (0, u "java/util/AbstractMap$SimpleImmutableEntry"), (0, .class_ 186), (0, u "java/util/AbstractMap$SimpleEntry"), (0, .class_ 188), (0, u "java/util/AbstractMap$2$1"), (0, .class_ 190), (0, u "java/util/AbstractMap$1$1")] 5

def k21m0 : Method := { name := "<init>", desc := "()V", sig := { parameters := [], returnType := none }, accessFlags := 4, code := none }
/-- java/util/AbstractMap -/
def k21 : Class := { plain "java/util/AbstractMap" (some 0) with
  accessFlags := 1057
  interfaces := #[12]
  cf := some (fileOf pool21 8 #[.nestMembers #[181, 183, 185, 75, 187, 66, 189]] #[{ accessFlags := 4, nameIndex := 5, descriptorIndex := 6, attributes := #[] }] 1057 2 #[53] #[{ accessFlags := 128, nameIndex := 64, descriptorIndex := 65, attributes := #[] }, { accessFlags := 128, nameIndex := 73, descriptorIndex := 74, attributes := #[] }])
  fields := #[{ name := "keySet", type := (.object "java/util/Set"), accessFlags := 128, slot := 0, constantValue := 0 }, { name := "values", type := (.object "java/util/Collection"), accessFlags := 128, slot := 1, constantValue := 0 }]
  methods := #[k21m0]
  instanceTypes := #[(.object "java/util/Set"), (.object "java/util/Collection")]
  staticTypes := #[]
  resolved := Array.replicate 196 none
  statics := none }

def pool22 : Array CpInfo := pool [(2, .class_ 4), (1, u "java/util/AbstractMap"), (0, u "<init>"), (0, u "()V"), (1, .class_ 10), (1, u "java/util/ImmutableCollections"), (3, .class_ 16), (1, u "java/util/ImmutableCollections$AbstractImmutableMap"), (2, .class_ 20), (0, u "java/io/Serializable")] 66

def k22m0 : Method := { name := "<init>", desc := "()V", sig := { parameters := [], returnType := none }, accessFlags := 0, code := none }
/-- java/util/ImmutableCollections$AbstractImmutableMap -/
def k22 : Class := { plain "java/util/ImmutableCollections$AbstractImmutableMap" (some 21) with
  accessFlags := 1056
  interfaces := #[2]
  cf := some (fileOf pool22 14 #[.nestHost 8] #[{ accessFlags := 0, nameIndex := 5, descriptorIndex := 6, attributes := #[] }] 1056 2 #[19] #[])
  fields := #[]
  methods := #[k22m0]
  instanceTypes := #[(.object "java/util/Set"), (.object "java/util/Collection")]
  staticTypes := #[]
  resolved := Array.replicate 87 none
  statics := none }

def pool23 : Array CpInfo := pool [(1, .class_ 2), (0, u "java/util/ImmutableCollections"), (1, .class_ 6), (1, u "java/util/ImmutableCollections$AbstractImmutableMap"), (10, .class_ 19), (1, u "java/util/ImmutableCollections$MapN"), (0, u "size"), (0, u "I"), (4, u "table"), (0, u "[Ljava/lang/Object;")] 121

/-- java/util/ImmutableCollections$MapN -/
def k23 : Class := { plain "java/util/ImmutableCollections$MapN" (some 22) with
  accessFlags := 48
  interfaces := #[]
  cf := some (fileOf pool23 17 #[.nestHost 1] #[] 48 4 #[] #[{ accessFlags := 16, nameIndex := 26, descriptorIndex := 27, attributes := #[] }, { accessFlags := 16, nameIndex := 20, descriptorIndex := 21, attributes := #[] }])
  fields := #[{ name := "table", type := (.array (.object "java/lang/Object")), accessFlags := 16, slot := 2, constantValue := 0 }, { name := "size", type := .int, accessFlags := 16, slot := 3, constantValue := 0 }]
  methods := #[]
  instanceTypes := #[(.object "java/util/Set"), (.object "java/util/Collection"), (.array (.object "java/lang/Object")), .int]
  staticTypes := #[]
  resolved := Array.replicate 149 none
  statics := none }

def pool24 : Array CpInfo := pool [(2, .class_ 4), (1, u "java/lang/Object"), (0, u "<init>"), (0, u "()V"), (1, .class_ 10), (1, u "java/util/AbstractCollection"), (66, .class_ 78), (0, u "java/util/Collection")] 81

def k24m0 : Method := { name := "<init>", desc := "()V", sig := { parameters := [], returnType := none }, accessFlags := 4, code := none }
/-- java/util/AbstractCollection -/
def k24 : Class := { plain "java/util/AbstractCollection" (some 0) with
  accessFlags := 1057
  interfaces := #[15]
  cf := some (fileOf pool24 8 #[] #[{ accessFlags := 4, nameIndex := 5, descriptorIndex := 6, attributes := #[] }] 1057 2 #[77] #[])
  fields := #[]
  methods := #[k24m0]
  instanceTypes := #[]
  staticTypes := #[]
  resolved := Array.replicate 160 none
  statics := none }

def pool25 : Array CpInfo := pool [(2, .class_ 4), (1, u "java/util/AbstractCollection"), (0, u "<init>"), (0, u "()V"), (1, .class_ 10), (1, u "java/util/ImmutableCollections"), (2, .class_ 14), (0, u "java/util/ImmutableCollections$AbstractImmutableCollection")] 41

def k25m0 : Method := { name := "<init>", desc := "()V", sig := { parameters := [], returnType := none }, accessFlags := 0, code := none }
/-- java/util/ImmutableCollections$AbstractImmutableCollection -/
def k25 : Class := { plain "java/util/ImmutableCollections$AbstractImmutableCollection" (some 24) with
  accessFlags := 1056
  interfaces := #[]
  cf := some (fileOf pool25 13 #[.nestHost 8] #[{ accessFlags := 0, nameIndex := 5, descriptorIndex := 6, attributes := #[] }] 1056 2 #[] #[])
  fields := #[]
  methods := #[k25m0]
  instanceTypes := #[]
  staticTypes := #[]
  resolved := Array.replicate 56 none
  statics := none }

def pool26 : Array CpInfo := pool [(1, .class_ 2), (0, u "java/util/RandomAccess"), (0, .class_ 4), (0, u "java/lang/Object")] 2

/-- java/util/RandomAccess -/
def k26 : Class := { plain "java/util/RandomAccess" (some 0) with
  accessFlags := 1537
  interfaces := #[]
  cf := some (fileOf pool26 1 #[] #[] 1537 3 #[] #[])
  fields := #[]
  methods := #[]
  instanceTypes := #[]
  staticTypes := #[]
  resolved := Array.replicate 7 none
  statics := none }

def pool27 : Array CpInfo := pool [(2, .class_ 4), (1, u "java/util/ImmutableCollections$AbstractImmutableCollection"), (0, u "<init>"), (0, u "()V"), (1, .class_ 10), (1, u "java/util/ImmutableCollections"), (3, .class_ 16), (1, u "java/util/ImmutableCollections$AbstractImmutableList"), (60, .class_ 78), (0, u "java/util/List"), (45, .class_ 125), (0, u "java/util/RandomAccess")] 70

def k27m0 : Method := { name := "<init>", desc := "()V", sig := { parameters := [], returnType := none }, accessFlags := 0, code := none }
/-- java/util/ImmutableCollections$AbstractImmutableList -/
def k27 : Class := { plain "java/util/ImmutableCollections$AbstractImmutableList" (some 25) with
  accessFlags := 1056
  interfaces := #[17, 26]
  cf := some (fileOf pool27 14 #[.nestHost 8] #[{ accessFlags := 0, nameIndex := 5, descriptorIndex := 6, attributes := #[] }] 1056 2 #[77, 124] #[])
  fields := #[]
  methods := #[k27m0]
  instanceTypes := #[]
  staticTypes := #[]
  resolved := Array.replicate 196 none
  statics := none }

def pool28 : Array CpInfo := pool [(2, .class_ 4), (1, u "java/util/ImmutableCollections$AbstractImmutableList"), (3, .class_ 10), (1, u "java/util/ImmutableCollections$ListN"), (0, u "elements"), (0, u "[Ljava/lang/Object;"), (2, u "allowNulls"), (0, u "Z"), (42, .class_ 60), (0, u "java/io/Serializable"), (53, .class_ 115), (0, u "java/util/ImmutableCollections")] 3

/-- java/util/ImmutableCollections$ListN -/
def k28 : Class := { plain "java/util/ImmutableCollections$ListN" (some 27) with
  accessFlags := 48
  interfaces := #[2]
  cf := some (fileOf pool28 8 #[.nestHost 114] #[] 48 2 #[59] #[{ accessFlags := 18, nameIndex := 11, descriptorIndex := 12, attributes := #[] }, { accessFlags := 18, nameIndex := 15, descriptorIndex := 16, attributes := #[] }])
  fields := #[{ name := "elements", type := (.array (.object "java/lang/Object")), accessFlags := 18, slot := 0, constantValue := 0 }, { name := "allowNulls", type := .boolean, accessFlags := 18, slot := 1, constantValue := 0 }]
  methods := #[]
  instanceTypes := #[(.array (.object "java/lang/Object")), .boolean]
  staticTypes := #[]
  resolved := Array.replicate 119 none
  statics := none }

def pool29 : Array CpInfo := pool [(1, u "java/lang/Cloneable"), (0, .class_ 1), (0, u "java/lang/Object"), (0, .class_ 3)] 3

/-- java/lang/Cloneable -/
def k29 : Class := { plain "java/lang/Cloneable" (some 0) with
  accessFlags := 1537
  interfaces := #[]
  cf := some (fileOf pool29 2 #[] #[] 1537 4 #[] #[])
  fields := #[]
  methods := #[]
  instanceTypes := #[]
  staticTypes := #[]
  resolved := Array.replicate 8 none
  statics := none }

/-- the primitive byte -/
def k30 : Class := { plain "byte" none with kind := .primitive 'B', accessFlags := 0x411 }
/-- [B -/
def k31 : Class := { plain "[B" (some 0) with kind := .array 30 .byte, interfaces := #[29, 2], accessFlags := 1041 }

/-- the primitive char -/
def k32 : Class := { plain "char" none with kind := .primitive 'C', accessFlags := 0x411 }
/-- [C -/
def k33 : Class := { plain "[C" (some 0) with kind := .array 32 .char, interfaces := #[29, 2], accessFlags := 1041 }

/-- the primitive int -/
def k34 : Class := { plain "int" none with kind := .primitive 'I', accessFlags := 0x411 }
/-- [I -/
def k35 : Class := { plain "[I" (some 0) with kind := .array 34 .int, interfaces := #[29, 2], accessFlags := 1041 }

/-- [Ljava/lang/Object; -/
def k36 : Class := { plain "[Ljava/lang/Object;" (some 0) with kind := .array 0 (.object "java/lang/Object"), interfaces := #[29, 2], accessFlags := 1041 }

def heap : Heap := #[{ cls := 7, slots := #[.long 0, .int 1, .null, .int 0, .null, .int 0, .int 0], vm := .statics 7 },
  { cls := 13, slots := #[.long 0, .int 0, .null, .null, .ref 5, .null, .null, .ref 4, .int 0, .int 0], vm := .statics 13 },
  { cls := 19, slots := #[.null, .null, .null], vm := .statics 19 },
  { cls := 36, slots := #[], vm := .none },
  { cls := 23, slots := #[.null, .null, .ref 3, .int 0], vm := .none },
  { cls := 28, slots := #[.ref 3, .int 0], vm := .none }]
def classes : Array Class := #[k0, k1, k2, k3, k4, k5, k6, k7, k8, k9, k10, k11, k12, k13, k14, k15, k16, k17, k18, k19, k20, k21, k22, k23, k24, k25, k26, k27, k28, k29, k30, k31, k32, k33, k34, k35, k36]
def interned : List (Array UInt16 × Addr) := []
def slotsUsed : Nat := 26
def theMethod : MethodId := ⟨1, 1⟩
def args0 : Array Value := #[.int 5, .int 7, .int 9, .int 11]
def aboutOver (below : List Frame) : State where
  vm := { classes := classes, interned := interned.toArray }
  heap := heap
  slotsUsed := slotsUsed
  threads := #[{ frames := .invoking theMethod args0 :: below }]
def below0 : List Frame := [.native { method := ⟨0, 0⟩, args := #[] }]
def about1 : State := aboutOver below0
def p0 : Program := .bare "" "" ""
def e0 : Env := launch0.env 0 0 0
theorem w_frames : about1.frames = Frame.invoking theMethod args0 :: below0 := rfl
set_option maxRecDepth 65536 in
theorem w_args : argsFit about1.vm theMethod args0 = true := by decide +kernel
set_option maxRecDepth 65536 in
theorem w_heap : heapFits about1 = true := by decide +kernel
set_option maxRecDepth 65536 in
theorem w_runnable : about1.curStatus? = some .runnable := by decide +kernel
set_option maxRecDepth 65536 in
theorem w_alone : about1.alone = true := by decide +kernel
set_option maxRecDepth 65536 in
theorem w_named : about1.methodNamed? x = some theMethod := by decide +kernel
set_option maxRecDepth 65536 in
theorem w_hears : about1.hears theMethod below0 = true := by decide +kernel
set_option maxRecDepth 65536 in
theorem w_ripe : about1.ripe theMethod args0 below0 = true := by decide +kernel
theorem w_running : about1.status = .running := rfl
set_option maxRecDepth 65536 in
theorem w_room : about1.hasRoom e0.platform room_1 = true :=
  launch0.hasRoom_least _ room_1 (by decide +kernel) (by decide +kernel) (by decide +kernel) (by decide +kernel) (by decide +kernel) (by decide +kernel)
theorem allAtoms_all (ts : List Jvm.Cond) (a : Array Jvm.Value) (st : Jvm.State) : (allAtoms ts).before a st = ts.all (fun c => c.before a st) := by
  induction ts with
  | nil => rfl
  | cons c t ih =>
    show (Jvm.Cond.and c (allAtoms t)).before a st = _
    rw [Jvm.Cond.before_and, ih, List.all_cons]
def words1 : List Jvm.Cond := Jvm.Cond.code x code maxLocals ret :: tables_1
/-- a 'code' word, met by the world's own term for the bytes: nothing is compared byte by byte -/
theorem code_word {y : MethodName} {bytes : ByteArray} {mx : Nat} {rt : Option FieldType} {a : Array Value} {s : State} {m : MethodId} {meth : Method} {c : Code} (h1 : s.methodNamed? y = some m) (h2 : s.vm.method? m = some meth) (h3 : meth.code = some c) (h4 : c.code = bytes)
    (h5 : (c.maxLocals == mx && c.exceptionTable.isEmpty && decide (c.maxStack ≤ mostOperands) && decide (meth.sig.returnType = rt) && !meth.locks && decide (parseMethodDescriptor y.desc = some meth.sig)) = true) : (Jvm.Cond.code y bytes mx rt).before a s = true := by
  simp only [Bool.and_eq_true, beq_iff_eq, Bool.not_eq_true', decide_eq_true_eq] at h5
  obtain ⟨⟨⟨⟨⟨g1, g2⟩, g3⟩, g4⟩, g5⟩, g6⟩ := h5
  simp [Cond.before, Cond.holds, Cond.value, h1, h2, h3, h4, g1, g2, g3, g4, g5, g6]
def isCode : Jvm.Cond → Bool
  | .code _ _ _ _ => true
  | _ => false
theorem all_split {L : List Jvm.Cond} {P : Jvm.Cond → Bool} (h1 : L.all (fun c => isCode c || P c) = true) (h2 : ∀ c ∈ L.filter isCode, P c = true) : L.all P = true := by
  refine List.all_eq_true.mpr fun c hc => ?_
  have h := List.all_eq_true.mp h1 c hc
  rcases Bool.eq_false_or_eq_true (isCode c) with hi | hi
  · exact h2 c (List.mem_filter.mpr ⟨hc, hi⟩)
  · simpa [hi] using h
set_option maxRecDepth 65536 in
theorem w_c0 : (Jvm.Cond.code x code maxLocals ret).before args0 about1 = true := code_word (m := ⟨1, 1⟩) (meth := k1m1) (c := k1c1) (by decide +kernel) rfl rfl rfl (by decide +kernel)
set_option maxRecDepth 65536 in
theorem w_c1 : (Jvm.Cond.code ({ cls := "java/lang/String", name := "<init>", desc := "([C)V" } : Jvm.MethodName) jdk_42_method_3_code (2 : Nat) (Option.none : Option Jvm.ClassFile.FieldType)).before args0 about1 = true := code_word (m := ⟨7, 1⟩) (meth := k7m1) (c := k7c1) (by decide +kernel) rfl rfl rfl (by decide +kernel)
set_option maxRecDepth 65536 in
theorem w_c2 : (Jvm.Cond.code ({ cls := "java/lang/String", name := "<init>", desc := "([CIILjava/lang/Void;)V" } : Jvm.MethodName) jdk_42_method_149_code (6 : Nat) (Option.none : Option Jvm.ClassFile.FieldType)).before args0 about1 = true := code_word (m := ⟨7, 2⟩) (meth := k7m2) (c := k7c2) (by decide +kernel) rfl rfl rfl (by decide +kernel)
set_option maxRecDepth 65536 in
theorem w_c3 : (Jvm.Cond.code ({ cls := "java/lang/Object", name := "<init>", desc := "()V" } : Jvm.MethodName) object_method_1_code (1 : Nat) (Option.none : Option Jvm.ClassFile.FieldType)).before args0 about1 = true := code_word (m := ⟨0, 0⟩) (meth := k0m0) (c := k0c0) (by decide +kernel) rfl rfl rfl (by decide +kernel)
set_option maxRecDepth 65536 in
theorem w_c4 : (Jvm.Cond.code ({ cls := "java/lang/StringUTF16", name := "compress", desc := "([CII)[B" } : Jvm.MethodName) jdk_52_method_16_code (6 : Nat) (Option.some (Jvm.ClassFile.FieldType.array Jvm.ClassFile.FieldType.byte))).before args0 about1 = true := code_word (m := ⟨8, 2⟩) (meth := k8m2) (c := k8c2) (by decide +kernel) rfl rfl rfl (by decide +kernel)
set_option maxRecDepth 65536 in
theorem w_c5 : (Jvm.Cond.code ({ cls := "java/lang/StringUTF16", name := "compress", desc := "([CI[BII)I" } : Jvm.MethodName) jdk_52_method_21_code (7 : Nat) (Option.some Jvm.ClassFile.FieldType.int)).before args0 about1 = true := code_word (m := ⟨8, 3⟩) (meth := k8m3) (c := k8c3) (by decide +kernel) rfl rfl rfl (by decide +kernel)
set_option maxRecDepth 65536 in
theorem w_c6 : (Jvm.Cond.code ({ cls := "java/lang/StringUTF16", name := "coderFromArrayLen", desc := "([BI)B" } : Jvm.MethodName) jdk_52_method_15_code (2 : Nat) (Option.some Jvm.ClassFile.FieldType.byte)).before args0 about1 = true := code_word (m := ⟨8, 1⟩) (meth := k8m1) (c := k8c1) (by decide +kernel) rfl rfl rfl (by decide +kernel)
set_option maxRecDepth 65536 in
theorem w_c7 : (Jvm.Cond.code ({ cls := "com/example/turnwise/turnwise/script/Position", name := "<init>", desc := "(Ljava/lang/String;I)V" } : Jvm.MethodName) prog_49_method_1_code (3 : Nat) (Option.none : Option Jvm.ClassFile.FieldType)).before args0 about1 = true := code_word (m := ⟨10, 0⟩) (meth := k10m0) (c := k10c0) (by decide +kernel) rfl rfl rfl (by decide +kernel)
set_option maxRecDepth 65536 in
theorem w_c8 : (Jvm.Cond.code ({ cls := "java/lang/Record", name := "<init>", desc := "()V" } : Jvm.MethodName) jdk_30_method_1_code (1 : Nat) (Option.none : Option Jvm.ClassFile.FieldType)).before args0 about1 = true := code_word (m := ⟨9, 0⟩) (meth := k9m0) (c := k9c0) (by decide +kernel) rfl rfl rfl (by decide +kernel)
set_option maxRecDepth 65536 in
theorem w_c9 : (Jvm.Cond.code ({ cls := "com/example/turnwise/turnwise/engine/Reply", name := "<init>", desc := "(ILjava/lang/String;Lcom/example/turnwise/turnwise/script/Position;Ljava/lang/String;Ljava/util/Map;Ljava/util/List;)V" } : Jvm.MethodName) prog_33_method_1_code (7 : Nat) (Option.none : Option Jvm.ClassFile.FieldType)).before args0 about1 = true := code_word (m := ⟨11, 0⟩) (meth := k11m0) (c := k11c0) (by decide +kernel) rfl rfl rfl (by decide +kernel)
set_option maxRecDepth 65536 in
theorem w_c10 : (Jvm.Cond.code ({ cls := "java/util/Map", name := "of", desc := "()Ljava/util/Map;" } : Jvm.MethodName) jdk_72_method_26_code (0 : Nat) (Option.some (Jvm.ClassFile.FieldType.object "java/util/Map"))).before args0 about1 = true := code_word (m := ⟨12, 0⟩) (meth := k12m0) (c := k12c0) (by decide +kernel) rfl rfl rfl (by decide +kernel)
set_option maxRecDepth 65536 in
theorem w_c11 : (Jvm.Cond.code ({ cls := "java/util/List", name := "of", desc := "()Ljava/util/List;" } : Jvm.MethodName) jdk_40_method_36_code (0 : Nat) (Option.some (Jvm.ClassFile.FieldType.object "java/util/List"))).before args0 about1 = true := code_word (m := ⟨17, 0⟩) (meth := k17m0) (c := k17c0) (by decide +kernel) rfl rfl rfl (by decide +kernel)
set_option maxRecDepth 65536 in
theorem w_c12 : (Jvm.Cond.code ({ cls := "com/example/turnwise/turnwise/engine/Reply", name := "endsDialogue", desc := "()Z" } : Jvm.MethodName) prog_33_method_2_code (1 : Nat) (Option.some Jvm.ClassFile.FieldType.boolean)).before args0 about1 = true := code_word (m := ⟨11, 1⟩) (meth := k11m1) (c := k11c1) (by decide +kernel) rfl rfl rfl (by decide +kernel)
def codes1 : List Jvm.Cond := [Jvm.Cond.code x code maxLocals ret, Jvm.Cond.code ({ cls := "java/lang/String", name := "<init>", desc := "([C)V" } : Jvm.MethodName) jdk_42_method_3_code (2 : Nat) (Option.none : Option Jvm.ClassFile.FieldType), Jvm.Cond.code ({ cls := "java/lang/String", name := "<init>", desc := "([CIILjava/lang/Void;)V" } : Jvm.MethodName) jdk_42_method_149_code (6 : Nat) (Option.none : Option Jvm.ClassFile.FieldType), Jvm.Cond.code ({ cls := "java/lang/Object", name := "<init>", desc := "()V" } : Jvm.MethodName) object_method_1_code (1 : Nat) (Option.none : Option Jvm.ClassFile.FieldType), Jvm.Cond.code ({ cls := "java/lang/StringUTF16", name := "compress", desc := "([CII)[B" } : Jvm.MethodName) jdk_52_method_16_code (6 : Nat) (Option.some (Jvm.ClassFile.FieldType.array Jvm.ClassFile.FieldType.byte)), Jvm.Cond.code ({ cls := "java/lang/StringUTF16", name := "compress", desc := "([CI[BII)I" } : Jvm.MethodName) jdk_52_method_21_code (7 : Nat) (Option.some Jvm.ClassFile.FieldType.int), Jvm.Cond.code ({ cls := "java/lang/StringUTF16", name := "coderFromArrayLen", desc := "([BI)B" } : Jvm.MethodName) jdk_52_method_15_code (2 : Nat) (Option.some Jvm.ClassFile.FieldType.byte), Jvm.Cond.code ({ cls := "com/example/turnwise/turnwise/script/Position", name := "<init>", desc := "(Ljava/lang/String;I)V" } : Jvm.MethodName) prog_49_method_1_code (3 : Nat) (Option.none : Option Jvm.ClassFile.FieldType), Jvm.Cond.code ({ cls := "java/lang/Record", name := "<init>", desc := "()V" } : Jvm.MethodName) jdk_30_method_1_code (1 : Nat) (Option.none : Option Jvm.ClassFile.FieldType), Jvm.Cond.code ({ cls := "com/example/turnwise/turnwise/engine/Reply", name := "<init>", desc := "(ILjava/lang/String;Lcom/example/turnwise/turnwise/script/Position;Ljava/lang/String;Ljava/util/Map;Ljava/util/List;)V" } : Jvm.MethodName) prog_33_method_1_code (7 : Nat) (Option.none : Option Jvm.ClassFile.FieldType), Jvm.Cond.code ({ cls := "java/util/Map", name := "of", desc := "()Ljava/util/Map;" } : Jvm.MethodName) jdk_72_method_26_code (0 : Nat) (Option.some (Jvm.ClassFile.FieldType.object "java/util/Map")), Jvm.Cond.code ({ cls := "java/util/List", name := "of", desc := "()Ljava/util/List;" } : Jvm.MethodName) jdk_40_method_36_code (0 : Nat) (Option.some (Jvm.ClassFile.FieldType.object "java/util/List")), Jvm.Cond.code ({ cls := "com/example/turnwise/turnwise/engine/Reply", name := "endsDialogue", desc := "()Z" } : Jvm.MethodName) prog_33_method_2_code (1 : Nat) (Option.some Jvm.ClassFile.FieldType.boolean)]
set_option maxRecDepth 65536 in
theorem codes_eq : words1.filter isCode = codes1 := rfl
theorem w_codes : ∀ c ∈ words1.filter isCode, c.before args0 about1 = true := by
  rw [codes_eq]
  intro c hc
  simp only [codes1, List.mem_cons, List.not_mem_nil, or_false] at hc
  rcases hc with rfl | rfl | rfl | rfl | rfl | rfl | rfl | rfl | rfl | rfl | rfl | rfl | rfl
  · exact w_c0
  · exact w_c1
  · exact w_c2
  · exact w_c3
  · exact w_c4
  · exact w_c5
  · exact w_c6
  · exact w_c7
  · exact w_c8
  · exact w_c9
  · exact w_c10
  · exact w_c11
  · exact w_c12
set_option maxRecDepth 65536 in
theorem w_t1 : (words1.take 24).all (fun c => isCode c || c.before args0 about1) = true := by decide +kernel
set_option maxRecDepth 65536 in
theorem w_t2 : ((words1.drop 24).take 24).all (fun c => isCode c || c.before args0 about1) = true := by decide +kernel
set_option maxRecDepth 65536 in
theorem w_t3 : (((words1.drop 24).drop 24).take 24).all (fun c => isCode c || c.before args0 about1) = true := by decide +kernel
set_option maxRecDepth 65536 in
theorem w_t4 : (((words1.drop 24).drop 24).drop 24).all (fun c => isCode c || c.before args0 about1) = true := by decide +kernel
theorem w_tables : (allAtoms (Jvm.Cond.code x code maxLocals ret :: tables_1)).before args0 about1 = true := by
  rw [allAtoms_all]
  show words1.all (fun c => c.before args0 about1) = true
  refine all_split ?_ w_codes
  rw [← List.take_append_drop 24 words1, List.all_append, w_t1, ← List.take_append_drop 24 (words1.drop 24), List.all_append, w_t2, ← List.take_append_drop 24 ((words1.drop 24).drop 24), List.all_append, w_t3, w_t4]
  rfl
set_option maxRecDepth 65536 in
theorem w_rest : rest_1_c.before args0 about1 = true := by decide +kernel
set_option maxRecDepth 65536 in
theorem w_case : (Jvm.Cond.and given_1 narrow_1).before args0 about1 = true := by decide +kernel
theorem w_applies : (headSpec (Jvm.Cond.code x code maxLocals ret :: tables_1) room_1).applies x e0.platform about1 = true :=
  (Spec.applies_iff w_frames).mpr ⟨w_running, w_runnable, w_alone, w_named, w_hears, w_ripe, w_room, w_tables⟩
theorem atStart : AtStart classFile x code maxLocals ret World_1 tables_1 room_1 Calls_1 rest_1 Pre_1 launch0 p0 e0 about1 theMethod args0 below0 :=
  ⟨lists_1, trivial, launch0.admits_env _ _ _, launch0.least_env, fairChoices_fair.cas, fairChoices_fair.clock, w_frames, w_args, w_heap, w_applies, trivial, w_rest, w_case⟩
end start1
theorem witness_1 : WitnessClaimed_1 := ⟨start1.p0, start1.e0, start1.about1, start1.theMethod, start1.args0, start1.below0, start1.atStart⟩
end Jvm.Pilot.@@N@@
