import JvmDerived
import JvmDerived.Pilot.@@N@@Statement
import JvmDerived.Pilot.@@N@@Code
set_option linter.unusedVariables false
set_option linter.unusedSimpArgs false
/- laws to paste: Road.backV (cut by pick.py; bodies as the Statement names them) -/
namespace Jvm.Pilot.@@N@@
namespace StrChars
open Jvm Sem ClassFile Op Lib Jvm.Stand Jvm.Free.XT Jvm.Free.ALB Jvm.Free.JM Jvm.Free
open Jvm.Lib.Cold (StaticIs)
/-- a char array whose places are chars -/
def Ch (a : Addr) (A : Cell) (U : State) : Prop := Arr .char a A U ∧ Typed .char A
theorem Ch.mv {a : Addr} {A : Cell} {U U' : State} (h : Ch a A U) (hal : U.vm.Alike U'.vm) (hh : U'.heap = U.heap) : Ch a A U' := ⟨h.1.mv hal hh, h.2⟩
theorem Ch.keep {a : Addr} {A : Cell} {U U' : State} (h : Ch a A U) (hal : U.vm.Alike U'.vm) (hk : U'.heap[a]? = some A) : Ch a A U' := ⟨h.1.keep hal hk, h.2⟩
/-- what place i of a char[]'s cell holds -/
def cv (A : Cell) (i : Nat) : Int32 := match A.slots[i]? with | some (.int x) => x | _ => 0
theorem Ch.get {a : Addr} {A : Cell} {U : State} (h : Ch a A U) {i : Nat} (hi : i < A.slots.size) : A.slots[i]? = some (.int (cv A i)) := by
  have e := Array.getElem?_eq_getElem hi
  have f := h.2 i _ e
  unfold cv; rw [e]
  generalize A.slots[i] = v at f
  cases v <;> simp [fits] at f ⊢
/-- the byte that i2b leaves of a char -/
def lo8 (x : Int32) : Int32 := x.toInt8.toInt32
theorem fits_lo8 (y : Int32) : fits .byte (.int (lo8 y)) = true := by
  have h1 := y.toInt8.le_toInt
  have h2 := y.toInt8.toInt_lt
  simp only [lo8, fits, Bool.and_eq_true, decide_eq_true_eq, Int32.le_iff_toInt_le, Int8.toInt_toInt32, show (-128 : Int32).toInt = -128 from by decide, show (127 : Int32).toInt = 127 from by decide]
  omega
/-- A' is A but that each place j of lo .. hi - 1 holds f j -/
def Laid (A A' : Cell) (lo hi : Nat) (f : Nat → Value) : Prop := A'.cls = A.cls ∧ A'.vm = A.vm ∧ A'.slots.size = A.slots.size ∧ ∀ i, A'.slots[i]? = if lo ≤ i ∧ i < hi then some (f i) else A.slots[i]?
theorem Laid.zero (A : Cell) (lo : Nat) (f : Nat → Value) : Laid A A lo (lo + 0) f := ⟨rfl, rfl, rfl, fun i => by rw [if_neg (by omega)]⟩
theorem Laid.step {A Ak : Cell} {lo k : Nat} {f : Nat → Value} {v : Value} (h : Laid A Ak lo k f) (hlo : lo ≤ k) (hk : k < Ak.slots.size) (hv : v = f k) : Laid A (Ak.setSlot k v) lo (k + 1) f := by
  refine ⟨h.1, h.2.1, by simpa [Cell.setSlot] using h.2.2.1, fun i => ?_⟩
  by_cases e : k = i
  · subst e; rw [Cell.slots_setSlot_self v hk, if_pos (by omega), hv]
  · rw [Cell.slots_setSlot_ne v e, h.2.2.2 i]
    by_cases q : lo ≤ i ∧ i < k
    · rw [if_pos q, if_pos (by omega)]
    · rw [if_neg q, if_neg (by omega)]
def U16 : String := "java/lang/StringUTF16"
namespace Cmp5
def yN : MethodName := ⟨"java/lang/StringUTF16", "compress", "([CI[BII)I"⟩
abbrev yB : ByteArray := jdk_52_method_21_code
theorem d0 : decode yB 0 = .ok (.iconst 0, 1) := by decide +kernel
theorem d1 : decode yB 1 = .ok (.istore 5, 2) := by decide +kernel
theorem d3 : decode yB 3 = .ok (.iload 5, 2) := by decide +kernel
theorem d5 : decode yB 5 = .ok (.iload 4, 2) := by decide +kernel
theorem d7 : decode yB 7 = .ok (.if_icmp (.ge) 37, 3) := by decide +kernel
theorem d10 : decode yB 10 = .ok (.aload_n 0, 1) := by decide +kernel
theorem d11 : decode yB 11 = .ok (.iload_n 1, 1) := by decide +kernel
theorem d12 : decode yB 12 = .ok (.caload, 1) := by decide +kernel
theorem d13 : decode yB 13 = .ok (.istore 6, 2) := by decide +kernel
theorem d15 : decode yB 15 = .ok (.iload 6, 2) := by decide +kernel
theorem d17 : decode yB 17 = .ok (.sipush 255, 3) := by decide +kernel
theorem d20 : decode yB 20 = .ok (.if_icmp (.le) 6, 3) := by decide +kernel
theorem d26 : decode yB 26 = .ok (.aload_n 2, 1) := by decide +kernel
theorem d27 : decode yB 27 = .ok (.iload_n 3, 1) := by decide +kernel
theorem d28 : decode yB 28 = .ok (.iload 6, 2) := by decide +kernel
theorem d30 : decode yB 30 = .ok (.i2b, 1) := by decide +kernel
theorem d31 : decode yB 31 = .ok (.bastore, 1) := by decide +kernel
theorem d32 : decode yB 32 = .ok (.iinc 1 1, 3) := by decide +kernel
theorem d35 : decode yB 35 = .ok (.iinc 3 1, 3) := by decide +kernel
theorem d38 : decode yB 38 = .ok (.iinc 5 1, 3) := by decide +kernel
theorem d41 : decode yB 41 = .ok (.goto (-38), 3) := by decide +kernel
theorem d44 : decode yB 44 = .ok (.iload 4, 2) := by decide +kernel
theorem d46 : decode yB 46 = .ok (.ireturn, 1) := by decide +kernel
def site : List Cond := []
def tab : Cond := tabOf yN yB 7 (some .int) site
def P (b : Addr) (A : Cell) (d : Addr) (B : Cell) (o q len : Nat) (args : Array Value) (s : State) : Prop := args = #[.ref b, .int (Int32.ofNat o), .ref d, .int (Int32.ofNat q), .int (Int32.ofNat len)] ∧ Ch b A s ∧ Arr .byte d B s ∧ b ≠ d ∧ o + len ≤ A.slots.size ∧ q + len ≤ B.slots.size ∧ ∀ i, i < len → ¬ 255 < cv A (o + i)
def E (b : Addr) (A : Cell) (d : Addr) (B : Cell) (o q len : Nat) (r : Option Value) (s u : State) : Prop := r = some (.int (Int32.ofNat len)) ∧ ∃ B', Put d B' s u ∧ Laid B B' q (q + len) (fun j => Value.int (lo8 (cv A (o + (j - q)))))
/-- no char of the range above 255: len; the places written hold each char's low byte -/
theorem law (l : Launch) (b : Addr) (A : Cell) (d : Addr) (B : Cell) (o q len : Nat) : Law l yN 5 5 0 0 yB 7 (some .int) site (P b A d B o q len) (E b A d B o q len) (copyLocs d q len) 0 0 := by
  refine Law.of_walk (plainFor_of_name (by decide +kernel)) (by decide +kernel) (by decide +kernel) (by decide) (fun _ _ h => by rw [h.1]; rfl) (fun _ U U' hal hh h => ⟨h.1, h.2.1.mv hal hh, h.2.2.1.mv hal hh, h.2.2.2⟩) (fun r U U' V V' h1 hal h2 h => ⟨h.1, h.2.elim fun B' q => ⟨B', q.1.mv h1 h2, q.2⟩⟩) ?_
  intro p e s m args below meth c s₁ X0 hexec hbytes hml hret hlk hnm hown hh0 W hP
  obtain ⟨rfl, hA, hB, hne, l1, l2, hp⟩ := hP
  have c1 : Steps p.tables e below (s₁.setTop (entryFrame m #[.ref b, .int (Int32.ofNat o), .ref d, .int (Int32.ofNat q), .int (Int32.ofNat len)] 7)) (s₁.setTop (mkF m 0 #[.val (.ref b), .val (.int (Int32.ofNat o)), .val (.ref d), .val (.int (Int32.ofNat q)), .val (.int (Int32.ofNat len)), .unset, .unset] [])) := entry rfl
  have hA0 := hA.1.mv X0.warmed.alike hh0
  have hB0 := hB.mv X0.warmed.alike hh0
  have a31 := hA.1.2.2.2
  have c2 : Steps p.tables e below (s₁.setTop (entryFrame m #[.ref b, .int (Int32.ofNat o), .ref d, .int (Int32.ofNat q), .int (Int32.ofNat len)] 7)) (s₁.setTop (mkF m 3 #[.val (.ref b), .val (.int (Int32.ofNat o)), .val (.ref d), .val (.int (Int32.ofNat q)), .val (.int (Int32.ofNat len)), .val (.int 0), .unset] [])) := c1.trans (by
    refine iconstV X0.here hexec rfl 0 (hb hbytes d0) (by decide) ?_
    refine XS.istore X0.here hexec rfl (hb hbytes d1) rfl rfl ?_
    exact Steps.refl _)
  have loop : ∀ (r i : Nat), i + r = len → ∀ (z : Slot), (z = .unset ∨ ∃ w, z = .val w ∧ w.category = 1) → ∀ (Tl : State) (Bk : Cell), Stand p l e { frames := 0, locals := 0, cells := 0, slots := 0 } s m #[.ref b, .int (Int32.ofNat o), .ref d, .int (Int32.ofNat q), .int (Int32.ofNat len)] below meth c Tl ([] ++ copyLocs d q i) 0 0 → Put d Bk s₁ Tl → Laid B Bk q (q + i) (fun j => Value.int (lo8 (cv A (o + (j - q))))) →
      Steps p.tables e below (s₁.setTop (entryFrame m #[.ref b, .int (Int32.ofNat o), .ref d, .int (Int32.ofNat q), .int (Int32.ofNat len)] 7)) (Tl.setTop (mkF m 3 #[.val (.ref b), .val (.int (Int32.ofNat (o + i))), .val (.ref d), .val (.int (Int32.ofNat (q + i))), .val (.int (Int32.ofNat len)), .val (.int (Int32.ofNat i)), z] [])) → ∃ (T' : State) (B' : Cell) (z' : Slot), Stand p l e { frames := 0, locals := 0, cells := 0, slots := 0 } s m #[.ref b, .int (Int32.ofNat o), .ref d, .int (Int32.ofNat q), .int (Int32.ofNat len)] below meth c T' ([] ++ copyLocs d q len) 0 0 ∧ Put d B' s₁ T' ∧ Laid B B' q (q + len) (fun j => Value.int (lo8 (cv A (o + (j - q))))) ∧
      Steps p.tables e below (s₁.setTop (entryFrame m #[.ref b, .int (Int32.ofNat o), .ref d, .int (Int32.ofNat q), .int (Int32.ofNat len)] 7)) (T'.setTop (mkF m 3 #[.val (.ref b), .val (.int (Int32.ofNat (o + len))), .val (.ref d), .val (.int (Int32.ofNat (q + len))), .val (.int (Int32.ofNat len)), .val (.int (Int32.ofNat len)), z'] [])) := by
    intro r
    induction r with
    | zero =>
      intro i hi z hz Tl Bk Xl pl fl cl
      have hil : i = len := by omega
      rw [hil] at Xl fl cl
      exact ⟨Tl, Bk, z, Xl, pl, fl, cl⟩
    | succ r ih =>
      intro i hi z hz Tl Bk Xl pl fl cl
      have all := X0.warmed.alike.symm.trans Xl.warmed.alike
      have hAl := hA0.keep all (pl.other hne hA0.1)
      have hBk := hB0.like all pl.1 fl.1 fl.2.1 fl.2.2.1
      have hlt : q + i < Bk.slots.size := by rw [fl.2.2.1]; omega
      have c3 : Steps p.tables e below (s₁.setTop (entryFrame m #[.ref b, .int (Int32.ofNat o), .ref d, .int (Int32.ofNat q), .int (Int32.ofNat len)] 7)) (Tl.setTop (mkF m 12 #[.val (.ref b), .val (.int (Int32.ofNat (o + i))), .val (.ref d), .val (.int (Int32.ofNat (q + i))), .val (.int (Int32.ofNat len)), .val (.int (Int32.ofNat i)), z] [.int (Int32.ofNat (o + i)), .ref b])) := cl.trans (by
        refine XS.iload Xl.here hexec rfl (hb hbytes d3) rfl ?_
        refine XS.iload Xl.here hexec rfl (hb hbytes d5) rfl ?_
        refine XS.icmpNo Xl.here hexec rfl (hb hbytes d7) rfl (ii_ge_f (lt32 (by omega) (by omega))) ?_
        refine XS.aloadN Xl.here hexec rfl (hb hbytes d10) rfl rfl ?_
        refine XS.iloadN Xl.here hexec rfl (hb hbytes d11) rfl ?_
        exact Steps.refl _)
      have c4 : Steps p.tables e below (s₁.setTop (entryFrame m #[.ref b, .int (Int32.ofNat o), .ref d, .int (Int32.ofNat q), .int (Int32.ofNat len)] 7)) (Tl.setTop (mkF m 13 #[.val (.ref b), .val (.int (Int32.ofNat (o + i))), .val (.ref d), .val (.int (Int32.ofNat (q + i))), .val (.int (Int32.ofNat len)), .val (.int (Int32.ofNat i)), z] [.int (cv A (o + i))])) := c3.trans (by
        refine Xl.aget hexec hAl rfl (hA.get (i := o + i) (by omega)) rfl rfl (hb hbytes d12) ?_
        exact Steps.refl _)
      have c5 : Steps p.tables e below (s₁.setTop (entryFrame m #[.ref b, .int (Int32.ofNat o), .ref d, .int (Int32.ofNat q), .int (Int32.ofNat len)] 7)) (Tl.setTop (mkF m 15 #[.val (.ref b), .val (.int (Int32.ofNat (o + i))), .val (.ref d), .val (.int (Int32.ofNat (q + i))), .val (.int (Int32.ofNat len)), .val (.int (Int32.ofNat i)), .val (.int (cv A (o + i)))] [])) := c4.trans (by
        refine XS.istoreS Xl.here hexec rfl (hb hbytes d13) rfl rfl hz ?_
        exact Steps.refl _)
      have c6 : Steps p.tables e below (s₁.setTop (entryFrame m #[.ref b, .int (Int32.ofNat o), .ref d, .int (Int32.ofNat q), .int (Int32.ofNat len)] 7)) (Tl.setTop (mkF m 31 #[.val (.ref b), .val (.int (Int32.ofNat (o + i))), .val (.ref d), .val (.int (Int32.ofNat (q + i))), .val (.int (Int32.ofNat len)), .val (.int (Int32.ofNat i)), .val (.int (cv A (o + i)))] [.int (lo8 (cv A (o + i))), .int (Int32.ofNat (q + i)), .ref d])) := c5.trans (by
        refine XS.iload Xl.here hexec rfl (hb hbytes d15) rfl ?_
        refine sipushV Xl.here hexec rfl 255 (hb hbytes d17) (by decide) ?_
        refine XS.icmpYes Xl.here hexec rfl (pc0 := 20) rfl (hb hbytes d20) rfl (ii_le_t (hp i (by omega))) (by decide) rfl ?_
        refine XS.aloadN Xl.here hexec rfl (hb hbytes d26) rfl rfl ?_
        refine XS.iloadN Xl.here hexec rfl (hb hbytes d27) rfl ?_
        refine XS.iload Xl.here hexec rfl (hb hbytes d28) rfl ?_
        refine i2b Xl.here hexec rfl (hb hbytes d30) rfl ?_
        exact Steps.refl _)
      obtain ⟨T7, X7, p7, st7⟩ := Xl.aput hexec hBk rfl hlt rfl (fits_lo8 (cv A (o + i))) (g := (mkF m 31 #[.val (.ref b), .val (.int (Int32.ofNat (o + i))), .val (.ref d), .val (.int (Int32.ofNat (q + i))), .val (.int (Int32.ofNat len)), .val (.int (Int32.ofNat i)), .val (.int (cv A (o + i)))] [.int (lo8 (cv A (o + i))), .int (Int32.ofNat (q + i)), .ref d])) rfl (rest := []) rfl (hb hbytes d31)
      have c8 : Steps p.tables e below (s₁.setTop (entryFrame m #[.ref b, .int (Int32.ofNat o), .ref d, .int (Int32.ofNat q), .int (Int32.ofNat len)] 7)) (T7.setTop (mkF m 32 #[.val (.ref b), .val (.int (Int32.ofNat (o + i))), .val (.ref d), .val (.int (Int32.ofNat (q + i))), .val (.int (Int32.ofNat len)), .val (.int (Int32.ofNat i)), .val (.int (cv A (o + i)))] [])) := c6.trans (st7 _ (Steps.refl _))
      have c9 : Steps p.tables e below (s₁.setTop (entryFrame m #[.ref b, .int (Int32.ofNat o), .ref d, .int (Int32.ofNat q), .int (Int32.ofNat len)] 7)) (T7.setTop (mkF m 3 #[.val (.ref b), .val (.int (Int32.ofNat (o + i) + 1)), .val (.ref d), .val (.int (Int32.ofNat (q + i) + 1)), .val (.int (Int32.ofNat len)), .val (.int (Int32.ofNat i + 1)), .val (.int (cv A (o + i)))] [])) := c8.trans (by
        refine iincV X7.here hexec rfl 1 (hb hbytes d32) (by decide) rfl rfl ?_
        refine iincV X7.here hexec rfl 1 (hb hbytes d35) (by decide) rfl rfl ?_
        refine iincV X7.here hexec rfl 1 (hb hbytes d38) (by decide) rfl rfl ?_
        refine XS.goto X7.here hexec rfl (pc0 := 41) rfl (hb hbytes d41) (by decide) rfl ?_
        exact Steps.refl _)
      have c10 : Steps p.tables e below (s₁.setTop (entryFrame m #[.ref b, .int (Int32.ofNat o), .ref d, .int (Int32.ofNat q), .int (Int32.ofNat len)] 7)) (T7.setTop (mkF m 3 #[.val (.ref b), .val (.int (Int32.ofNat (o + (i + 1)))), .val (.ref d), .val (.int (Int32.ofNat (q + (i + 1)))), .val (.int (Int32.ofNat len)), .val (.int (Int32.ofNat (i + 1))), .val (.int (cv A (o + i)))] [])) := by
        have := c9
        rw [succ32, succ32, succ32] at this
        exact this
      exact ih (i + 1) (by omega) _ (Or.inr ⟨_, rfl, rfl⟩) T7 _ (by rw [copyLocs_step, ← List.append_assoc]; exact X7) (pl.trans p7) (fl.step (by omega) hlt (by simp)) c10
  obtain ⟨T9, B9, z9, X9, p9, f9, g9⟩ := loop len 0 (by omega) .unset (Or.inl rfl) s₁ B (by simpa [copyLocs] using X0) ⟨hB0.1, fun _ _ => rfl, rfl⟩ (Laid.zero _ _ _) c2
  have c11 : Steps p.tables e below (s₁.setTop (entryFrame m #[.ref b, .int (Int32.ofNat o), .ref d, .int (Int32.ofNat q), .int (Int32.ofNat len)] 7)) (T9.setTop (mkF m 46 #[.val (.ref b), .val (.int (Int32.ofNat (o + len))), .val (.ref d), .val (.int (Int32.ofNat (q + len))), .val (.int (Int32.ofNat len)), .val (.int (Int32.ofNat len)), z9] [.int (Int32.ofNat len)])) := g9.trans (by
    refine XS.iload X9.here hexec rfl (hb hbytes d3) rfl ?_
    refine XS.iload X9.here hexec rfl (hb hbytes d5) rfl ?_
    refine XS.icmpYes X9.here hexec rfl (pc0 := 7) rfl (hb hbytes d7) rfl (ii_ge_t (nlt32 (by omega) (Nat.le_refl _))) (by decide) rfl ?_
    refine XS.iload X9.here hexec rfl (hb hbytes d44) rfl ?_
    exact Steps.refl _)
  exact ⟨T9, some (.int (Int32.ofNat len)), _, _, _, X9, by simp, rfl, rfl, (fun h => by cases h), ⟨rfl, B9, p9.from hh0, f9⟩, fun fs hl => c11.trans (X9.ireturnOut hexec hret rfl (Or.inl rfl) (hb hbytes d46) hl)⟩
end Cmp5
namespace Cmp3
def yN : MethodName := ⟨"java/lang/StringUTF16", "compress", "([CII)[B"⟩
abbrev yB : ByteArray := jdk_52_method_16_code
theorem d0 : decode yB 0 = .ok (.iload_n 2, 1) := by decide +kernel
theorem d1 : decode yB 1 = .ok (.newarray .byte, 2) := by decide +kernel
theorem d3 : decode yB 3 = .ok (.astore_n 3, 1) := by decide +kernel
theorem d4 : decode yB 4 = .ok (.aload_n 0, 1) := by decide +kernel
theorem d5 : decode yB 5 = .ok (.iload_n 1, 1) := by decide +kernel
theorem d6 : decode yB 6 = .ok (.aload_n 3, 1) := by decide +kernel
theorem d7 : decode yB 7 = .ok (.iconst 0, 1) := by decide +kernel
theorem d8 : decode yB 8 = .ok (.iload_n 2, 1) := by decide +kernel
theorem d9 : decode yB 9 = .ok (.invokestatic 115, 3) := by decide +kernel
theorem d12 : decode yB 12 = .ok (.istore 4, 2) := by decide +kernel
theorem d14 : decode yB 14 = .ok (.iload 4, 2) := by decide +kernel
theorem d16 : decode yB 16 = .ok (.iload_n 2, 1) := by decide +kernel
theorem d17 : decode yB 17 = .ok (.if_icmp (.eq) 40, 3) := by decide +kernel
theorem d57 : decode yB 57 = .ok (.aload_n 3, 1) := by decide +kernel
theorem d58 : decode yB 58 = .ok (.areturn, 1) := by decide +kernel
def site : List Cond := [.arrayClass .byte, Cmp5.tab] ++ staticW U16 115 Cmp5.yN
def tab : Cond := tabOf yN yB 6 (some (.array .byte)) site
def P (b : Addr) (A : Cell) (o len : Nat) (args : Array Value) (s : State) : Prop := args = #[.ref b, .int (Int32.ofNat o), .int (Int32.ofNat len)] ∧ Ch b A s ∧ o + len ≤ A.slots.size ∧ len ≤ 536870912 ∧ ∀ i, i < len → ¬ 255 < cv A (o + i)
def E (b : Addr) (A : Cell) (o len : Nat) (r : Option Value) (s u : State) : Prop := NewArr .byte "[B" len (fun j => .int (lo8 (cv A (o + j)))) r s u ∧ u.heap.size = s.heap.size + 1
/-- no char of the range above 255: a new byte[] of their low bytes -/
theorem law (l : Launch) (b : Addr) (A : Cell) (o len : Nat) : Law l yN 3 3 1 18 yB 6 (some (.array .byte)) site (P b A o len) (E b A o len) [] 1 len := by
  refine Law.of_walk (plainFor_of_name (by decide +kernel)) (by decide +kernel) (by decide +kernel) (by decide) (fun _ _ h => by rw [h.1]; rfl) (fun _ U U' hal hh h => ⟨h.1, h.2.1.mv hal hh, h.2.2⟩) (fun r U U' V V' h1 hal h2 h => ⟨NewArr.mv r U U' V V' h1 hal h2 h.1, by rw [h1, h2]; exact h.2⟩) ?_
  intro p e s m args below meth c s₁ X0 hexec hbytes hml hret hlk hnm hown hh0 W hP
  obtain ⟨rfl, hA, l1, l2, hp⟩ := hP
  have a31 := hA.1.2.2.2
  have c1 : Steps p.tables e below (s₁.setTop (entryFrame m #[.ref b, .int (Int32.ofNat o), .int (Int32.ofNat len)] 6)) (s₁.setTop (mkF m 0 #[.val (.ref b), .val (.int (Int32.ofNat o)), .val (.int (Int32.ofNat len)), .unset, .unset, .unset] [])) := entry rfl
  have c2 : Steps p.tables e below (s₁.setTop (entryFrame m #[.ref b, .int (Int32.ofNat o), .int (Int32.ofNat len)] 6)) (s₁.setTop (mkF m 1 #[.val (.ref b), .val (.int (Int32.ofNat o)), .val (.int (Int32.ofNat len)), .unset, .unset, .unset] [.int (Int32.ofNat len)])) := c1.trans (by
    refine XS.iloadN X0.here hexec rfl (hb hbytes d0) rfl ?_
    exact Steps.refl _)
  obtain ⟨T3, B3, X3, ba3, bs3, bv3, bh3, bf3, st3⟩ := X0.anew hexec (atype := .byte) (wk W (.arrayClass .byte)) rfl (by show len * 1 ≤ _; omega) (by omega) (g := (mkF m 1 #[.val (.ref b), .val (.int (Int32.ofNat o)), .val (.int (Int32.ofNat len)), .unset, .unset, .unset] [.int (Int32.ofNat len)])) rfl (hb hbytes d1) (rest := []) rfl (Nat.le_refl _) (by show 0 + len ≤ len; omega)
  rw [hh0] at ba3 st3
  have kp3 : XT.Kept s T3 := (XT.Kept.of_eq hh0).push bh3
  have hA3 := hA.keep X3.warmed.alike (kp3 _ _ hA.1.1)
  have hne : b ≠ s.heap.size := hA.1.ne
  have c4 : Steps p.tables e below (s₁.setTop (entryFrame m #[.ref b, .int (Int32.ofNat o), .int (Int32.ofNat len)] 6)) (T3.setTop (mkF m 3 #[.val (.ref b), .val (.int (Int32.ofNat o)), .val (.int (Int32.ofNat len)), .unset, .unset, .unset] [.ref s.heap.size])) := c2.trans (st3 _ (Steps.refl _))
  have c5 : Steps p.tables e below (s₁.setTop (entryFrame m #[.ref b, .int (Int32.ofNat o), .int (Int32.ofNat len)] 6)) (T3.setTop (mkF m 9 #[.val (.ref b), .val (.int (Int32.ofNat o)), .val (.int (Int32.ofNat len)), .val (.ref s.heap.size), .unset, .unset] [.int (Int32.ofNat len), .int 0, .ref s.heap.size, .int (Int32.ofNat o), .ref b])) := c4.trans (by
    refine XS.astoreN X3.here hexec rfl (hb hbytes d3) rfl rfl rfl ?_
    refine XS.aloadN X3.here hexec rfl (hb hbytes d4) rfl rfl ?_
    refine XS.iloadN X3.here hexec rfl (hb hbytes d5) rfl ?_
    refine XS.aloadN X3.here hexec rfl (hb hbytes d6) rfl rfl ?_
    refine iconstV X3.here hexec rfl 0 (hb hbytes d7) (by decide) ?_
    refine XS.iloadN X3.here hexec rfl (hb hbytes d8) rfl ?_
    exact Steps.refl _)
  obtain ⟨v6, T6, X6, E6, g6⟩ := X3.callS hexec (Cmp5.law l b A s.heap.size B3 o 0 len) hown (wks W (staticW U16 115 Cmp5.yN)) (wk W Cmp5.tab) (W := 0) (Nat.le_of_ble_eq_true rfl) (Nat.le_of_ble_eq_true rfl) (Nat.le_refl _) (by show 0 + len + 0 ≤ len; omega) (g := (mkF m 9 #[.val (.ref b), .val (.int (Int32.ofNat o)), .val (.int (Int32.ofNat len)), .val (.ref s.heap.size), .unset, .unset] [.int (Int32.ofNat len), .int (Int32.ofNat 0), .ref s.heap.size, .int (Int32.ofNat o), .ref b])) rfl (by rw [hml]; rfl) c5 (argsL := [.ref b, .int (Int32.ofNat o), .ref s.heap.size, .int (Int32.ofNat 0), .int (Int32.ofNat len)]) (rest := []) rfl rfl (by show 2 * 0 + 0 ≤ _; decide) (hb hbytes d9) (⟨rfl, hA3, ba3, hne, l1, by rw [bs3]; simp, hp⟩)
  obtain ⟨rfl, B6, p6, f6⟩ := E6
  have c7 : Steps p.tables e below (s₁.setTop (entryFrame m #[.ref b, .int (Int32.ofNat o), .int (Int32.ofNat len)] 6)) (T6.setTop (mkF m 12 #[.val (.ref b), .val (.int (Int32.ofNat o)), .val (.int (Int32.ofNat len)), .val (.ref s.heap.size), .unset, .unset] [.int (Int32.ofNat len)])) := g6
  have c8 : Steps p.tables e below (s₁.setTop (entryFrame m #[.ref b, .int (Int32.ofNat o), .int (Int32.ofNat len)] 6)) (T6.setTop (mkF m 58 #[.val (.ref b), .val (.int (Int32.ofNat o)), .val (.int (Int32.ofNat len)), .val (.ref s.heap.size), .val (.int (Int32.ofNat len)), .unset] [.ref s.heap.size])) := c7.trans (by
    refine XS.istore X6.here hexec rfl (hb hbytes d12) rfl rfl ?_
    refine XS.iload X6.here hexec rfl (hb hbytes d14) rfl ?_
    refine XS.iloadN X6.here hexec rfl (hb hbytes d16) rfl ?_
    refine XS.icmpYes X6.here hexec rfl (pc0 := 17) rfl (hb hbytes d17) rfl (ii_eq_t rfl) (by decide) rfl ?_
    refine XS.aloadN X6.here hexec rfl (hb hbytes d57) rfl rfl ?_
    exact Steps.refl _)
  have X8 := X6.wide (L' := []) (cells' := 1) (slots' := len) (fun x hx hlt => by
    simp only [List.nil_append, copyLocs, List.mem_map, List.mem_range] at hx
    obtain ⟨i, -, rfl⟩ := hx
    exact absurd hlt (Nat.lt_irrefl _)) (Nat.le_refl _) (by omega)
  exact ⟨T6, some (.ref s.heap.size), _, _, _, X8, rfl, rfl, rfl, (fun h => by cases h), ⟨⟨rfl, B6, ba3.like (X3.warmed.alike.symm.trans X6.warmed.alike) p6.1 f6.1 f6.2.1 f6.2.2.1, f6.2.1.trans bv3, by rw [X6.warmed.alike.findClass, f6.1]; exact bf3, by rw [f6.2.2.1, bs3]; simp, fun j hj => by rw [f6.2.2.2 j, if_pos (by omega)]; rfl, kp3.put p6 (Nat.le_refl _)⟩, by rw [p6.2.2, bh3, hh0]; simp⟩, fun fs hl => c8.trans (X8.areturnOut hexec rfl hret rfl (hb hbytes d58) hl)⟩
end Cmp3
namespace CodL
def yN : MethodName := ⟨"java/lang/StringUTF16", "coderFromArrayLen", "([BI)B"⟩
abbrev yB : ByteArray := jdk_52_method_15_code
theorem d0 : decode yB 0 = .ok (.iload_n 1, 1) := by decide +kernel
theorem d1 : decode yB 1 = .ok (.aload_n 0, 1) := by decide +kernel
theorem d2 : decode yB 2 = .ok (.arraylength, 1) := by decide +kernel
theorem d3 : decode yB 3 = .ok (.isub, 1) := by decide +kernel
theorem d4 : decode yB 4 = .ok (.bipush 31, 2) := by decide +kernel
theorem d6 : decode yB 6 = .ok (.iushr, 1) := by decide +kernel
theorem d7 : decode yB 7 = .ok (.i2b, 1) := by decide +kernel
theorem d8 : decode yB 8 = .ok (.ireturn, 1) := by decide +kernel
def site : List Cond := []
def tab : Cond := tabOf yN yB 2 (some .byte) site
def P (d : Addr) (B : Cell) (args : Array Value) (s : State) : Prop := args = #[.ref d, .int (Int32.ofNat B.slots.size)] ∧ Arr .byte d B s
def E (r : Option Value) (s u : State) : Prop := XT.PureE (some (.int 0)) r s u
/-- an array as long as the number of chars: LATIN1 -/
theorem law (l : Launch) (d : Addr) (B : Cell) : Law l yN 2 2 0 0 yB 2 (some .byte) site (P d B) E [] 0 0 := by
  refine Law.of_walk (plainFor_of_name (by decide +kernel)) (by decide +kernel) (by decide +kernel) (by decide) (fun _ _ h => by rw [h.1]; rfl) (fun _ U U' hal hh h => ⟨h.1, h.2.mv hal hh⟩) (fun r U U' V V' h1 hal h2 h => XT.PureE.mv r U U' V V' h1 hal h2 h) ?_
  intro p e s m args below meth c s₁ X0 hexec hbytes hml hret hlk hnm hown hh0 W hP
  obtain ⟨rfl, hB⟩ := hP
  have hB0 := hB.mv X0.warmed.alike hh0
  have c1 : Steps p.tables e below (s₁.setTop (entryFrame m #[.ref d, .int (Int32.ofNat B.slots.size)] 2)) (s₁.setTop (mkF m 0 #[.val (.ref d), .val (.int (Int32.ofNat B.slots.size))] [])) := entry rfl
  have c2 : Steps p.tables e below (s₁.setTop (entryFrame m #[.ref d, .int (Int32.ofNat B.slots.size)] 2)) (s₁.setTop (mkF m 2 #[.val (.ref d), .val (.int (Int32.ofNat B.slots.size))] [.ref d, .int (Int32.ofNat B.slots.size)])) := c1.trans (by
    refine XS.iloadN X0.here hexec rfl (hb hbytes d0) rfl ?_
    refine XS.aloadN X0.here hexec rfl (hb hbytes d1) rfl rfl ?_
    exact Steps.refl _)
  have c3 : Steps p.tables e below (s₁.setTop (entryFrame m #[.ref d, .int (Int32.ofNat B.slots.size)] 2)) (s₁.setTop (mkF m 8 #[.val (.ref d), .val (.int (Int32.ofNat B.slots.size))] [.int (lo8 (ushr (Int32.ofNat B.slots.size - Int32.ofNat B.slots.size) 31))])) := c2.trans (by
    refine X0.alen hexec hB0 rfl rfl (hb hbytes d2) ?_
    refine XS.isub X0.here hexec rfl (hb hbytes d3) rfl ?_
    refine bipushV X0.here hexec rfl 31 (hb hbytes d4) (by decide) ?_
    refine iushr X0.here hexec rfl (hb hbytes d6) rfl ?_
    refine i2b X0.here hexec rfl (hb hbytes d7) rfl ?_
    exact Steps.refl _)
  have e0 : lo8 (ushr (Int32.ofNat B.slots.size - Int32.ofNat B.slots.size) 31) = 0 := by rw [Int32.sub_self]; decide
  rw [e0] at c3
  exact ⟨s₁, some (.int 0), _, _, _, X0, rfl, rfl, rfl, (fun h => by cases h), ⟨rfl, hh0⟩, fun fs hl => c3.trans (X0.ireturnOut hexec hret rfl (Or.inr (Or.inr (Or.inl rfl))) (hb hbytes d8) hl)⟩
end CodL
/-- the String at a is Latin-1 over a new byte[] (the heap's one new cell): the low bytes of the len chars of A from o on; every cell but a is kept -/
def Got (a : Addr) (D : Cell) (fV fC : Field) (A : Cell) (o len : Nat) (r : Option Value) (s u : State) : Prop := r = none ∧ ∃ D' V : Cell, Blank "java/lang/String" a D' u ∧ Same D D' [fV.slot, fC.slot] ∧ D'.slots[fV.slot]? = some (.ref s.heap.size) ∧ D'.slots[fC.slot]? = some (.int 0) ∧ Arr .byte s.heap.size V u ∧ V.vm = .none ∧ u.vm.findClass "[B" = some V.cls ∧ V.slots.size = len ∧ (∀ j, j < len → V.slots[j]? = some (.int (lo8 (cv A (o + j))))) ∧ (∀ (y : Addr) (c : Cell), y ≠ a → s.heap[y]? = some c → u.heap[y]? = some c) ∧ u.heap.size = s.heap.size + 1
theorem Got.mv {a : Addr} {D A : Cell} {fV fC : Field} {o len : Nat} : ∀ r (U U' V V' : State), U'.heap = U.heap → V.vm.Alike V'.vm → V'.heap = V.heap → Got a D fV fC A o len r U V → Got a D fV fC A o len r U' V' :=
  fun r U U' V V' h1 hal h2 ⟨e0, D', X, a1, a2, a3, a4, a5, a6, a7, a8, a9, a10, a11⟩ => ⟨e0, D', X, a1.mv hal h2, a2, by rw [h1]; exact a3, a4, by rw [h1]; exact a5.mv hal h2, a6, by rw [hal.findClass]; exact a7, a8, a9, by rw [h1, h2]; exact a10, by rw [h1, h2]; exact a11⟩
namespace New4
def yN : MethodName := ⟨"java/lang/String", "<init>", "([CIILjava/lang/Void;)V"⟩
abbrev yB : ByteArray := jdk_42_method_149_code
theorem d0 : decode yB 0 = .ok (.aload_n 0, 1) := by decide +kernel
theorem d1 : decode yB 1 = .ok (.invokespecial 1, 3) := by decide +kernel
theorem d4 : decode yB 4 = .ok (.iload_n 3, 1) := by decide +kernel
theorem d5 : decode yB 5 = .ok (.ifCond (.ne) 22, 3) := by decide +kernel
theorem d27 : decode yB 27 = .ok (.getstatic 38, 3) := by decide +kernel
theorem d30 : decode yB 30 = .ok (.ifCond (.eq) 28, 3) := by decide +kernel
theorem d33 : decode yB 33 = .ok (.aload_n 1, 1) := by decide +kernel
theorem d34 : decode yB 34 = .ok (.iload_n 2, 1) := by decide +kernel
theorem d35 : decode yB 35 = .ok (.iload_n 3, 1) := by decide +kernel
theorem d36 : decode yB 36 = .ok (.invokestatic 177, 3) := by decide +kernel
theorem d39 : decode yB 39 = .ok (.astore 5, 2) := by decide +kernel
theorem d41 : decode yB 41 = .ok (.aload_n 0, 1) := by decide +kernel
theorem d42 : decode yB 42 = .ok (.aload 5, 2) := by decide +kernel
theorem d44 : decode yB 44 = .ok (.iload_n 3, 1) := by decide +kernel
theorem d45 : decode yB 45 = .ok (.invokestatic 47, 3) := by decide +kernel
theorem d48 : decode yB 48 = .ok (.putfield 15, 3) := by decide +kernel
theorem d51 : decode yB 51 = .ok (.aload_n 0, 1) := by decide +kernel
theorem d52 : decode yB 52 = .ok (.aload 5, 2) := by decide +kernel
theorem d54 : decode yB 54 = .ok (.putfield 9, 3) := by decide +kernel
theorem d57 : decode yB 57 = .ok (.return_, 1) := by decide +kernel
def site : List Cond := [.fieldLink "java/lang/String" 38 "java/lang/String" "COMPACT_STRINGS" "Z", Cmp3.tab, CodL.tab, .laysFinal "java/lang/String" "java/lang/String" "value" "[B", .fieldLink "java/lang/String" 9 "java/lang/String" "value" "[B", .laysFinal "java/lang/String" "java/lang/String" "coder" "B", .fieldLink "java/lang/String" 15 "java/lang/String" "coder" "B"] ++ objW "java/lang/String" 1 ++ staticW "java/lang/String" 177 Cmp3.yN ++ staticW "java/lang/String" 47 CodL.yN
def tab : Cond := tabOf yN yB 6 none site
def P (a : Addr) (D : Cell) (fV fC : Field) (b : Addr) (A : Cell) (z : Int32) (o len : Nat) (args : Array Value) (s : State) : Prop := args = #[.ref a, .ref b, .int (Int32.ofNat o), .int (Int32.ofNat len), .null] ∧ Blank "java/lang/String" a D s ∧ Found "java/lang/String" "value" "[B" fV s ∧ Found "java/lang/String" "coder" "B" fC s ∧ Ch b A s ∧ StaticIs s "java/lang/String" "COMPACT_STRINGS" "Z" (.int z) ∧ ¬ z = 0 ∧ 0 < len ∧ o + len ≤ A.slots.size ∧ len ≤ 536870912 ∧ ∀ i, i < len → ¬ 255 < cv A (o + i)
def E (a : Addr) (D : Cell) (fV fC : Field) (A : Cell) (o len : Nat) (r : Option Value) (s u : State) : Prop := Got a D fV fC A o len r s u
/-- len > 0, no char of the range above 255: a Latin-1 String of their low bytes -/
theorem law (l : Launch) (a : Addr) (D : Cell) (fV fC : Field) (b : Addr) (A : Cell) (z : Int32) (o len : Nat) : Law l yN 5 4 2 35 yB 6 none site (P a D fV fC b A z o len) (E a D fV fC A o len) [⟨a, fC.slot⟩, ⟨a, fV.slot⟩] 1 len := by
  refine Law.of_walk (plainFor_of_name (by decide +kernel)) (by decide +kernel) (by decide +kernel) (by decide) (fun _ _ h => by rw [h.1]; rfl) (fun _ U U' hal hh h => ⟨h.1, h.2.1.mv hal hh, h.2.2.1.al hal, h.2.2.2.1.al hal, h.2.2.2.2.1.mv hal hh, h.2.2.2.2.2.1.there hal hh, h.2.2.2.2.2.2⟩) (fun r U U' V V' h1 hal h2 h => Got.mv r U U' V V' h1 hal h2 h) ?_
  intro p e s m args below meth c s₁ X0 hexec hbytes hml hret hlk hnm hown hh0 W hP
  obtain ⟨rfl, hB, f1, f2, hA, s1, hz, l0, l1, l2, hp⟩ := hP
  have a31 := hA.1.2.2.2
  have c1 : Steps p.tables e below (s₁.setTop (entryFrame m #[.ref a, .ref b, .int (Int32.ofNat o), .int (Int32.ofNat len), .null] 6)) (s₁.setTop (mkF m 0 #[.val (.ref a), .val (.ref b), .val (.int (Int32.ofNat o)), .val (.int (Int32.ofNat len)), .val .null, .unset] [])) := entry rfl
  have c2 : Steps p.tables e below (s₁.setTop (entryFrame m #[.ref a, .ref b, .int (Int32.ofNat o), .int (Int32.ofNat len), .null] 6)) (s₁.setTop (mkF m 1 #[.val (.ref a), .val (.ref b), .val (.int (Int32.ofNat o)), .val (.int (Int32.ofNat len)), .val .null, .unset] [.ref a])) := c1.trans (by
    refine XS.aloadN X0.here hexec rfl (hb hbytes d0) rfl rfl ?_
    exact Steps.refl _)
  obtain ⟨T3, X3, q3, st3⟩ := X0.oinit hexec hown (wks W (objW "java/lang/String" 1)) (g := (mkF m 1 #[.val (.ref a), .val (.ref b), .val (.int (Int32.ofNat o)), .val (.int (Int32.ofNat len)), .val .null, .unset] [.ref a])) rfl (by rw [hml]; rfl) (rest := []) rfl (hb hbytes d1) (W := 0) (by show 2 * 0 + 0 ≤ _; decide) (Nat.le_of_ble_eq_true rfl) (Nat.le_of_ble_eq_true rfl)
  have hh3 := q3.trans hh0
  have c4 : Steps p.tables e below (s₁.setTop (entryFrame m #[.ref a, .ref b, .int (Int32.ofNat o), .int (Int32.ofNat len), .null] 6)) (T3.setTop (mkF m 27 #[.val (.ref a), .val (.ref b), .val (.int (Int32.ofNat o)), .val (.int (Int32.ofNat len)), .val .null, .unset] [])) := (c2.trans (st3 _ (Steps.refl _))).trans (by
    refine XS.iloadN X3.here hexec rfl (hb hbytes d4) rfl ?_
    refine XS.ifYes X3.here hexec rfl (pc0 := 5) rfl (hb hbytes d5) rfl (i0_ne_t (nz32 (by omega) l0)) (by decide) rfl ?_
    exact Steps.refl _)
  obtain ⟨T5, X5, q5, st5⟩ := X3.sget hexec hown (wk W (.fieldLink "java/lang/String" 38 "java/lang/String" "COMPACT_STRINGS" "Z")) s1 (fun _ _ h => by rw [hh3]; exact h) (g := (mkF m 27 #[.val (.ref a), .val (.ref b), .val (.int (Int32.ofNat o)), .val (.int (Int32.ofNat len)), .val .null, .unset] [])) rfl (hb hbytes d27)
  have hh5 := q5.trans hh3
  have c6 : Steps p.tables e below (s₁.setTop (entryFrame m #[.ref a, .ref b, .int (Int32.ofNat o), .int (Int32.ofNat len), .null] 6)) (T5.setTop (mkF m 30 #[.val (.ref a), .val (.ref b), .val (.int (Int32.ofNat o)), .val (.int (Int32.ofNat len)), .val .null, .unset] [.int z])) := c4.trans (st5 _ (Steps.refl _))
  have c7 : Steps p.tables e below (s₁.setTop (entryFrame m #[.ref a, .ref b, .int (Int32.ofNat o), .int (Int32.ofNat len), .null] 6)) (T5.setTop (mkF m 36 #[.val (.ref a), .val (.ref b), .val (.int (Int32.ofNat o)), .val (.int (Int32.ofNat len)), .val .null, .unset] [.int (Int32.ofNat len), .int (Int32.ofNat o), .ref b])) := c6.trans (by
    refine XS.ifNo X5.here hexec rfl (hb hbytes d30) rfl (i0_eq_f hz) ?_
    refine XS.aloadN X5.here hexec rfl (hb hbytes d33) rfl rfl ?_
    refine XS.iloadN X5.here hexec rfl (hb hbytes d34) rfl ?_
    refine XS.iloadN X5.here hexec rfl (hb hbytes d35) rfl ?_
    exact Steps.refl _)
  obtain ⟨v8, T8, X8, E8, g8⟩ := X5.callS hexec (Cmp3.law l b A o len) hown (wks W (staticW "java/lang/String" 177 Cmp3.yN)) (wk W Cmp3.tab) (W := 0) (Nat.le_of_ble_eq_true rfl) (Nat.le_of_ble_eq_true rfl) (Nat.le_refl _) (by show 0 + len ≤ len; omega) (g := (mkF m 36 #[.val (.ref a), .val (.ref b), .val (.int (Int32.ofNat o)), .val (.int (Int32.ofNat len)), .val .null, .unset] [.int (Int32.ofNat len), .int (Int32.ofNat o), .ref b])) rfl (by rw [hml]; rfl) c7 (argsL := [.ref b, .int (Int32.ofNat o), .int (Int32.ofNat len)]) (rest := []) rfl rfl (by show 2 * 0 + 0 ≤ _; decide) (hb hbytes d36) (⟨rfl, hA.mv X5.warmed.alike hh5, l1, l2, hp⟩)
  obtain ⟨e8, z8⟩ := E8
  obtain ⟨rfl, N, n1, n2, n3, n4, n5, n6⟩ := NewArr.mv _ T5 s _ _ hh5.symm (Vm.Alike.refl _) rfl e8
  rw [hh5] at z8
  have hB1 := hB.keep X8.warmed.alike (n6 _ _ hB.1)
  have hne : s.heap.size ≠ a := (Nat.ne_of_lt (Array.getElem?_eq_some_iff.mp hB.1).1).symm
  have c9 : Steps p.tables e below (s₁.setTop (entryFrame m #[.ref a, .ref b, .int (Int32.ofNat o), .int (Int32.ofNat len), .null] 6)) (T8.setTop (mkF m 39 #[.val (.ref a), .val (.ref b), .val (.int (Int32.ofNat o)), .val (.int (Int32.ofNat len)), .val .null, .unset] [.ref s.heap.size])) := g8
  have c10 : Steps p.tables e below (s₁.setTop (entryFrame m #[.ref a, .ref b, .int (Int32.ofNat o), .int (Int32.ofNat len), .null] 6)) (T8.setTop (mkF m 45 #[.val (.ref a), .val (.ref b), .val (.int (Int32.ofNat o)), .val (.int (Int32.ofNat len)), .val .null, .val (.ref s.heap.size)] [.int (Int32.ofNat N.slots.size), .ref s.heap.size, .ref a])) := by
    have hc : Steps p.tables e below (s₁.setTop (entryFrame m #[.ref a, .ref b, .int (Int32.ofNat o), .int (Int32.ofNat len), .null] 6)) (T8.setTop (mkF m 45 #[.val (.ref a), .val (.ref b), .val (.int (Int32.ofNat o)), .val (.int (Int32.ofNat len)), .val .null, .val (.ref s.heap.size)] [.int (Int32.ofNat len), .ref s.heap.size, .ref a])) := c9.trans (by
      refine XS.astore X8.here hexec rfl (hb hbytes d39) rfl rfl rfl ?_
      refine XS.aloadN X8.here hexec rfl (hb hbytes d41) rfl rfl ?_
      refine XS.aload X8.here hexec rfl (hb hbytes d42) rfl rfl ?_
      refine XS.iloadN X8.here hexec rfl (hb hbytes d44) rfl ?_
      exact Steps.refl _)
    rw [n4]; exact hc
  obtain ⟨v11, T11, X11, E11, g11⟩ := X8.callS hexec (CodL.law l s.heap.size N) hown (wks W (staticW "java/lang/String" 47 CodL.yN)) (wk W CodL.tab) (W := 1) (Nat.le_of_ble_eq_true rfl) (Nat.le_of_ble_eq_true rfl) (Nat.le_refl _) (by show 0 + len + 0 ≤ len; omega) (g := (mkF m 45 #[.val (.ref a), .val (.ref b), .val (.int (Int32.ofNat o)), .val (.int (Int32.ofNat len)), .val .null, .val (.ref s.heap.size)] [.int (Int32.ofNat N.slots.size), .ref s.heap.size, .ref a])) rfl (by rw [hml]; rfl) c10 (argsL := [.ref s.heap.size, .int (Int32.ofNat N.slots.size)]) (rest := [.ref a]) rfl rfl (by show 2 * 0 + (1 + 0) ≤ _; decide) (hb hbytes d45) (⟨rfl, n1⟩)
  obtain ⟨rfl, q11⟩ := E11
  have hB11 := hB1.mv (X8.warmed.alike.symm.trans X11.warmed.alike) q11
  have c12 : Steps p.tables e below (s₁.setTop (entryFrame m #[.ref a, .ref b, .int (Int32.ofNat o), .int (Int32.ofNat len), .null] 6)) (T11.setTop (mkF m 48 #[.val (.ref a), .val (.ref b), .val (.int (Int32.ofNat o)), .val (.int (Int32.ofNat len)), .val .null, .val (.ref s.heap.size)] [.int 0, .ref a])) := g11
  obtain ⟨T13, X13, p13, bl13, sl13, st13⟩ := X11.finit hexec hown (wk W (.fieldLink "java/lang/String" 15 "java/lang/String" "coder" "B")) (Or.inr ⟨_, (wk W (.laysFinal "java/lang/String" "java/lang/String" "coder" "B"))⟩) (Or.inl ⟨rfl, hnm⟩) f2 (Or.inl rfl) hB11 (t := .byte) (by decide +kernel) rfl (g := (mkF m 48 #[.val (.ref a), .val (.ref b), .val (.int (Int32.ofNat o)), .val (.int (Int32.ofNat len)), .val .null, .val (.ref s.heap.size)] [.int 0, .ref a])) rfl (rest := []) rfl (hb hbytes d48)
  have c14 : Steps p.tables e below (s₁.setTop (entryFrame m #[.ref a, .ref b, .int (Int32.ofNat o), .int (Int32.ofNat len), .null] 6)) (T13.setTop (mkF m 54 #[.val (.ref a), .val (.ref b), .val (.int (Int32.ofNat o)), .val (.int (Int32.ofNat len)), .val .null, .val (.ref s.heap.size)] [.ref s.heap.size, .ref a])) := (c12.trans (st13 _ (Steps.refl _))).trans (by
    refine XS.aloadN X13.here hexec rfl (hb hbytes d51) rfl rfl ?_
    refine XS.aload X13.here hexec rfl (hb hbytes d52) rfl rfl ?_
    exact Steps.refl _)
  obtain ⟨T15, X15, p15, bl15, sl15, st15⟩ := X13.finit hexec hown (wk W (.fieldLink "java/lang/String" 9 "java/lang/String" "value" "[B")) (Or.inr ⟨_, (wk W (.laysFinal "java/lang/String" "java/lang/String" "value" "[B"))⟩) (Or.inl ⟨rfl, hnm⟩) f1 (Or.inl rfl) bl13 (t := (.array .byte)) (by decide +kernel) rfl (g := (mkF m 54 #[.val (.ref a), .val (.ref b), .val (.int (Int32.ofNat o)), .val (.int (Int32.ofNat len)), .val .null, .val (.ref s.heap.size)] [.ref s.heap.size, .ref a])) rfl (rest := []) rfl (hb hbytes d54)
  have c16 : Steps p.tables e below (s₁.setTop (entryFrame m #[.ref a, .ref b, .int (Int32.ofNat o), .int (Int32.ofNat len), .null] 6)) (T15.setTop (mkF m 57 #[.val (.ref a), .val (.ref b), .val (.int (Int32.ofNat o)), .val (.int (Int32.ofNat len)), .val .null, .val (.ref s.heap.size)] [])) := c14.trans (st15 _ (Steps.refl _))
  have ap := apart (Or.inr ⟨_, (wk W (.laysFinal "java/lang/String" "java/lang/String" "value" "[B"))⟩) (Or.inr ⟨_, (wk W (.laysFinal "java/lang/String" "java/lang/String" "coder" "B"))⟩) f1 f2 (t₁ := .array .byte) (t₂ := .byte) (by decide +kernel) (by decide +kernel) (by decide)
  have al := X8.warmed.alike.symm.trans X15.warmed.alike
  have n7 : T11.heap[s.heap.size]? = some N := by rw [q11]; exact n1.1
  exact ⟨T15, none, _, _, _, X15, by simp, rfl, by omega, (fun _ => rfl), ⟨rfl, _, N, bl15, ((Same.refl D _).set _ (by simp)).set _ (by simp), sl15, (Cell.slots_setSlot_ne _ ap).trans sl13, n1.keep al (p15.other hne (p13.other hne n7)), n2, by rw [al.findClass]; exact n3, n4, n5, fun y c h1 h2 => p15.other h1 (p13.other h1 (by rw [q11]; exact n6 y c h2)), by rw [p15.2.2, p13.2.2, q11]; exact z8⟩, fun fs hl => c16.trans (X15.returnOut hexec hret (hb hbytes d57) hl)⟩
end New4
namespace New1
def yN : MethodName := ⟨"java/lang/String", "<init>", "([C)V"⟩
abbrev yB : ByteArray := jdk_42_method_3_code
theorem d0 : decode yB 0 = .ok (.aload_n 0, 1) := by decide +kernel
theorem d1 : decode yB 1 = .ok (.aload_n 1, 1) := by decide +kernel
theorem d2 : decode yB 2 = .ok (.iconst 0, 1) := by decide +kernel
theorem d3 : decode yB 3 = .ok (.aload_n 1, 1) := by decide +kernel
theorem d4 : decode yB 4 = .ok (.arraylength, 1) := by decide +kernel
theorem d5 : decode yB 5 = .ok (.aconst_null, 1) := by decide +kernel
theorem d6 : decode yB 6 = .ok (.invokespecial 27, 3) := by decide +kernel
theorem d9 : decode yB 9 = .ok (.return_, 1) := by decide +kernel
def site : List Cond := [New4.tab] ++ initW "java/lang/String" 27 New4.yN
def tab : Cond := tabOf yN yB 2 none site
def P (a : Addr) (D : Cell) (fV fC : Field) (b : Addr) (A : Cell) (z : Int32) (args : Array Value) (s : State) : Prop := args = #[.ref a, .ref b] ∧ Blank "java/lang/String" a D s ∧ Found "java/lang/String" "value" "[B" fV s ∧ Found "java/lang/String" "coder" "B" fC s ∧ Ch b A s ∧ StaticIs s "java/lang/String" "COMPACT_STRINGS" "Z" (.int z) ∧ ¬ z = 0 ∧ 0 < A.slots.size ∧ A.slots.size ≤ 536870912 ∧ ∀ i, i < A.slots.size → ¬ 255 < cv A i
def E (a : Addr) (D : Cell) (fV fC : Field) (A : Cell) (r : Option Value) (s u : State) : Prop := Got a D fV fC A 0 A.slots.size r s u
/-- new String(chars), not empty, no char above 255: a Latin-1 String of their low bytes -/
theorem law (l : Launch) (a : Addr) (D : Cell) (fV fC : Field) (b : Addr) (A : Cell) (z : Int32) : Law l yN 2 1 3 52 yB 2 none site (P a D fV fC b A z) (E a D fV fC A) [⟨a, fC.slot⟩, ⟨a, fV.slot⟩] 1 A.slots.size := by
  refine Law.of_walk (plainFor_of_name (by decide +kernel)) (by decide +kernel) (by decide +kernel) (by decide) (fun _ _ h => by rw [h.1]; rfl) (fun _ U U' hal hh h => ⟨h.1, h.2.1.mv hal hh, h.2.2.1.al hal, h.2.2.2.1.al hal, h.2.2.2.2.1.mv hal hh, h.2.2.2.2.2.1.there hal hh, h.2.2.2.2.2.2⟩) (fun r U U' V V' h1 hal h2 h => Got.mv r U U' V V' h1 hal h2 h) ?_
  intro p e s m args below meth c s₁ X0 hexec hbytes hml hret hlk hnm hown hh0 W hP
  obtain ⟨rfl, hB, f1, f2, hA, s1, hz, l0, l2, hp⟩ := hP
  have c1 : Steps p.tables e below (s₁.setTop (entryFrame m #[.ref a, .ref b] 2)) (s₁.setTop (mkF m 0 #[.val (.ref a), .val (.ref b)] [])) := entry rfl
  have c2 : Steps p.tables e below (s₁.setTop (entryFrame m #[.ref a, .ref b] 2)) (s₁.setTop (mkF m 6 #[.val (.ref a), .val (.ref b)] [.null, .int (Int32.ofNat A.slots.size), .int 0, .ref b, .ref a])) := c1.trans (by
    refine XS.aloadN X0.here hexec rfl (hb hbytes d0) rfl rfl ?_
    refine XS.aloadN X0.here hexec rfl (hb hbytes d1) rfl rfl ?_
    refine iconstV X0.here hexec rfl 0 (hb hbytes d2) (by decide) ?_
    refine XS.aloadN X0.here hexec rfl (hb hbytes d3) rfl rfl ?_
    refine X0.alen hexec (hA.1.mv X0.warmed.alike hh0) rfl rfl (hb hbytes d4) ?_
    refine XS.aconstNull X0.here hexec rfl (hb hbytes d5) ?_
    exact Steps.refl _)
  obtain ⟨v3, T3, X3, E3, g3⟩ := X0.callN hexec (New4.law l a D fV fC b A z 0 A.slots.size) rfl hown (wks W (initW "java/lang/String" 27 New4.yN)) (W New4.tab (by simp only [site, List.mem_cons, List.mem_append, true_or, or_true])) (W := 0) (Nat.le_of_ble_eq_true rfl) (Nat.le_of_ble_eq_true rfl) (Nat.le_refl _) (by show 0 + A.slots.size ≤ A.slots.size; omega) (g := (mkF m 6 #[.val (.ref a), .val (.ref b)] [.null, .int (Int32.ofNat A.slots.size), .int (Int32.ofNat 0), .ref b, .ref a])) rfl (by rw [hml]; rfl) c2 (argsL := [.ref b, .int (Int32.ofNat 0), .int (Int32.ofNat A.slots.size), .null]) (rest := []) rfl rfl (by show 2 * 0 + 0 ≤ _; decide) (hb hbytes d6) (⟨rfl, hB.mv X0.warmed.alike hh0, f1.al X0.warmed.alike, f2.al X0.warmed.alike, hA.mv X0.warmed.alike hh0, s1.there X0.warmed.alike hh0, hz, l0, by omega, l2, fun i hi => by rw [Nat.zero_add]; exact hp i hi⟩)
  have e0 := Got.mv _ s₁ s _ _ hh0.symm (Vm.Alike.refl _) rfl E3
  obtain rfl := e0.1
  have c4 : Steps p.tables e below (s₁.setTop (entryFrame m #[.ref a, .ref b] 2)) (T3.setTop (mkF m 9 #[.val (.ref a), .val (.ref b)] [])) := g3
  exact ⟨T3, none, _, _, _, X3, by simp, rfl, by omega, (fun _ => rfl), e0, fun fs hl => c4.trans (X3.returnOut hexec hret (hb hbytes d9) hl)⟩
theorem pays {l : Launch} {R : Room} {p : Program} {e : Env} {below : List Frame} {s : State} {sargs : Array Value} {len W : Nat} (a : Addr) (D : Cell) (fV fC : Field) (b : Addr) (A : Cell) (z : Int32) (htab : tab.before sargs s = true) (hfr : 4 ≤ R.frames) (hlo : W + 65 ≤ R.locals) :
    Back l R p e below s sargs yN len W (fun A₁ a₁ => A₁.cells + 1 ≤ R.cells ∧ A₁.slots + A.slots.size ≤ R.slots ∧ P a D fV fC b A z a₁ A₁.U) (fun A₁ _ v₁ B₁ => E a D fV fC A v₁ A₁.U B₁.U ∧ B₁.locs = A₁.locs ++ [⟨a, fC.slot⟩, ⟨a, fV.slot⟩] ∧ B₁.cells = A₁.cells + 1 ∧ B₁.slots = A₁.slots + A.slots.size) :=
  (law l a D fV fC b A z).pays htab hfr (by omega)
end New1
end StrChars
namespace StrChars.Road
open Jvm Sem ClassFile Op Lib Jvm.Stand Jvm.Free Jvm.Free.XT
open Jvm.Lib.Cold (StaticIs)
abbrev ST : String := "java/lang/String"
/-- every table word that New1's law asks, flat -/
abbrev words : List Jvm.Cond := [.code New1.yN New1.yB 2 none, .initialized ST, .methodLink ST 27 New4.yN, .instanceMethod New4.yN,
  .code New4.yN New4.yB 6 none, .fieldLink ST 38 ST "COMPACT_STRINGS" "Z", .laysFinal ST ST "value" "[B", .fieldLink ST 9 ST "value" "[B", .laysFinal ST ST "coder" "B", .fieldLink ST 15 ST "coder" "B",
  .methodLink ST 1 Lib.objectInit, .instanceMethod Lib.objectInit, .code Lib.objectInit ⟨#[0xb1]⟩ 1 none, .methodLink ST 177 Cmp3.yN, .static Cmp3.yN, .methodLink ST 47 CodL.yN, .static CodL.yN,
  .code Cmp3.yN Cmp3.yB 6 (some (.array .byte)), .initialized U16, .arrayClass .byte, .methodLink U16 115 Cmp5.yN, .static Cmp5.yN, .code Cmp5.yN Cmp5.yB 7 (some .int), .code CodL.yN CodL.yB 2 (some .byte)]
theorem tab_of {a : Array Value} {s : State} (h : ∀ w ∈ words, w.before a s = true) : New1.tab.before a s = true := by
  have h5 : Cmp5.tab.before a s = true := unparts (wk h (.code Cmp5.yN Cmp5.yB 7 (some .int))) (wks h (.initialized Cmp5.yN.cls :: Cmp5.site))
  have hc : CodL.tab.before a s = true := unparts (wk h (.code CodL.yN CodL.yB 2 (some .byte))) (wks h (.initialized CodL.yN.cls :: CodL.site))
  have q5 : ∀ w ∈ Cmp5.tab :: words, w.before a s = true := fun w hw => (List.mem_cons.mp hw).elim (fun e => e ▸ h5) (h w)
  have h3 : Cmp3.tab.before a s = true := unparts (wk q5 (.code Cmp3.yN Cmp3.yB 6 (some (.array .byte)))) (wks q5 (.initialized Cmp3.yN.cls :: Cmp3.site))
  have q3 : ∀ w ∈ Cmp3.tab :: CodL.tab :: words, w.before a s = true := fun w hw => (List.mem_cons.mp hw).elim (fun e => e ▸ h3) fun hw => (List.mem_cons.mp hw).elim (fun e => e ▸ hc) (h w)
  have h4 : New4.tab.before a s = true := unparts (wk q3 (.code New4.yN New4.yB 6 none)) (wks q3 (.initialized New4.yN.cls :: New4.site))
  have q4 : ∀ w ∈ New4.tab :: words, w.before a s = true := fun w hw => (List.mem_cons.mp hw).elim (fun e => e ▸ h4) (h w)
  exact unparts (wk q4 (.code New1.yN New1.yB 2 none)) (wks q4 (.initialized New1.yN.cls :: New1.site))
/-- the words ride from the start Z to the walk's own state -/
theorem moved {Z s : State} {a0 args : Array Value} (hZ : Z.Warmed39 s.vm) (hw : ∀ d ∈ words, d.before a0 Z = true) : ∀ d ∈ words, d.before args s = true := fun d hd => by
  have q := hw d hd
  have t : ∀ d ∈ words, d = .arrayClass .byte ∨ (d.onTables && d.keepsFace) = true := by decide +kernel
  rcases t d hd with rfl | t
  · exact RoadKit.mvA hZ q
  · exact RoadKit.mv hZ q t
/-- WHAT COMES BACK, over the tables of the start Z: h the heap at the call, h' behind it -/
def Q (Z : State) (x : Addr) (A : Cell) (h : Heap) (v : Option Value) (h' : Heap) (L : List Loc) : Prop := v = none ∧ (∀ y ∈ L, y.base = x) ∧ RoadKit.Keep h h' [x] ∧ h'.size = h.size + 1 ∧ RoadKit.Exa Z h' x ST ∧ RoadKit.Fld Z h' x ST "value" "[B" (.ref h.size) ∧ RoadKit.Fld Z h' x ST "coder" "B" (.int 0) ∧
  (∃ V : Cell, RoadKit.Arr Z h' h.size V .byte ∧ V.vm = .none ∧ Z.vm.findClass "[B" = some V.cls ∧ V.slots.size = A.slots.size ∧ ∀ j, j < A.slots.size → V.slots[j]? = some (.int (lo8 (cv A j)))) ∧
  ∀ (O n d : String) (w : Value), RoadKit.Fld Z h x O n d w → RoadKit.slotOf Z O n d ≠ RoadKit.slotOf Z ST "value" "[B" → RoadKit.slotOf Z O n d ≠ RoadKit.slotOf Z ST "coder" "B" → RoadKit.Fld Z h' x O n d w
/-- **new String(chars) AT A CALL, IN THE ROAD'S FORM**: for specialBack behind newO: x the fresh String, b the char[] with the cell A -/
theorem back {p : Program} {l : Launch} {e : Env} {R : Room} {s : State} {args : Array Value} {below : List Frame} {len W : Nat} {Z : State} {a0 : Array Value} {h : Heap} (hZ : Z.Warmed39 s.vm) (hw : ∀ d ∈ words, d.before a0 Z = true) {kI : Nat} (wi : (Jvm.Cond.instantiable ST kI).before a0 Z = true)
    {x b : Addr} {A : Cell} {z : Int32} {v0 c0 : Value} (E : RoadKit.Exa Z h x ST) (V : RoadKit.Fld Z h x ST "value" "[B" v0) (C : RoadKit.Fld Z h x ST "coder" "B" c0) (K : RoadKit.Arr Z h b A .char) (hty : Typed .char A) (S : RoadKit.Sta Z h ST "COMPACT_STRINGS" "Z" (.int z)) (hz : ¬ z = 0)
    (l0 : 0 < A.slots.size) (l2 : A.slots.size ≤ 536870912) (hp : ∀ i, i < A.slots.size → ¬ 255 < cv A i) (hfr : 4 ≤ R.frames) (hlo : W + 65 ≤ R.locals) :
    Back l R p e below s args New1.yN len W (fun P a => a = #[.ref x, .ref b] ∧ P.U.heap = h ∧ P.cells + 1 ≤ R.cells ∧ P.slots + A.slots.size ≤ R.slots)
      (fun P _ v B => ∃ L, Q Z x A h v B.U.heap L ∧ B.locs = P.locs ++ L ∧ B.cells = P.cells + 1 ∧ B.slots = P.slots + A.slots.size) := by
  intro m meth c P g ig mk a X hg hsize hdg hW hn hp'
  obtain ⟨rfl, rfl, r1, r2⟩ := hp'
  have al : Z.vm.Alike P.U.vm := hZ.alike.trans X.warmed.alike
  obtain ⟨D, cfV, kV, iV, fV, hD, gV, stV, knV, obV, asV, slV⟩ := id V
  obtain ⟨D', cfC, kC, iC, fC, hD', gC, stC, -, -, asC, slC⟩ := id C
  cases hD.symm.trans hD'
  obtain ⟨D2, kD, e1, e2, e3, e4, e5⟩ := id E
  cases hD.symm.trans e1
  obtain ⟨c2, k2, i1, i2, i3, -⟩ := Cond.instantiable_spec wi
  cases e2.symm.trans i1
  cases e3.symm.trans i2
  obtain ⟨kU, u1, u2⟩ := al.2.2 _ _ e3
  have hB : Blank ST x D P.U := ⟨hD, ⟨knV, fun q hq => by rw [hq] at obV; cases obV⟩, by rw [al.findClass]; exact e2, kU, u1, by rw [u2]; exact i3, by rw [u2]; exact e5 i3⟩
  have F1 : Found ST "value" "[B" fV P.U := ⟨SBG.found_only al ⟨cfV, kV, iV, gV⟩, stV⟩
  have F2 : Found ST "coder" "B" fC P.U := ⟨SBG.found_only al ⟨cfC, kC, iC, gC⟩, stC⟩
  have hA : Ch b A P.U := ⟨⟨K.1, State.isArrayOf_alike al K.2.1, K.2.2, by omega⟩, hty⟩
  have hS : StaticIs P.U ST "COMPACT_STRINGS" "Z" (.int z) := by
    obtain ⟨cfS, iS, kS, fS, st, cS, t1, t2, t3, t4, t5, t6, t7⟩ := S
    exact StaticIs.there (s := { Z with heap := P.U.heap }) ⟨cfS, iS, kS, fS, st, cS, t1, t2, t3, t4, t5, (fun q => by rw [q] at t6; cases t6), t7⟩ al rfl
  obtain ⟨v, B, X', ⟨⟨hv, E', V', q1, q2, q3, q4, q5, q6, q7, q8, q9, q10, q11⟩, hl, hc, hs⟩, st⟩ := New1.pays x D fV fC b A z (tab_of (moved hZ hw)) hfr hlo m meth c P g ig mk _ X hg hsize hdg hW hn ⟨r1, r2, rfl, hB, F1, F2, hA, hS, hz, l0, l2, hp⟩
  have al' : Z.vm.Alike B.U.vm := hZ.alike.trans X'.warmed.alike
  have hsz : E'.slots.size = D.slots.size := by
    obtain ⟨-, -, -, kB, w1, w2, w3⟩ := q1
    obtain ⟨kB', y1, y2⟩ := al'.2.2 _ _ e3
    rw [q2.2.1] at w1
    cases w1.symm.trans y1
    rw [w3, e5 i3, y2]
  refine ⟨v, B, X', ⟨_, ⟨hv, ?_, ⟨by omega, fun y cy hy hn' => q10 y cy (by simpa using hn') hy, fun y cy hy => ?_⟩, q11, ⟨E', _, q1.1, by rw [q2.2.1]; exact e2, by rw [q2.2.1]; exact e3, by rw [q2.1]; exact obV, fun _ => by rw [hsz]; exact e5 i3⟩,
    ⟨E', cfV, kV, iV, fV, q1.1, gV, stV, by rw [q2.1]; exact knV, by rw [q2.1]; exact obV, by rw [q2.2.1]; exact asV, q3⟩, ⟨E', cfC, kC, iC, fC, q1.1, gC, stC, by rw [q2.1]; exact knV, by rw [q2.1]; exact obV, by rw [q2.2.1]; exact asC, q4⟩,
    ⟨V', ⟨q5.1, State.isArrayOf_alike al'.symm q5.2.1, q5.2.2.1⟩, q6, by rw [← al'.findClass]; exact q7, q8, fun j hj => by have := q9 j hj; rwa [Nat.zero_add] at this⟩, fun O n d w F n1 n2 => ?_⟩, hl, hc, hs⟩, st⟩
  · intro y hy
    simp only [List.mem_cons, List.not_mem_nil, or_false] at hy
    rcases hy with rfl | rfl <;> rfl
  · by_cases q : y = x
    · subst q
      cases hD.symm.trans hy
      exact ⟨E', q1.1, q2.2.1, q2.1, hsz⟩
    · exact ⟨cy, q10 y cy q hy, rfl, rfl, rfl⟩
  · obtain ⟨D3, cf, k, i, f, g1, g2, g3, g4, g5, g6, g7⟩ := F
    cases hD.symm.trans g1
    simp only [RoadKit.slotOf, g2, gV, gC, Option.map_some, Option.getD_some] at n1 n2
    exact ⟨E', cf, k, i, f, q1.1, g2, g3, by rw [q2.1]; exact g4, by rw [q2.1]; exact g5, by rw [q2.2.1]; exact g6, by rw [q2.2.2 f.slot (by simp [n1, n2])]; exact g7⟩
end StrChars.Road
namespace StrChars.Road
open Jvm Sem ClassFile Op Lib Jvm.Stand Jvm.Free Jvm.Free.XT
/-- WHAT COMES BACK, the byte[] as a list of values -/
def QA (Z : State) (x : Addr) (zn : Int32) (cs : List Int32) (h : Heap) (v : Option Value) (h' : Heap) (L : List Loc) : Prop := v = none ∧ (∀ y ∈ L, y.base = x) ∧ RoadKit.Keep h h' [x] ∧ h'.size = h.size + 1 ∧ RoadKit.Exa Z h' x ST ∧ RoadKit.Fld Z h' x ST "value" "[B" (.ref h.size) ∧ RoadKit.Fld Z h' x ST "coder" "B" (.int 0) ∧
  (∃ kb, Z.vm.findClass "[B" = some kb ∧ RoadKit.Arv Z h' h.size kb .byte zn (cs.map fun c => .int (lo8 c)) (.int 0)) ∧
  ∀ (O n d : String) (w : Value), RoadKit.Fld Z h x O n d w → RoadKit.slotOf Z O n d ≠ RoadKit.slotOf Z ST "value" "[B" → RoadKit.slotOf Z O n d ≠ RoadKit.slotOf Z ST "coder" "B" → RoadKit.Fld Z h' x O n d w
/-- **new String(chars) AT A CALL, THE ARRAYS AS LISTS**: the char[] at b holds cs, not empty, no char above 255 -/
theorem backArv {p : Program} {l : Launch} {e : Env} {R : Room} {s : State} {args : Array Value} {below : List Frame} {len W : Nat} {Z : State} {a0 : Array Value} {h : Heap} (hZ : Z.Warmed39 s.vm) (hw : ∀ d ∈ words, d.before a0 Z = true) {kI : Nat} (wi : (Jvm.Cond.instantiable ST kI).before a0 Z = true)
    {x b : Addr} {k : ClassId} {zn z : Int32} {cs : List Int32} {dv v0 c0 : Value} (E : RoadKit.Exa Z h x ST) (V : RoadKit.Fld Z h x ST "value" "[B" v0) (C : RoadKit.Fld Z h x ST "coder" "B" c0) (K : RoadKit.Arv Z h b k .char zn (cs.map Value.int) dv) (S : RoadKit.Sta Z h ST "COMPACT_STRINGS" "Z" (.int z)) (hz : ¬ z = 0)
    (hlen : zn.toNatClampNeg = cs.length) (h0 : 0 < cs.length) (hbig : cs.length ≤ 536870912) (hall : ∀ c ∈ cs, ¬ 255 < c) (hfr : 4 ≤ R.frames) (hlo : W + 65 ≤ R.locals) :
    Back l R p e below s args New1.yN len W (fun P a => a = #[.ref x, .ref b] ∧ P.U.heap = h ∧ P.cells + 1 ≤ R.cells ∧ P.slots + cs.length ≤ R.slots)
      (fun P _ v B => ∃ L, QA Z x zn cs h v B.U.heap L ∧ B.locs = P.locs ++ L ∧ B.cells = P.cells + 1 ∧ B.slots = P.slots + cs.length) := by
  obtain ⟨A, K1, K2, K3, K4, K5, K6⟩ := K
  have e : A.slots.size = cs.length := K3.trans hlen
  have hat : ∀ (i : Nat) (hi : i < cs.length), A.slots[i]? = some (.int cs[i]) := fun i hi => by rw [K5 i (by omega)]; simp [List.getD_eq_getElem?_getD, hi]
  have hcv : ∀ (i : Nat) (hi : i < cs.length), cv A i = cs[i] := fun i hi => by unfold cv; rw [hat i hi]
  have hty : Typed .char A := fun i v hv => by
    have hi : i < A.slots.size := (Array.getElem?_eq_some_iff.mp hv).1
    have q := K5 i hi
    rw [hv] at q
    rw [Option.some.inj q]
    exact K6 i hi
  refine Back.mono (back hZ hw wi E V C K1 hty S hz (by omega) (by omega) (fun i hi => by rw [hcv i (by omega)]; exact hall _ (List.getElem_mem _)) hfr hlo) (fun P a hp => ⟨hp.1, hp.2.1, hp.2.2.1, by rw [e]; exact hp.2.2.2⟩) (fun P a v B hp hq => ?_)
  obtain ⟨L, ⟨q1, q2, q3, q4, q5, q6, q7, ⟨V', v1, v2, v3, v4, v5⟩, q9⟩, hl, hc, hs⟩ := hq
  refine ⟨L, ⟨q1, q2, q3, q4, q5, q6, q7, ⟨V'.cls, v3, V', v1, rfl, by rw [v4, e, hlen], K4, fun i hi => ?_, fun i hi => ?_⟩, q9⟩, hl, hc, by rw [hs, e]⟩
  · have hi' : i < cs.length := by omega
    rw [v5 i (by omega), hcv i hi']; simp [List.getD_eq_getElem?_getD, hi']
  · have hi' : i < cs.length := by omega
    simp only [List.getD_eq_getElem?_getD, List.getElem?_map, List.getElem?_eq_getElem hi', Option.map_some, Option.getD_some]
    exact fits_lo8 _
end StrChars.Road
namespace StrChars.Road
open Jvm Sem ClassFile Op Lib Jvm.Stand Jvm.Free Jvm.Free.XT
/-- WHAT COMES BACK, in the writer's own shape -/
def QV (Z : State) (x : Addr) (N : Int32) (bs : List Int32) (h : Heap) (n0 : Nat) (v : Option Value) (h' : Heap) (L : List Loc) : Prop := v = none ∧ RoadKit.Fr n0 L ∧ RoadKit.Keep h h' [x] ∧ RoadKit.Exa Z h' x ST ∧ RoadKit.Fld Z h' x ST "coder" "B" (.int 0) ∧
  ∃ (t : Addr) (kb : ClassId), n0 ≤ t ∧ h.size ≤ t ∧ ¬ t = x ∧ RoadKit.Fld Z h' x ST "value" "[B" (.ref t) ∧ RoadKit.Arv Z h' t kb .byte N (bs.map Value.int) (.int 0)
/-- **new String(chars) AT A CALL, FOR THE WRITER**: a char[] of n known ints, each 0 to 255 -/
theorem backV {p : Program} {l : Launch} {e : Env} {R : Room} {s : State} {args : Array Value} {below : List Frame} {len W : Nat} {Z : State} {a0 : Array Value} {h : Heap} (hZ : Z.Warmed39 s.vm) (hw : ∀ d ∈ words, d.before a0 Z = true) {kI : Nat} (wi : (Jvm.Cond.instantiable ST kI).before a0 Z = true)
    {x b : Addr} {kC : ClassId} {cs bs : List Int32} {d v0 c0 : Value} {z N : Int32} {n n0 : Nat} (hx0 : n0 ≤ x) (hh0 : n0 ≤ h.size) (E : RoadKit.Exa Z h x ST) (V : RoadKit.Fld Z h x ST "value" "[B" v0) (C : RoadKit.Fld Z h x ST "coder" "B" c0) (K : RoadKit.Arv Z h b kC .char N (cs.map Value.int) d) (S : RoadKit.Sta Z h ST "COMPACT_STRINGS" "Z" (.int z)) (hz : ¬ z = 0)
    (hn : cs.length = n) (hN : N = Int32.ofNat n) (l0 : 0 < n) (l2 : n ≤ 4000) (hp : ∀ c ∈ cs, ¬ c < 0 ∧ ¬ (255 : Int32) < c) (hb : bs = cs.map (fun c => c.toInt8.toInt32)) (hfr : 4 ≤ R.frames) (hlo : W + 65 ≤ R.locals) :
    Back l R p e below s args (⟨"java/lang/String", "<init>", "([C)V"⟩ : MethodName) len W (fun P a => a = #[.ref x, .ref b] ∧ P.U.heap = h ∧ P.cells + 1 ≤ R.cells ∧ P.slots + n ≤ R.slots)
      (fun P _ v B => ∃ L, QV Z x N bs h n0 v B.U.heap L ∧ B.locs = P.locs ++ L ∧ B.cells = P.cells + 1 ∧ B.slots = P.slots + n) := by
  subst hn hN hb
  refine Back.mono (backArv hZ hw wi E V C K S hz (n32 (by omega)) l0 (by omega) (fun c hc => (hp c hc).2) hfr hlo) (fun P a hp => hp) (fun P a v B hp hq => ?_)
  obtain ⟨L, ⟨q1, q2, q3, q4, q5, q6, q7, ⟨kb, v1, v2⟩, q9⟩, hl, hc, hs⟩ := hq
  exact ⟨L, ⟨q1, fun y hy => by rw [q2 y hy]; exact hx0, q3, q5, q7, h.size, kb, hh0, Nat.le_refl _, Nat.ne_of_gt E.lt, q6, by rw [List.map_map]; exact v2⟩, hl, hc, hs⟩
end StrChars.Road
end Jvm.Pilot.@@N@@
namespace Jvm.Pilot.@@N@@
open Jvm Jvm.ClassFile Sem Op Lib Jvm.Free Jvm.Stand Jvm.LawKit Jvm.RoadKit Bundle Jvm.Pilot.@@N@@.Jvm.D
theorem own_mvMN {Z s : State} {a0 args : Array Value} {own host : String} {index : Nat} {y : MethodName} (hZ : Z.Warmed39 s.vm) (w : (Jvm.Cond.methodLinkNest own index y host).before a0 Z = true) : (Jvm.Cond.methodLinkNest own index y host).before args s = true := (Cond.methodLinkNest_wide hZ w :)
theorem own_cat1 {v : Value} (h : v.isRef = true) : v.category = 1 := by cases v <;> simp [Value.isRef] at h <;> rfl
theorem own_fit {v : Value} {t : FieldType} (h : v.isRef = true) (ht : t.isReference = true) : fits t v = true := by
  cases t <;> first | (cases ht; done) | (cases v <;> simp [Value.isRef] at h <;> rfl)
theorem own_nar {v : Value} {t : FieldType} (h : v.isRef = true) (ht : t.isReference = true) : narrow t v = v := by
  cases t <;> first | (cases ht; done) | (cases v <;> simp [Value.isRef] at h <;> rfl)
theorem own_c255 (x : Int32) : ¬ nar .char ((x &&& (255 : Int32)).toUInt32.toUInt16.toUInt32.toInt32) < 0 ∧ ¬ (255 : Int32) < nar .char ((x &&& (255 : Int32)).toUInt32.toUInt16.toUInt32.toInt32) := by
  have e : nar .char ((x &&& (255 : Int32)).toUInt32.toUInt16.toUInt32.toInt32) = x &&& (255 : Int32) := by
    simp only [nar, UInt32.toUInt32_toInt32, UInt16.toUInt16_toUInt32]
    exact i2c_mask x
  have h := c_mask x (255 : Int32) 8 (by decide) (by decide)
  rw [e]
  rw [Int32.lt_iff_toInt_lt, Int32.lt_iff_toInt_lt]
  have e1 : (0 : Int32).toInt = 0 := by decide
  have e2 : (255 : Int32).toInt = 255 := by decide
  have e3 : ((2 ^ 8 : Nat) : Int) = 256 := by decide
  rw [e3] at h
  omega
theorem own_nb (x : Int32) : nar .byte (x.toInt8.toInt32) = x.toInt8.toInt32 := by
  show (x.toInt8.toInt32).toInt8.toInt32 = _
  rw [Int8.toInt8_toInt32]
theorem pn_0 : plainName "java/util/Map" = true := by first | (simp [plainName, overriddenIn]; done) | decide +kernel
theorem dMO_0 : decode jdk_72_method_26_code 0 = .ok (.getstatic 81, 3) := by decide +kernel
theorem dMO_3 : decode jdk_72_method_26_code 3 = .ok (.areturn, 1) := by decide +kernel
theorem ef_MO (m : MethodId) : entryFrame m #[] 0 = mkF m 0 #[] [] := by first | (simp [entryFrame, mkF, argsToLocals, Value.category, maxLocals]; done) | rfl
def QMO (Z : State) (g : Addr) (h0 : Heap) (n0 : Nat) (v : Option Value) (h : Heap) (L : List Loc) : Prop := v = some (.ref g) ∧ Fr n0 L ∧ h = h0
set_option maxRecDepth 65536 in
set_option maxHeartbeats 40000000 in
theorem rmMO (l : Launch) (Z : State) (a0 : Array Value) (hw : ∀ d ∈ tables_1, d.before a0 Z = true) (ws : List Jvm.Cond) (g : Addr) (h0 : Heap) (n0 : Nat) (Z0 : n0 ≤ h0.size) (Sg : Sta Z h0 "java/util/ImmutableCollections" "EMPTY_MAP" "Ljava/util/ImmutableCollections$MapN;" (.ref g)) :
    MetFree l (⟨"java/util/Map", "of", "()Ljava/util/Map;"⟩ : MethodName) (head1 (Jvm.Cond.code (⟨"java/util/Map", "of", "()Ljava/util/Map;"⟩ : MethodName) jdk_72_method_26_code 0 (some (.object "java/util/Map")) :: ws) ({ frames := 0, cells := 0, slots := 0, locals := 0 } : Room)) (fun as_ U => as_ = #[] ∧ Z.Warmed39 U.vm ∧ U.heap = h0) (fun _ _ _ _ _ => True) (fun _ U o U' => ∃ v L, o = .returned v ∧ QMO Z g h0 n0 v U'.heap L ∧ FrameEnd U o U' L ({ frames := 0, cells := 0, slots := 0, locals := 0 } : Room).cells ({ frames := 0, cells := 0, slots := 0, locals := 0 } : Room).slots) := by
  refine MetFree.of_bodySF (plainFor_of_name pn_0) hisR ?_
  intro p e s m args below meth c s₁ Bd hml0 hP hK
  obtain ⟨rfl, hZ, hh⟩ := hP
  have hx := Bd.exec
  have hby := Bd.bytes
  have hml : c.maxLocals = 0 := hml0
  have hown : s.vm.findClass "java/util/Map" = some m.cls := findClass_of_methodNamed Bd.named
  have hnm := (name_of_methodNamed Bd.named Bd.method).1
  have X0 : Stand p l e ({ frames := 0, cells := 0, slots := 0, locals := 0 } : Room) s m #[] below meth c s₁ [] 0 0 := Stand.of_body Bd
  have e0 : s₁.heap = h0 := by rw [← hh, Bd.state]; rfl
  have N0 := Fr.nil n0
  obtain ⟨E0, hE0⟩ : ∃ z, z = s₁.setTop (entryFrame m #[] 0) := ⟨_, rfl⟩
  rw [← hE0]
  have go0 : ∀ tgt, Steps p.tables e below (s₁.setTop (mkF m 0 #[] [])) tgt → Steps p.tables e below E0 tgt := fun tgt kont => by rw [hE0]; exact castTop (ef_MO m ) kont
  obtain ⟨T1, X1, e1, st1⟩ := getS2 X0 hx hZ hown (host := "") (Or.inl (hw _ (List.mem_of_getElem? (i := 49) rfl))) Via.refl e0 Sg (g := (mkF m 0 #[] [])) rfl (hb hby dMO_0)
  have go1 : ∀ tgt, Steps p.tables e below (T1.setTop (mkF m 3 #[] [(.ref g)])) tgt → Steps p.tables e below E0 tgt := fun tgt kont => go0 tgt (st1 tgt kont)
  obtain ⟨fs, hr, hrun, hended, hW, hsame⟩ := X1.leave (v := some (.ref g)) (fun h => by rw [Bd.returns] at h; cases h)
  refine ⟨_, _, go1 _ ?_, hrun, hended, _, _, rfl, ?_, ⟨_, rfl⟩, hW, hsame.mono (by decide) (by decide)⟩
  · show Steps p.tables e below (T1.setTop (mkF m 3 #[] [(.ref g)])) _
    exact retOut X1 hx Bd.returns rfl (Or.inr (Or.inr (Or.inr (Or.inr ⟨rfl, rfl, rfl⟩)))) (hb hby dMO_3) hr
  · show QMO Z g h0 n0 _ T1.heap _
    rw [e1]
    exact ⟨rfl, N0, rfl⟩
theorem pn_1 : plainName "com/example/harvestgate/harvestgate/http/Response" = true := by first | (simp [plainName, overriddenIn]; done) | decide +kernel
theorem dRI_0 : decode prog_63_method_1_code 0 = .ok (.aload_n 0, 1) := by decide +kernel
theorem dRI_1 : decode prog_63_method_1_code 1 = .ok (.invokespecial 1, 3) := by decide +kernel
theorem dRI_4 : decode prog_63_method_1_code 4 = .ok (.aload_n 0, 1) := by decide +kernel
theorem dRI_5 : decode prog_63_method_1_code 5 = .ok (.iload_n 1, 1) := by decide +kernel
theorem dRI_6 : decode prog_63_method_1_code 6 = .ok (.putfield 7, 3) := by decide +kernel
theorem dRI_9 : decode prog_63_method_1_code 9 = .ok (.aload_n 0, 1) := by decide +kernel
theorem dRI_10 : decode prog_63_method_1_code 10 = .ok (.aload_n 2, 1) := by decide +kernel
theorem dRI_11 : decode prog_63_method_1_code 11 = .ok (.putfield 13, 3) := by decide +kernel
theorem dRI_14 : decode prog_63_method_1_code 14 = .ok (.aload_n 0, 1) := by decide +kernel
theorem dRI_15 : decode prog_63_method_1_code 15 = .ok (.aload_n 3, 1) := by decide +kernel
theorem dRI_16 : decode prog_63_method_1_code 16 = .ok (.putfield 17, 3) := by decide +kernel
theorem dRI_19 : decode prog_63_method_1_code 19 = .ok (.aload_n 0, 1) := by decide +kernel
theorem dRI_20 : decode prog_63_method_1_code 20 = .ok (.aload 4, 2) := by decide +kernel
theorem dRI_22 : decode prog_63_method_1_code 22 = .ok (.putfield 21, 3) := by decide +kernel
theorem dRI_25 : decode prog_63_method_1_code 25 = .ok (.return_, 1) := by decide +kernel
theorem ef_RI (m : MethodId) (x0 : Addr) (x1 : Int32) (x2 : Addr) (x3 : Addr) (x4 : Addr) : entryFrame m #[(.ref x0), (.int x1), (.ref x2), (.ref x3), (.ref x4)] 5 = mkF m 0 #[.val (.ref x0), .val (.int x1), .val (.ref x2), .val (.ref x3), .val (.ref x4)] [] := by first | (simp [entryFrame, mkF, argsToLocals, Value.category, maxLocals]; done) | rfl
def QRI (Z : State) (a : Addr) (i : Int32) (sa : Addr) (ba : Addr) (gm : Addr) (h0 : Heap) (n0 : Nat) (v : Option Value) (h : Heap) (L : List Loc) : Prop := v = none ∧ Fr n0 L ∧ Keep h0 h [a] ∧ Exa Z h a "com/example/harvestgate/harvestgate/http/Response" ∧ Fld Z h a "com/example/harvestgate/harvestgate/http/Response" "status" "I" (.int i) ∧ Fld Z h a "com/example/harvestgate/harvestgate/http/Response" "contentType" "Ljava/lang/String;" (.ref sa) ∧ Fld Z h a "com/example/harvestgate/harvestgate/http/Response" "body" "[B" (.ref ba)
set_option maxRecDepth 65536 in
set_option maxHeartbeats 40000000 in
theorem rmRI (l : Launch) (Z : State) (a0 : Array Value) (hw : ∀ d ∈ tables_1, d.before a0 Z = true) (ws : List Jvm.Cond) (a : Addr) (i : Int32) (sa : Addr) (ba : Addr) (gm : Addr) (h0 : Heap) (n0 : Nat) (Z0 : n0 ≤ h0.size) (Ea : Exa Z h0 a "com/example/harvestgate/harvestgate/http/Response") (ga : n0 ≤ a) (Fstatus : Fld Z h0 a "com/example/harvestgate/harvestgate/http/Response" "status" "I" (.int (0 : Int32))) (FcontentType : Fld Z h0 a "com/example/harvestgate/harvestgate/http/Response" "contentType" "Ljava/lang/String;" .null) (Fbody : Fld Z h0 a "com/example/harvestgate/harvestgate/http/Response" "body" "[B" .null) (Fheaders : Fld Z h0 a "com/example/harvestgate/harvestgate/http/Response" "headers" "Ljava/util/Map;" .null) :
    MetFree l (⟨"com/example/harvestgate/harvestgate/http/Response", "<init>", "(ILjava/lang/String;[BLjava/util/Map;)V"⟩ : MethodName) (head1 (Jvm.Cond.code (⟨"com/example/harvestgate/harvestgate/http/Response", "<init>", "(ILjava/lang/String;[BLjava/util/Map;)V"⟩ : MethodName) prog_63_method_1_code 5 none :: ws) ({ frames := 1, cells := 0, slots := 0, locals := 12 } : Room)) (fun as_ U => as_ = #[(.ref a), (.int i), (.ref sa), (.ref ba), (.ref gm)] ∧ Z.Warmed39 U.vm ∧ U.heap = h0) (fun _ _ _ _ _ => True) (fun _ U o U' => ∃ v L, o = .returned v ∧ QRI Z a i sa ba gm h0 n0 v U'.heap L ∧ FrameEnd U o U' L ({ frames := 1, cells := 0, slots := 0, locals := 12 } : Room).cells ({ frames := 1, cells := 0, slots := 0, locals := 12 } : Room).slots) := by
  refine MetFree.of_bodySF (plainFor_of_name pn_1) hisR ?_
  intro p e s m args below meth c s₁ Bd hml0 hP hK
  obtain ⟨rfl, hZ, hh⟩ := hP
  have hx := Bd.exec
  have hby := Bd.bytes
  have hml : c.maxLocals = 5 := hml0
  have hown : s.vm.findClass "com/example/harvestgate/harvestgate/http/Response" = some m.cls := findClass_of_methodNamed Bd.named
  have hnm := (name_of_methodNamed Bd.named Bd.method).1
  have X0 : Stand p l e ({ frames := 1, cells := 0, slots := 0, locals := 12 } : Room) s m #[(.ref a), (.int i), (.ref sa), (.ref ba), (.ref gm)] below meth c s₁ [] 0 0 := Stand.of_body Bd
  have e0 : s₁.heap = h0 := by rw [← hh, Bd.state]; rfl
  have N0 := Fr.nil n0
  obtain ⟨E0, hE0⟩ : ∃ z, z = s₁.setTop (entryFrame m #[(.ref a), (.int i), (.ref sa), (.ref ba), (.ref gm)] 5) := ⟨_, rfl⟩
  rw [← hE0]
  have go0 : ∀ tgt, Steps p.tables e below (s₁.setTop (mkF m 0 #[.val (.ref a), .val (.int i), .val (.ref sa), .val (.ref ba), .val (.ref gm)] [])) tgt → Steps p.tables e below E0 tgt := fun tgt kont => by rw [hE0]; exact castTop (ef_RI m a i sa ba gm) kont
  have go1 : ∀ tgt, Steps p.tables e below (s₁.setTop (mkF m 1 #[.val (.ref a), .val (.int i), .val (.ref sa), .val (.ref ba), .val (.ref gm)] [(.ref a)])) tgt → Steps p.tables e below E0 tgt := fun tgt kont => go0 tgt (by
    show Steps p.tables e below (s₁.setTop (mkF m 0 #[.val (.ref a), .val (.int i), .val (.ref sa), .val (.ref ba), .val (.ref gm)] [])) tgt
    refine XS.aloadN X0.here hx rfl (hb hby dRI_0) rfl rfl ?_
    exact kont)
  obtain ⟨T2, X2, e2, st2⟩ := initO X0 hx hZ hown (hw _ (List.mem_of_getElem? (i := 54) rfl)) (hw _ (List.mem_of_getElem? (i := 13) rfl)) (hw _ (List.mem_of_getElem? (i := 14) rfl)) e0 (g := (mkF m 1 #[.val (.ref a), .val (.int i), .val (.ref sa), .val (.ref ba), .val (.ref gm)] [(.ref a)])) rfl (by rw [hml]; rfl) rfl (hb hby dRI_1) (by decide) (W := 0) (by show 2 * 0 + _ ≤ _; exact Nat.le_of_eq rfl) (by decide)
  have go2 : ∀ tgt, Steps p.tables e below (T2.setTop (mkF m 4 #[.val (.ref a), .val (.int i), .val (.ref sa), .val (.ref ba), .val (.ref gm)] [])) tgt → Steps p.tables e below E0 tgt := fun tgt kont => go1 tgt (st2 tgt kont)
  have go3 : ∀ tgt, Steps p.tables e below (T2.setTop (mkF m 6 #[.val (.ref a), .val (.int i), .val (.ref sa), .val (.ref ba), .val (.ref gm)] [(.int i), (.ref a)])) tgt → Steps p.tables e below E0 tgt := fun tgt kont => go2 tgt (by
    show Steps p.tables e below (T2.setTop (mkF m 4 #[.val (.ref a), .val (.int i), .val (.ref sa), .val (.ref ba), .val (.ref gm)] [])) tgt
    refine XS.aloadN X2.here hx rfl (hb hby dRI_4) rfl rfl ?_
    show Steps p.tables e below (T2.setTop (mkF m 5 #[.val (.ref a), .val (.int i), .val (.ref sa), .val (.ref ba), .val (.ref gm)] [(.ref a)])) tgt
    refine XS.iloadN X2.here hx rfl (hb hby dRI_5) rfl ?_
    exact kont)
  obtain ⟨T4, h4, X4, e4, W4, st4⟩ := putF X2 hx hZ hown (host := "") (Or.inl (hw _ (List.mem_of_getElem? (i := 55) rfl))) Via.refl e2 Fstatus Ea (Or.inr ⟨(hw _ (List.mem_of_getElem? (i := 56) rfl)), rfl, hnm⟩) (hw _ (List.mem_of_getElem? (i := 35) rfl)) (ty := .int) (by decide) rfl rfl (g := (mkF m 6 #[.val (.ref a), .val (.int i), .val (.ref sa), .val (.ref ba), .val (.ref gm)] [(.int i), (.ref a)])) rfl rfl (hb hby dRI_6)
  have z5 : n0 ≤ h4.size := Nat.le_trans Z0 (Keep.of_wr W4).1
  have K6 : Keep h0 h4 [a] := (Keep.refl h0 [a]).wr W4 (Or.inl (List.mem_of_getElem? (i := 0) rfl))
  have N4 := Fr.snoc X4 N0 ga
  have f7 : Fld Z h4 a "com/example/harvestgate/harvestgate/http/Response" "status" "I" (.int i) := (Fstatus.same W4)
  have go4 : ∀ tgt, Steps p.tables e below (T4.setTop (mkF m 9 #[.val (.ref a), .val (.int i), .val (.ref sa), .val (.ref ba), .val (.ref gm)] [])) tgt → Steps p.tables e below E0 tgt := fun tgt kont => go3 tgt (st4 tgt kont)
  have go8 : ∀ tgt, Steps p.tables e below (T4.setTop (mkF m 11 #[.val (.ref a), .val (.int i), .val (.ref sa), .val (.ref ba), .val (.ref gm)] [(.ref sa), (.ref a)])) tgt → Steps p.tables e below E0 tgt := fun tgt kont => go4 tgt (by
    show Steps p.tables e below (T4.setTop (mkF m 9 #[.val (.ref a), .val (.int i), .val (.ref sa), .val (.ref ba), .val (.ref gm)] [])) tgt
    refine XS.aloadN X4.here hx rfl (hb hby dRI_9) rfl rfl ?_
    show Steps p.tables e below (T4.setTop (mkF m 10 #[.val (.ref a), .val (.int i), .val (.ref sa), .val (.ref ba), .val (.ref gm)] [(.ref a)])) tgt
    refine XS.aloadN X4.here hx rfl (hb hby dRI_10) rfl rfl ?_
    exact kont)
  have f9 : Fld Z h4 a "com/example/harvestgate/harvestgate/http/Response" "contentType" "Ljava/lang/String;" .null := (FcontentType.other W4 (Or.inr (slot_ne (Or.inr (hw _ (List.mem_of_getElem? (i := 58) rfl))) (Or.inr (hw _ (List.mem_of_getElem? (i := 56) rfl))) (by decide) (t := (.object "java/lang/String")) (t' := .int) (by decide) (by decide))))
  have f10 : Exa Z h4 a "com/example/harvestgate/harvestgate/http/Response" := (Ea.wr W4)
  obtain ⟨T11, h11, X11, e11, W11, st11⟩ := putF X4 hx hZ hown (host := "") (Or.inl (hw _ (List.mem_of_getElem? (i := 57) rfl))) Via.refl e4 f9 f10 (Or.inr ⟨(hw _ (List.mem_of_getElem? (i := 58) rfl)), rfl, hnm⟩) (hw _ (List.mem_of_getElem? (i := 35) rfl)) (ty := (.object "java/lang/String")) (by decide) rfl rfl (g := (mkF m 11 #[.val (.ref a), .val (.int i), .val (.ref sa), .val (.ref ba), .val (.ref gm)] [(.ref sa), (.ref a)])) rfl rfl (hb hby dRI_11)
  have z12 : n0 ≤ h11.size := Nat.le_trans z5 (Keep.of_wr W11).1
  have K13 : Keep h0 h11 [a] := K6.wr W11 (Or.inl (List.mem_of_getElem? (i := 0) rfl))
  have N11 := Fr.snoc X11 N4 ga
  have f14 : Fld Z h11 a "com/example/harvestgate/harvestgate/http/Response" "contentType" "Ljava/lang/String;" (.ref sa) := (f9.same W11)
  have go11 : ∀ tgt, Steps p.tables e below (T11.setTop (mkF m 14 #[.val (.ref a), .val (.int i), .val (.ref sa), .val (.ref ba), .val (.ref gm)] [])) tgt → Steps p.tables e below E0 tgt := fun tgt kont => go8 tgt (st11 tgt kont)
  have go15 : ∀ tgt, Steps p.tables e below (T11.setTop (mkF m 16 #[.val (.ref a), .val (.int i), .val (.ref sa), .val (.ref ba), .val (.ref gm)] [(.ref ba), (.ref a)])) tgt → Steps p.tables e below E0 tgt := fun tgt kont => go11 tgt (by
    show Steps p.tables e below (T11.setTop (mkF m 14 #[.val (.ref a), .val (.int i), .val (.ref sa), .val (.ref ba), .val (.ref gm)] [])) tgt
    refine XS.aloadN X11.here hx rfl (hb hby dRI_14) rfl rfl ?_
    show Steps p.tables e below (T11.setTop (mkF m 15 #[.val (.ref a), .val (.int i), .val (.ref sa), .val (.ref ba), .val (.ref gm)] [(.ref a)])) tgt
    refine XS.aloadN X11.here hx rfl (hb hby dRI_15) rfl rfl ?_
    exact kont)
  have f16 : Fld Z h11 a "com/example/harvestgate/harvestgate/http/Response" "body" "[B" .null := ((Fbody.other W4 (Or.inr (slot_ne (Or.inr (hw _ (List.mem_of_getElem? (i := 60) rfl))) (Or.inr (hw _ (List.mem_of_getElem? (i := 56) rfl))) (by decide) (t := (.array .byte)) (t' := .int) (by decide) (by decide)))).other W11 (Or.inr (slot_ne (Or.inr (hw _ (List.mem_of_getElem? (i := 60) rfl))) (Or.inr (hw _ (List.mem_of_getElem? (i := 58) rfl))) (by decide) (t := (.array .byte)) (t' := (.object "java/lang/String")) (by decide) (by decide))))
  have f17 : Exa Z h11 a "com/example/harvestgate/harvestgate/http/Response" := (f10.wr W11)
  obtain ⟨T18, h18, X18, e18, W18, st18⟩ := putF X11 hx hZ hown (host := "") (Or.inl (hw _ (List.mem_of_getElem? (i := 59) rfl))) Via.refl e11 f16 f17 (Or.inr ⟨(hw _ (List.mem_of_getElem? (i := 60) rfl)), rfl, hnm⟩) (hw _ (List.mem_of_getElem? (i := 35) rfl)) (ty := (.array .byte)) (by decide) rfl rfl (g := (mkF m 16 #[.val (.ref a), .val (.int i), .val (.ref sa), .val (.ref ba), .val (.ref gm)] [(.ref ba), (.ref a)])) rfl rfl (hb hby dRI_16)
  have z19 : n0 ≤ h18.size := Nat.le_trans z12 (Keep.of_wr W18).1
  have K20 : Keep h0 h18 [a] := K13.wr W18 (Or.inl (List.mem_of_getElem? (i := 0) rfl))
  have N18 := Fr.snoc X18 N11 ga
  have f21 : Fld Z h18 a "com/example/harvestgate/harvestgate/http/Response" "body" "[B" (.ref ba) := (f16.same W18)
  have go18 : ∀ tgt, Steps p.tables e below (T18.setTop (mkF m 19 #[.val (.ref a), .val (.int i), .val (.ref sa), .val (.ref ba), .val (.ref gm)] [])) tgt → Steps p.tables e below E0 tgt := fun tgt kont => go15 tgt (st18 tgt kont)
  have go22 : ∀ tgt, Steps p.tables e below (T18.setTop (mkF m 22 #[.val (.ref a), .val (.int i), .val (.ref sa), .val (.ref ba), .val (.ref gm)] [(.ref gm), (.ref a)])) tgt → Steps p.tables e below E0 tgt := fun tgt kont => go18 tgt (by
    show Steps p.tables e below (T18.setTop (mkF m 19 #[.val (.ref a), .val (.int i), .val (.ref sa), .val (.ref ba), .val (.ref gm)] [])) tgt
    refine XS.aloadN X18.here hx rfl (hb hby dRI_19) rfl rfl ?_
    show Steps p.tables e below (T18.setTop (mkF m 20 #[.val (.ref a), .val (.int i), .val (.ref sa), .val (.ref ba), .val (.ref gm)] [(.ref a)])) tgt
    refine XS.aload X18.here hx rfl (hb hby dRI_20) rfl rfl ?_
    exact kont)
  have f23 : Fld Z h18 a "com/example/harvestgate/harvestgate/http/Response" "headers" "Ljava/util/Map;" .null := (((Fheaders.other W4 (Or.inr (slot_ne (Or.inr (hw _ (List.mem_of_getElem? (i := 62) rfl))) (Or.inr (hw _ (List.mem_of_getElem? (i := 56) rfl))) (by decide) (t := (.object "java/util/Map")) (t' := .int) (by decide) (by decide)))).other W11 (Or.inr (slot_ne (Or.inr (hw _ (List.mem_of_getElem? (i := 62) rfl))) (Or.inr (hw _ (List.mem_of_getElem? (i := 58) rfl))) (by decide) (t := (.object "java/util/Map")) (t' := (.object "java/lang/String")) (by decide) (by decide)))).other W18 (Or.inr (slot_ne (Or.inr (hw _ (List.mem_of_getElem? (i := 62) rfl))) (Or.inr (hw _ (List.mem_of_getElem? (i := 60) rfl))) (by decide) (t := (.object "java/util/Map")) (t' := (.array .byte)) (by decide) (by decide))))
  have f24 : Exa Z h18 a "com/example/harvestgate/harvestgate/http/Response" := (f17.wr W18)
  obtain ⟨T25, h25, X25, e25, W25, st25⟩ := putF X18 hx hZ hown (host := "") (Or.inl (hw _ (List.mem_of_getElem? (i := 61) rfl))) Via.refl e18 f23 f24 (Or.inr ⟨(hw _ (List.mem_of_getElem? (i := 62) rfl)), rfl, hnm⟩) (hw _ (List.mem_of_getElem? (i := 35) rfl)) (ty := (.object "java/util/Map")) (by decide) rfl rfl (g := (mkF m 22 #[.val (.ref a), .val (.int i), .val (.ref sa), .val (.ref ba), .val (.ref gm)] [(.ref gm), (.ref a)])) rfl rfl (hb hby dRI_22)
  have z26 : n0 ≤ h25.size := Nat.le_trans z19 (Keep.of_wr W25).1
  have K27 : Keep h0 h25 [a] := K20.wr W25 (Or.inl (List.mem_of_getElem? (i := 0) rfl))
  have N25 := Fr.snoc X25 N18 ga
  have f28 : Fld Z h25 a "com/example/harvestgate/harvestgate/http/Response" "headers" "Ljava/util/Map;" (.ref gm) := (f23.same W25)
  have go25 : ∀ tgt, Steps p.tables e below (T25.setTop (mkF m 25 #[.val (.ref a), .val (.int i), .val (.ref sa), .val (.ref ba), .val (.ref gm)] [])) tgt → Steps p.tables e below E0 tgt := fun tgt kont => go22 tgt (st25 tgt kont)
  have f29 : Exa Z h25 a "com/example/harvestgate/harvestgate/http/Response" := (f24.wr W25)
  have f30 : Fld Z h25 a "com/example/harvestgate/harvestgate/http/Response" "status" "I" (.int i) := (((f7.other W11 (Or.inr (slot_ne (Or.inr (hw _ (List.mem_of_getElem? (i := 56) rfl))) (Or.inr (hw _ (List.mem_of_getElem? (i := 58) rfl))) (by decide) (t := .int) (t' := (.object "java/lang/String")) (by decide) (by decide)))).other W18 (Or.inr (slot_ne (Or.inr (hw _ (List.mem_of_getElem? (i := 56) rfl))) (Or.inr (hw _ (List.mem_of_getElem? (i := 60) rfl))) (by decide) (t := .int) (t' := (.array .byte)) (by decide) (by decide)))).other W25 (Or.inr (slot_ne (Or.inr (hw _ (List.mem_of_getElem? (i := 56) rfl))) (Or.inr (hw _ (List.mem_of_getElem? (i := 62) rfl))) (by decide) (t := .int) (t' := (.object "java/util/Map")) (by decide) (by decide))))
  have f31 : Fld Z h25 a "com/example/harvestgate/harvestgate/http/Response" "contentType" "Ljava/lang/String;" (.ref sa) := ((f14.other W18 (Or.inr (slot_ne (Or.inr (hw _ (List.mem_of_getElem? (i := 58) rfl))) (Or.inr (hw _ (List.mem_of_getElem? (i := 60) rfl))) (by decide) (t := (.object "java/lang/String")) (t' := (.array .byte)) (by decide) (by decide)))).other W25 (Or.inr (slot_ne (Or.inr (hw _ (List.mem_of_getElem? (i := 58) rfl))) (Or.inr (hw _ (List.mem_of_getElem? (i := 62) rfl))) (by decide) (t := (.object "java/lang/String")) (t' := (.object "java/util/Map")) (by decide) (by decide))))
  have f32 : Fld Z h25 a "com/example/harvestgate/harvestgate/http/Response" "body" "[B" (.ref ba) := (f21.other W25 (Or.inr (slot_ne (Or.inr (hw _ (List.mem_of_getElem? (i := 60) rfl))) (Or.inr (hw _ (List.mem_of_getElem? (i := 62) rfl))) (by decide) (t := (.array .byte)) (t' := (.object "java/util/Map")) (by decide) (by decide))))
  obtain ⟨fs, hr, hrun, hended, hW, hsame⟩ := X25.leave (v := none) (fun _ => rfl)
  refine ⟨_, _, go25 _ ?_, hrun, hended, _, _, rfl, ?_, ⟨_, rfl⟩, hW, hsame.mono (by decide) (by decide)⟩
  · show Steps p.tables e below (T25.setTop (mkF m 25 #[.val (.ref a), .val (.int i), .val (.ref sa), .val (.ref ba), .val (.ref gm)] [])) _
    exact X25.returnOut hx Bd.returns (hb hby dRI_25) hr
  · show QRI Z a i sa ba gm h0 n0 _ T25.heap _
    rw [e25]
    exact ⟨rfl, N25, K27, f29, f30, f31, f32⟩
theorem pd_2 : parseMethodDescriptor "()Ljava/util/Map;" = some ⟨[], some (.object "java/util/Map")⟩ := by decide +kernel
theorem pd_3 : parseMethodDescriptor "(ILjava/lang/String;[BLjava/util/Map;)V" = some ⟨[.int, (.object "java/lang/String"), (.array .byte), (.object "java/util/Map")], none⟩ := by decide +kernel
theorem dOF_0 : decode prog_63_method_2_code 0 = .ok (.new 8, 3) := by decide +kernel
theorem dOF_3 : decode prog_63_method_2_code 3 = .ok (.dup, 1) := by decide +kernel
theorem dOF_4 : decode prog_63_method_2_code 4 = .ok (.iload_n 0, 1) := by decide +kernel
theorem dOF_5 : decode prog_63_method_2_code 5 = .ok (.aload_n 1, 1) := by decide +kernel
theorem dOF_6 : decode prog_63_method_2_code 6 = .ok (.aload_n 2, 1) := by decide +kernel
theorem dOF_7 : decode prog_63_method_2_code 7 = .ok (.invokevirtual 25, 3) := by decide +kernel
theorem dOF_10 : decode prog_63_method_2_code 10 = .ok (.checkcast 26, 3) := by decide +kernel
theorem dOF_13 : decode prog_63_method_2_code 13 = .ok (.invokestatic 30, 3) := by decide +kernel
theorem dOF_16 : decode prog_63_method_2_code 16 = .ok (.invokespecial 36, 3) := by decide +kernel
theorem dOF_19 : decode prog_63_method_2_code 19 = .ok (.areturn, 1) := by decide +kernel
theorem ef_OF (m : MethodId) (x0 : Int32) (x1 : Addr) (x2 : Addr) : entryFrame m #[(.int x0), (.ref x1), (.ref x2)] 3 = mkF m 0 #[.val (.int x0), .val (.ref x1), .val (.ref x2)] [] := by first | (simp [entryFrame, mkF, argsToLocals, Value.category, maxLocals]; done) | rfl
def QOF (Z : State) (i : Int32) (sa : Addr) (ba : Addr) (kb : ClassId) (b0 : Int32) (b1 : Int32) (b2 : Int32) (gm : Addr) (h0 : Heap) (n0 : Nat) (v : Option Value) (h : Heap) (L : List Loc) : Prop := v = some (.ref h0.size) ∧ Fr n0 L ∧ Keep h0 h [] ∧ Exa Z h h0.size "com/example/harvestgate/harvestgate/http/Response" ∧ Fld Z h h0.size "com/example/harvestgate/harvestgate/http/Response" "status" "I" (.int i) ∧ Fld Z h h0.size "com/example/harvestgate/harvestgate/http/Response" "contentType" "Ljava/lang/String;" (.ref sa) ∧ ∃ c : Addr, h0.size < c ∧ n0 ≤ c ∧ Fld Z h h0.size "com/example/harvestgate/harvestgate/http/Response" "body" "[B" (.ref c) ∧ Arv Z h c kb .byte (3 : Int32) [(.int b0), (.int b1), (.int b2)] (.int (0 : Int32))
set_option maxRecDepth 65536 in
set_option maxHeartbeats 40000000 in
theorem rmOF (l : Launch) (Z : State) (a0 : Array Value) (hw : ∀ d ∈ tables_1, d.before a0 Z = true) (ws : List Jvm.Cond) (i : Int32) (sa : Addr) (ba : Addr) (kb : ClassId) (b0 : Int32) (b1 : Int32) (b2 : Int32) (gm : Addr) (h0 : Heap) (n0 : Nat) (Z0 : n0 ≤ h0.size) (Eb : Exa Z h0 ba "[B") (Ab : Arv Z h0 ba kb .byte (3 : Int32) [(.int b0), (.int b1), (.int b2)] (.int (0 : Int32))) (Sg : Sta Z h0 "java/util/ImmutableCollections" "EMPTY_MAP" "Ljava/util/ImmutableCollections$MapN;" (.ref gm)) (O0 : Old Z n0 h0) (Sg0 : Sta Z Z.heap "java/util/ImmutableCollections" "EMPTY_MAP" "Ljava/util/ImmutableCollections$MapN;" (.ref gm)) :
    MetFree l (⟨"com/example/harvestgate/harvestgate/http/Response", "of", "(ILjava/lang/String;[B)Lcom/example/harvestgate/harvestgate/http/Response;"⟩ : MethodName) (head1 (Jvm.Cond.code (⟨"com/example/harvestgate/harvestgate/http/Response", "of", "(ILjava/lang/String;[B)Lcom/example/harvestgate/harvestgate/http/Response;"⟩ : MethodName) prog_63_method_2_code 3 (some (.object "com/example/harvestgate/harvestgate/http/Response")) :: ws) ({ frames := 2, cells := 2, slots := 7, locals := 29 } : Room)) (fun as_ U => as_ = #[(.int i), (.ref sa), (.ref ba)] ∧ Z.Warmed39 U.vm ∧ U.heap = h0) (fun _ _ _ _ _ => True) (fun _ U o U' => ∃ v L, o = .returned v ∧ QOF Z i sa ba kb b0 b1 b2 gm h0 n0 v U'.heap L ∧ FrameEnd U o U' L ({ frames := 2, cells := 2, slots := 7, locals := 29 } : Room).cells ({ frames := 2, cells := 2, slots := 7, locals := 29 } : Room).slots) := by
  refine MetFree.of_bodySF (plainFor_of_name pn_1) hisR ?_
  intro p e s m args below meth c s₁ Bd hml0 hP hK
  obtain ⟨rfl, hZ, hh⟩ := hP
  have hx := Bd.exec
  have hby := Bd.bytes
  have hml : c.maxLocals = 3 := hml0
  have hown : s.vm.findClass "com/example/harvestgate/harvestgate/http/Response" = some m.cls := findClass_of_methodNamed Bd.named
  have hnm := (name_of_methodNamed Bd.named Bd.method).1
  have X0 : Stand p l e ({ frames := 2, cells := 2, slots := 7, locals := 29 } : Room) s m #[(.int i), (.ref sa), (.ref ba)] below meth c s₁ [] 0 0 := Stand.of_body Bd
  have e0 : s₁.heap = h0 := by rw [← hh, Bd.state]; rfl
  have N0 := Fr.nil n0
  obtain ⟨E0, hE0⟩ : ∃ z, z = s₁.setTop (entryFrame m #[(.int i), (.ref sa), (.ref ba)] 3) := ⟨_, rfl⟩
  rw [← hE0]
  have go0 : ∀ tgt, Steps p.tables e below (s₁.setTop (mkF m 0 #[.val (.int i), .val (.ref sa), .val (.ref ba)] [])) tgt → Steps p.tables e below E0 tgt := fun tgt kont => by rw [hE0]; exact castTop (ef_OF m i sa ba) kont
  obtain ⟨T1, h1, X1, e1, E1, A1, D1, -, st1⟩ := newO X0 hx hZ hown (hw _ (List.mem_of_getElem? (i := 34) rfl)) (hw _ (List.mem_of_getElem? (i := 35) rfl)) (hw _ (List.mem_of_getElem? (i := 32) rfl)) e0 (g := (mkF m 0 #[.val (.int i), .val (.ref sa), .val (.ref ba)] [])) rfl (hb hby dOF_0) (by decide) (by decide)
  obtain ⟨r, g1⟩ : ∃ z, z = h0.size := ⟨_, rfl⟩
  rw [← g1] at A1 D1 st1
  have ne_ba_r : ba ≠ r := Nat.ne_of_lt (Nat.lt_of_lt_of_le Eb.lt (Nat.le_of_eq g1.symm))
  have ge_r : n0 ≤ r := Nat.le_trans Z0 (Nat.le_of_eq g1.symm)
  have hz_r : h0.size ≤ r := Nat.le_trans (Keep.refl h0 []).1 (Nat.le_of_eq g1.symm)
  have z2 : n0 ≤ h1.size := Nat.le_trans Z0 E1.1
  have K3 : Keep h0 h1 [] := (Keep.refl h0 []).ext E1
  have Fstatus_r : Fld Z h1 r "com/example/harvestgate/harvestgate/http/Response" "status" "I" (.int (0 : Int32)) := D1 (Or.inr (hw _ (List.mem_of_getElem? (i := 56) rfl))) (ty := .int) (by decide)
  have FcontentType_r : Fld Z h1 r "com/example/harvestgate/harvestgate/http/Response" "contentType" "Ljava/lang/String;" .null := D1 (Or.inr (hw _ (List.mem_of_getElem? (i := 58) rfl))) (ty := (.object "java/lang/String")) (by decide)
  have Fbody_r : Fld Z h1 r "com/example/harvestgate/harvestgate/http/Response" "body" "[B" .null := D1 (Or.inr (hw _ (List.mem_of_getElem? (i := 60) rfl))) (ty := (.array .byte)) (by decide)
  have Fheaders_r : Fld Z h1 r "com/example/harvestgate/harvestgate/http/Response" "headers" "Ljava/util/Map;" .null := D1 (Or.inr (hw _ (List.mem_of_getElem? (i := 62) rfl))) (ty := (.object "java/util/Map")) (by decide)
  have go1 : ∀ tgt, Steps p.tables e below (T1.setTop (mkF m 3 #[.val (.int i), .val (.ref sa), .val (.ref ba)] [(.ref r)])) tgt → Steps p.tables e below E0 tgt := fun tgt kont => go0 tgt (st1 tgt kont)
  have go4 : ∀ tgt, Steps p.tables e below (T1.setTop (mkF m 7 #[.val (.int i), .val (.ref sa), .val (.ref ba)] [(.ref ba), (.ref sa), (.int i), (.ref r), (.ref r)])) tgt → Steps p.tables e below E0 tgt := fun tgt kont => go1 tgt (by
    show Steps p.tables e below (T1.setTop (mkF m 3 #[.val (.int i), .val (.ref sa), .val (.ref ba)] [(.ref r)])) tgt
    refine XS.dup X1.here hx rfl (hb hby dOF_3) rfl rfl ?_
    show Steps p.tables e below (T1.setTop (mkF m 4 #[.val (.int i), .val (.ref sa), .val (.ref ba)] [(.ref r), (.ref r)])) tgt
    refine XS.iloadN X1.here hx rfl (hb hby dOF_4) rfl ?_
    show Steps p.tables e below (T1.setTop (mkF m 5 #[.val (.int i), .val (.ref sa), .val (.ref ba)] [(.int i), (.ref r), (.ref r)])) tgt
    refine XS.aloadN X1.here hx rfl (hb hby dOF_5) rfl rfl ?_
    show Steps p.tables e below (T1.setTop (mkF m 6 #[.val (.int i), .val (.ref sa), .val (.ref ba)] [(.ref sa), (.int i), (.ref r), (.ref r)])) tgt
    refine XS.aloadN X1.here hx rfl (hb hby dOF_6) rfl rfl ?_
    exact kont)
  have f5 : Exa Z h1 ba "[B" := (Eb.ext E1)
  have f6 : Arv Z h1 ba kb .byte (3 : Int32) [(.int b0), (.int b1), (.int b2)] (.int (0 : Int32)) := (Ab.ext E1)
  obtain ⟨T7, h7, X7, e7, E7, A7, B7, st7⟩ := cloneH X1 hx hZ hown (hw _ (List.mem_of_getElem? (i := 36) rfl)) (hw _ (List.mem_of_getElem? (i := 37) rfl)) (hw _ (List.mem_of_getElem? (i := 41) rfl)) (hw _ (List.mem_of_getElem? (i := 39) rfl)) (hw _ (List.mem_of_getElem? (i := 40) rfl)) (hw _ (List.mem_of_getElem? (i := 42) rfl)) e1 (Arv.arh f6) f5 (g := (mkF m 7 #[.val (.int i), .val (.ref sa), .val (.ref ba)] [(.ref ba), (.ref sa), (.int i), (.ref r), (.ref r)])) rfl (by rw [hml]; rfl) rfl (hb hby dOF_7) (by decide) (W := 4) (cap := 3) (by show 2 * 0 + _ ≤ _; exact Nat.le_of_eq rfl) (by decide) (by decide) (by decide) (by decide)
  obtain ⟨c, g7⟩ : ∃ z, z = h1.size := ⟨_, rfl⟩
  rw [← g7] at A7 B7 st7
  have ne_ba_c : ba ≠ c := Nat.ne_of_lt (Nat.lt_of_lt_of_le (Nat.lt_of_lt_of_le Eb.lt E1.1) (Nat.le_of_eq g7.symm))
  have ne_r_c : r ≠ c := Nat.ne_of_lt (Nat.lt_of_lt_of_le A1.lt (Nat.le_of_eq g7.symm))
  have ge_c : n0 ≤ c := Nat.le_trans z2 (Nat.le_of_eq g7.symm)
  have hz_c : h0.size ≤ c := Nat.le_trans K3.1 (Nat.le_of_eq g7.symm)
  have z8 : n0 ≤ h7.size := Nat.le_trans z2 E7.1
  have K9 : Keep h0 h7 [] := K3.ext E7
  have V7 : Arv Z h7 c kb .byte (3 : Int32) [(.int b0), (.int b1), (.int b2)] (.int (0 : Int32)) := A7
  have go7 : ∀ tgt, Steps p.tables e below (T7.setTop (mkF m 10 #[.val (.int i), .val (.ref sa), .val (.ref ba)] [(.ref c), (.ref sa), (.int i), (.ref r), (.ref r)])) tgt → Steps p.tables e below E0 tgt := fun tgt kont => go4 tgt (st7 tgt kont)
  obtain ⟨T10, X10, e10, st10⟩ := castY X7 hx hZ hown (hw _ (List.mem_of_getElem? (i := 43) rfl)) e7 (Ins.self B7) (g := (mkF m 10 #[.val (.int i), .val (.ref sa), .val (.ref ba)] [(.ref c), (.ref sa), (.int i), (.ref r), (.ref r)])) rfl rfl (hb hby dOF_10)
  have go10 : ∀ tgt, Steps p.tables e below (T10.setTop (mkF m 13 #[.val (.int i), .val (.ref sa), .val (.ref ba)] [(.ref c), (.ref sa), (.int i), (.ref r), (.ref r)])) tgt → Steps p.tables e below E0 tgt := fun tgt kont => go7 tgt (st10 tgt kont)
  have f11 : Old Z n0 h7 := ((O0.ext E1).ext E7)
  obtain ⟨_, _, ⟨T12, L12, k12, n12⟩, -, X12, ⟨Lc12, hQ12, l12, y12, z12⟩, st12⟩ := Jvm.LawKit.callS X10 hx (y := (⟨"java/util/Map", "of", "()Ljava/util/Map;"⟩ : MethodName)) hown (mvT hZ (hw _ (List.mem_of_getElem? (i := 45) rfl))) (mvT hZ (hw _ (List.mem_of_getElem? (i := 46) rfl))) (mvT hZ (hw _ (List.mem_of_getElem? (i := 47) rfl))) (mvT hZ (hw _ (List.mem_of_getElem? (i := 48) rfl))) (by decide) (backOf (W := 5) (rmMO l Z a0 hw [] gm h7 n0 z8 (Sg0.ext f11.2)) hZ (hw _ (List.mem_of_getElem? (i := 48) rfl)) (hw _ (List.mem_of_getElem? (i := 47) rfl)) (by decide) (by decide)) (g := (mkF m 13 #[.val (.int i), .val (.ref sa), .val (.ref ba)] [(.ref c), (.ref sa), (.int i), (.ref r), (.ref r)])) rfl (by rw [hml]; rfl) (argsL := []) (rest := [(.ref c), (.ref sa), (.int i), (.ref r), (.ref r)]) (lenOf pd_2 rfl) rfl (by show 2 * 0 + _ ≤ _; exact Nat.le_of_eq rfl) (hb hby dOF_13) (fun _ _ => ⟨rfl, e10, (by decide : 2 + 0 ≤ _), (by decide : 7 + 0 ≤ _)⟩)
  dsimp only [Pt.U, Pt.locs, Pt.cells, Pt.slots] at X12 l12 y12 z12 st12 hQ12
  subst l12 y12 z12
  obtain ⟨rfl, N12q, e12⟩ := hQ12
  have N12 := Fr.app N0 N12q
  have go12 : ∀ tgt, Steps p.tables e below (T12.setTop (mkF m 16 #[.val (.int i), .val (.ref sa), .val (.ref ba)] [(.ref gm), (.ref c), (.ref sa), (.int i), (.ref r), (.ref r)])) tgt → Steps p.tables e below E0 tgt := fun tgt kont => go10 tgt (st12 tgt kont)
  have f13 : Exa Z h7 r "com/example/harvestgate/harvestgate/http/Response" := (A1.ext E7)
  have f14 : Fld Z h7 r "com/example/harvestgate/harvestgate/http/Response" "status" "I" (.int (0 : Int32)) := (Fstatus_r.ext E7)
  have f15 : Fld Z h7 r "com/example/harvestgate/harvestgate/http/Response" "contentType" "Ljava/lang/String;" .null := (FcontentType_r.ext E7)
  have f16 : Fld Z h7 r "com/example/harvestgate/harvestgate/http/Response" "body" "[B" .null := (Fbody_r.ext E7)
  have f17 : Fld Z h7 r "com/example/harvestgate/harvestgate/http/Response" "headers" "Ljava/util/Map;" .null := (Fheaders_r.ext E7)
  obtain ⟨_, _, ⟨T18, L18, k18, n18⟩, -, X18, ⟨Lc18, hQ18, l18, y18, z18⟩, st18⟩ := X12.specialBack hx (y := (⟨"com/example/harvestgate/harvestgate/http/Response", "<init>", "(ILjava/lang/String;[BLjava/util/Map;)V"⟩ : MethodName)) rfl hown (mvT hZ (hw _ (List.mem_of_getElem? (i := 51) rfl))) (mvT hZ (hw _ (List.mem_of_getElem? (i := 52) rfl))) (mvT hZ (hw _ (List.mem_of_getElem? (i := 53) rfl))) (by decide) (backOf (W := 1) (rmRI l Z a0 hw [] r i sa c gm h7 n0 z8 f13 ge_r f14 f15 f16 f17) hZ (hw _ (List.mem_of_getElem? (i := 53) rfl)) (hw _ (List.mem_of_getElem? (i := 32) rfl)) (by decide) (by decide)) (g := (mkF m 16 #[.val (.int i), .val (.ref sa), .val (.ref ba)] [(.ref gm), (.ref c), (.ref sa), (.int i), (.ref r), (.ref r)])) rfl (by rw [hml]; rfl) (Steps.refl _) (a := r) (argsL := [(.int i), (.ref sa), (.ref c), (.ref gm)]) (rest := [(.ref r)]) (lenOf pd_3 rfl) rfl (by show 2 * 0 + _ ≤ _; exact Nat.le_of_eq rfl) (hb hby dOF_16) (fun _ _ => ⟨rfl, e12, (by decide : 2 + 0 ≤ _), (by decide : 7 + 0 ≤ _)⟩)
  dsimp only [Pt.U, Pt.locs, Pt.cells, Pt.slots] at X18 l18 y18 z18 st18 hQ18
  subst l18 y18 z18
  obtain ⟨rfl, N18q, KI, EI, FI1, FI2, FI3⟩ := hQ18
  have N18 := Fr.app N12 N18q
  have z19 : n0 ≤ T18.heap.size := Nat.le_trans z8 KI.1
  have K20 : Keep h0 T18.heap [] := K9.trans KI (allS (Or.inr hz_r) all0)
  have go18 : ∀ tgt, Steps p.tables e below (T18.setTop (mkF m 19 #[.val (.int i), .val (.ref sa), .val (.ref ba)] [(.ref r)])) tgt → Steps p.tables e below E0 tgt := fun tgt kont => go12 tgt (st18.trans kont)
  have f21 : Arv Z T18.heap c kb .byte (3 : Int32) [(.int b0), (.int b1), (.int b2)] (.int (0 : Int32)) := (V7.keep KI (ninS (Ne.symm ne_r_c) nin0))
  have hzr : h0.size < c := Nat.lt_of_le_of_ne hz_c (fun q => ne_r_c (g1.trans q))
  subst g1
  obtain ⟨fs, hr, hrun, hended, hW, hsame⟩ := X18.leave (v := some (.ref h0.size)) (fun h => by rw [Bd.returns] at h; cases h)
  refine ⟨_, _, go18 _ ?_, hrun, hended, _, _, rfl, ?_, ⟨_, rfl⟩, hW, hsame.mono (by decide) (by decide)⟩
  · show Steps p.tables e below (T18.setTop (mkF m 19 #[.val (.int i), .val (.ref sa), .val (.ref ba)] [(.ref h0.size)])) _
    exact retOut X18 hx Bd.returns rfl (Or.inr (Or.inr (Or.inr (Or.inr ⟨rfl, rfl, rfl⟩)))) (hb hby dOF_19) hr
  · show QOF Z i sa ba kb b0 b1 b2 gm h0 n0 _ T18.heap _
    exact ⟨rfl, N18, K20, EI, FI1, FI2, c, hzr, ge_c, FI3, f21⟩
theorem dGB_0 : decode prog_63_method_7_code 0 = .ok (.aload_n 0, 1) := by decide +kernel
theorem dGB_1 : decode prog_63_method_7_code 1 = .ok (.getfield 17, 3) := by decide +kernel
theorem dGB_4 : decode prog_63_method_7_code 4 = .ok (.areturn, 1) := by decide +kernel
theorem ef_GB (m : MethodId) (x0 : Addr) : entryFrame m #[(.ref x0)] 1 = mkF m 0 #[.val (.ref x0)] [] := by first | (simp [entryFrame, mkF, argsToLocals, Value.category, maxLocals]; done) | rfl
def QGB (Z : State) (a : Addr) (q : Addr) (h0 : Heap) (n0 : Nat) (v : Option Value) (h : Heap) (L : List Loc) : Prop := v = some (.ref q) ∧ Fr n0 L ∧ h = h0
set_option maxRecDepth 65536 in
set_option maxHeartbeats 40000000 in
theorem rmGB (l : Launch) (Z : State) (a0 : Array Value) (hw : ∀ d ∈ tables_1, d.before a0 Z = true) (ws : List Jvm.Cond) (a : Addr) (q : Addr) (h0 : Heap) (n0 : Nat) (Z0 : n0 ≤ h0.size) (Fq : Fld Z h0 a "com/example/harvestgate/harvestgate/http/Response" "body" "[B" (.ref q)) :
    MetFree l (⟨"com/example/harvestgate/harvestgate/http/Response", "body", "()[B"⟩ : MethodName) (head1 (Jvm.Cond.code (⟨"com/example/harvestgate/harvestgate/http/Response", "body", "()[B"⟩ : MethodName) prog_63_method_7_code 1 (some (.array .byte)) :: ws) ({ frames := 0, cells := 0, slots := 0, locals := 0 } : Room)) (fun as_ U => as_ = #[(.ref a)] ∧ Z.Warmed39 U.vm ∧ U.heap = h0) (fun _ _ _ _ _ => True) (fun _ U o U' => ∃ v L, o = .returned v ∧ QGB Z a q h0 n0 v U'.heap L ∧ FrameEnd U o U' L ({ frames := 0, cells := 0, slots := 0, locals := 0 } : Room).cells ({ frames := 0, cells := 0, slots := 0, locals := 0 } : Room).slots) := by
  refine MetFree.of_bodySF (plainFor_of_name pn_1) hisR ?_
  intro p e s m args below meth c s₁ Bd hml0 hP hK
  obtain ⟨rfl, hZ, hh⟩ := hP
  have hx := Bd.exec
  have hby := Bd.bytes
  have hml : c.maxLocals = 1 := hml0
  have hown : s.vm.findClass "com/example/harvestgate/harvestgate/http/Response" = some m.cls := findClass_of_methodNamed Bd.named
  have hnm := (name_of_methodNamed Bd.named Bd.method).1
  have X0 : Stand p l e ({ frames := 0, cells := 0, slots := 0, locals := 0 } : Room) s m #[(.ref a)] below meth c s₁ [] 0 0 := Stand.of_body Bd
  have e0 : s₁.heap = h0 := by rw [← hh, Bd.state]; rfl
  have N0 := Fr.nil n0
  obtain ⟨E0, hE0⟩ : ∃ z, z = s₁.setTop (entryFrame m #[(.ref a)] 1) := ⟨_, rfl⟩
  rw [← hE0]
  have go0 : ∀ tgt, Steps p.tables e below (s₁.setTop (mkF m 0 #[.val (.ref a)] [])) tgt → Steps p.tables e below E0 tgt := fun tgt kont => by rw [hE0]; exact castTop (ef_GB m a) kont
  have go1 : ∀ tgt, Steps p.tables e below (s₁.setTop (mkF m 1 #[.val (.ref a)] [(.ref a)])) tgt → Steps p.tables e below E0 tgt := fun tgt kont => go0 tgt (by
    show Steps p.tables e below (s₁.setTop (mkF m 0 #[.val (.ref a)] [])) tgt
    refine XS.aloadN X0.here hx rfl (hb hby dGB_0) rfl rfl ?_
    exact kont)
  obtain ⟨T2, X2, e2, st2⟩ := getF X0 hx hZ hown (host := "") (Or.inl (hw _ (List.mem_of_getElem? (i := 59) rfl))) Via.refl e0 Fq (g := (mkF m 1 #[.val (.ref a)] [(.ref a)])) rfl rfl (hb hby dGB_1)
  have go2 : ∀ tgt, Steps p.tables e below (T2.setTop (mkF m 4 #[.val (.ref a)] [(.ref q)])) tgt → Steps p.tables e below E0 tgt := fun tgt kont => go1 tgt (st2 tgt kont)
  obtain ⟨fs, hr, hrun, hended, hW, hsame⟩ := X2.leave (v := some (.ref q)) (fun h => by rw [Bd.returns] at h; cases h)
  refine ⟨_, _, go2 _ ?_, hrun, hended, _, _, rfl, ?_, ⟨_, rfl⟩, hW, hsame.mono (by decide) (by decide)⟩
  · show Steps p.tables e below (T2.setTop (mkF m 4 #[.val (.ref a)] [(.ref q)])) _
    exact retOut X2 hx Bd.returns rfl (Or.inr (Or.inr (Or.inr (Or.inr ⟨rfl, rfl, rfl⟩)))) (hb hby dGB_4) hr
  · show QGB Z a q h0 n0 _ T2.heap _
    rw [e2]
    exact ⟨rfl, N0, rfl⟩
theorem dGS_0 : decode prog_63_method_5_code 0 = .ok (.aload_n 0, 1) := by decide +kernel
theorem dGS_1 : decode prog_63_method_5_code 1 = .ok (.getfield 7, 3) := by decide +kernel
theorem dGS_4 : decode prog_63_method_5_code 4 = .ok (.ireturn, 1) := by decide +kernel
theorem ef_GS (m : MethodId) (x0 : Addr) : entryFrame m #[(.ref x0)] 1 = mkF m 0 #[.val (.ref x0)] [] := by first | (simp [entryFrame, mkF, argsToLocals, Value.category, maxLocals]; done) | rfl
def QGS (Z : State) (a : Addr) (q : Int32) (h0 : Heap) (n0 : Nat) (v : Option Value) (h : Heap) (L : List Loc) : Prop := v = some (.int q) ∧ Fr n0 L ∧ h = h0
set_option maxRecDepth 65536 in
set_option maxHeartbeats 40000000 in
theorem rmGS (l : Launch) (Z : State) (a0 : Array Value) (hw : ∀ d ∈ tables_1, d.before a0 Z = true) (ws : List Jvm.Cond) (a : Addr) (q : Int32) (h0 : Heap) (n0 : Nat) (Z0 : n0 ≤ h0.size) (Fq : Fld Z h0 a "com/example/harvestgate/harvestgate/http/Response" "status" "I" (.int q)) :
    MetFree l (⟨"com/example/harvestgate/harvestgate/http/Response", "status", "()I"⟩ : MethodName) (head1 (Jvm.Cond.code (⟨"com/example/harvestgate/harvestgate/http/Response", "status", "()I"⟩ : MethodName) prog_63_method_5_code 1 (some .int) :: ws) ({ frames := 0, cells := 0, slots := 0, locals := 0 } : Room)) (fun as_ U => as_ = #[(.ref a)] ∧ Z.Warmed39 U.vm ∧ U.heap = h0) (fun _ _ _ _ _ => True) (fun _ U o U' => ∃ v L, o = .returned v ∧ QGS Z a q h0 n0 v U'.heap L ∧ FrameEnd U o U' L ({ frames := 0, cells := 0, slots := 0, locals := 0 } : Room).cells ({ frames := 0, cells := 0, slots := 0, locals := 0 } : Room).slots) := by
  refine MetFree.of_bodySF (plainFor_of_name pn_1) hisR ?_
  intro p e s m args below meth c s₁ Bd hml0 hP hK
  obtain ⟨rfl, hZ, hh⟩ := hP
  have hx := Bd.exec
  have hby := Bd.bytes
  have hml : c.maxLocals = 1 := hml0
  have hown : s.vm.findClass "com/example/harvestgate/harvestgate/http/Response" = some m.cls := findClass_of_methodNamed Bd.named
  have hnm := (name_of_methodNamed Bd.named Bd.method).1
  have X0 : Stand p l e ({ frames := 0, cells := 0, slots := 0, locals := 0 } : Room) s m #[(.ref a)] below meth c s₁ [] 0 0 := Stand.of_body Bd
  have e0 : s₁.heap = h0 := by rw [← hh, Bd.state]; rfl
  have N0 := Fr.nil n0
  obtain ⟨E0, hE0⟩ : ∃ z, z = s₁.setTop (entryFrame m #[(.ref a)] 1) := ⟨_, rfl⟩
  rw [← hE0]
  have go0 : ∀ tgt, Steps p.tables e below (s₁.setTop (mkF m 0 #[.val (.ref a)] [])) tgt → Steps p.tables e below E0 tgt := fun tgt kont => by rw [hE0]; exact castTop (ef_GS m a) kont
  have go1 : ∀ tgt, Steps p.tables e below (s₁.setTop (mkF m 1 #[.val (.ref a)] [(.ref a)])) tgt → Steps p.tables e below E0 tgt := fun tgt kont => go0 tgt (by
    show Steps p.tables e below (s₁.setTop (mkF m 0 #[.val (.ref a)] [])) tgt
    refine XS.aloadN X0.here hx rfl (hb hby dGS_0) rfl rfl ?_
    exact kont)
  obtain ⟨T2, X2, e2, st2⟩ := getF X0 hx hZ hown (host := "") (Or.inl (hw _ (List.mem_of_getElem? (i := 55) rfl))) Via.refl e0 Fq (g := (mkF m 1 #[.val (.ref a)] [(.ref a)])) rfl rfl (hb hby dGS_1)
  have go2 : ∀ tgt, Steps p.tables e below (T2.setTop (mkF m 4 #[.val (.ref a)] [(.int q)])) tgt → Steps p.tables e below E0 tgt := fun tgt kont => go1 tgt (st2 tgt kont)
  obtain ⟨fs, hr, hrun, hended, hW, hsame⟩ := X2.leave (v := some (.int q)) (fun h => by rw [Bd.returns] at h; cases h)
  refine ⟨_, _, go2 _ ?_, hrun, hended, _, _, rfl, ?_, ⟨_, rfl⟩, hW, hsame.mono (by decide) (by decide)⟩
  · show Steps p.tables e below (T2.setTop (mkF m 4 #[.val (.ref a)] [(.int q)])) _
    exact retOut X2 hx Bd.returns rfl (Or.inl ⟨rfl, Or.inl rfl, _, rfl⟩) (hb hby dGS_4) hr
  · show QGS Z a q h0 n0 _ T2.heap _
    rw [e2]
    exact ⟨rfl, N0, rfl⟩
theorem dGC_0 : decode prog_63_method_6_code 0 = .ok (.aload_n 0, 1) := by decide +kernel
theorem dGC_1 : decode prog_63_method_6_code 1 = .ok (.getfield 13, 3) := by decide +kernel
theorem dGC_4 : decode prog_63_method_6_code 4 = .ok (.areturn, 1) := by decide +kernel
theorem ef_GC (m : MethodId) (x0 : Addr) : entryFrame m #[(.ref x0)] 1 = mkF m 0 #[.val (.ref x0)] [] := by first | (simp [entryFrame, mkF, argsToLocals, Value.category, maxLocals]; done) | rfl
def QGC (Z : State) (a : Addr) (q : Addr) (h0 : Heap) (n0 : Nat) (v : Option Value) (h : Heap) (L : List Loc) : Prop := v = some (.ref q) ∧ Fr n0 L ∧ h = h0
set_option maxRecDepth 65536 in
set_option maxHeartbeats 40000000 in
theorem rmGC (l : Launch) (Z : State) (a0 : Array Value) (hw : ∀ d ∈ tables_1, d.before a0 Z = true) (ws : List Jvm.Cond) (a : Addr) (q : Addr) (h0 : Heap) (n0 : Nat) (Z0 : n0 ≤ h0.size) (Fq : Fld Z h0 a "com/example/harvestgate/harvestgate/http/Response" "contentType" "Ljava/lang/String;" (.ref q)) :
    MetFree l (⟨"com/example/harvestgate/harvestgate/http/Response", "contentType", "()Ljava/lang/String;"⟩ : MethodName) (head1 (Jvm.Cond.code (⟨"com/example/harvestgate/harvestgate/http/Response", "contentType", "()Ljava/lang/String;"⟩ : MethodName) prog_63_method_6_code 1 (some (.object "java/lang/String")) :: ws) ({ frames := 0, cells := 0, slots := 0, locals := 0 } : Room)) (fun as_ U => as_ = #[(.ref a)] ∧ Z.Warmed39 U.vm ∧ U.heap = h0) (fun _ _ _ _ _ => True) (fun _ U o U' => ∃ v L, o = .returned v ∧ QGC Z a q h0 n0 v U'.heap L ∧ FrameEnd U o U' L ({ frames := 0, cells := 0, slots := 0, locals := 0 } : Room).cells ({ frames := 0, cells := 0, slots := 0, locals := 0 } : Room).slots) := by
  refine MetFree.of_bodySF (plainFor_of_name pn_1) hisR ?_
  intro p e s m args below meth c s₁ Bd hml0 hP hK
  obtain ⟨rfl, hZ, hh⟩ := hP
  have hx := Bd.exec
  have hby := Bd.bytes
  have hml : c.maxLocals = 1 := hml0
  have hown : s.vm.findClass "com/example/harvestgate/harvestgate/http/Response" = some m.cls := findClass_of_methodNamed Bd.named
  have hnm := (name_of_methodNamed Bd.named Bd.method).1
  have X0 : Stand p l e ({ frames := 0, cells := 0, slots := 0, locals := 0 } : Room) s m #[(.ref a)] below meth c s₁ [] 0 0 := Stand.of_body Bd
  have e0 : s₁.heap = h0 := by rw [← hh, Bd.state]; rfl
  have N0 := Fr.nil n0
  obtain ⟨E0, hE0⟩ : ∃ z, z = s₁.setTop (entryFrame m #[(.ref a)] 1) := ⟨_, rfl⟩
  rw [← hE0]
  have go0 : ∀ tgt, Steps p.tables e below (s₁.setTop (mkF m 0 #[.val (.ref a)] [])) tgt → Steps p.tables e below E0 tgt := fun tgt kont => by rw [hE0]; exact castTop (ef_GC m a) kont
  have go1 : ∀ tgt, Steps p.tables e below (s₁.setTop (mkF m 1 #[.val (.ref a)] [(.ref a)])) tgt → Steps p.tables e below E0 tgt := fun tgt kont => go0 tgt (by
    show Steps p.tables e below (s₁.setTop (mkF m 0 #[.val (.ref a)] [])) tgt
    refine XS.aloadN X0.here hx rfl (hb hby dGC_0) rfl rfl ?_
    exact kont)
  obtain ⟨T2, X2, e2, st2⟩ := getF X0 hx hZ hown (host := "") (Or.inl (hw _ (List.mem_of_getElem? (i := 57) rfl))) Via.refl e0 Fq (g := (mkF m 1 #[.val (.ref a)] [(.ref a)])) rfl rfl (hb hby dGC_1)
  have go2 : ∀ tgt, Steps p.tables e below (T2.setTop (mkF m 4 #[.val (.ref a)] [(.ref q)])) tgt → Steps p.tables e below E0 tgt := fun tgt kont => go1 tgt (st2 tgt kont)
  obtain ⟨fs, hr, hrun, hended, hW, hsame⟩ := X2.leave (v := some (.ref q)) (fun h => by rw [Bd.returns] at h; cases h)
  refine ⟨_, _, go2 _ ?_, hrun, hended, _, _, rfl, ?_, ⟨_, rfl⟩, hW, hsame.mono (by decide) (by decide)⟩
  · show Steps p.tables e below (T2.setTop (mkF m 4 #[.val (.ref a)] [(.ref q)])) _
    exact retOut X2 hx Bd.returns rfl (Or.inr (Or.inr (Or.inr (Or.inr ⟨rfl, rfl, rfl⟩)))) (hb hby dGC_4) hr
  · show QGC Z a q h0 n0 _ T2.heap _
    rw [e2]
    exact ⟨rfl, N0, rfl⟩
theorem pn_4 : plainName "java/lang/String" = true := by first | (simp [plainName, overriddenIn]; done) | decide +kernel
theorem dEQ_0 : decode jdk_42_method_66_code 0 = .ok (.aload_n 0, 1) := by decide +kernel
theorem dEQ_1 : decode jdk_42_method_66_code 1 = .ok (.aload_n 1, 1) := by decide +kernel
theorem dEQ_2 : decode jdk_42_method_66_code 2 = .ok (.if_acmp .ne 5, 3) := by decide +kernel
theorem dEQ_5 : decode jdk_42_method_66_code 5 = .ok (.iconst 1, 1) := by decide +kernel
theorem dEQ_6 : decode jdk_42_method_66_code 6 = .ok (.ireturn, 1) := by decide +kernel
theorem ef_EQ (m : MethodId) (x0 : Addr) (x1 : Addr) : entryFrame m #[(.ref x0), (.ref x1)] 3 = mkF m 0 #[.val (.ref x0), .val (.ref x1), .unset] [] := by first | (simp [entryFrame, mkF, argsToLocals, Value.category, maxLocals]; done) | rfl
def QEQ (Z : State) (a : Addr) (h0 : Heap) (n0 : Nat) (v : Option Value) (h : Heap) (L : List Loc) : Prop := v = some (.int (1 : Int32)) ∧ Fr n0 L ∧ h = h0
set_option maxRecDepth 65536 in
set_option maxHeartbeats 40000000 in
theorem rmEQ (l : Launch) (Z : State) (a0 : Array Value) (hw : ∀ d ∈ tables_1, d.before a0 Z = true) (ws : List Jvm.Cond) (a : Addr) (h0 : Heap) (n0 : Nat) (Z0 : n0 ≤ h0.size) :
    MetFree l (⟨"java/lang/String", "equals", "(Ljava/lang/Object;)Z"⟩ : MethodName) (head1 (Jvm.Cond.code (⟨"java/lang/String", "equals", "(Ljava/lang/Object;)Z"⟩ : MethodName) jdk_42_method_66_code 3 (some .boolean) :: ws) ({ frames := 0, cells := 0, slots := 0, locals := 0 } : Room)) (fun as_ U => as_ = #[(.ref a), (.ref a)] ∧ Z.Warmed39 U.vm ∧ U.heap = h0) (fun _ _ _ _ _ => True) (fun _ U o U' => ∃ v L, o = .returned v ∧ QEQ Z a h0 n0 v U'.heap L ∧ FrameEnd U o U' L ({ frames := 0, cells := 0, slots := 0, locals := 0 } : Room).cells ({ frames := 0, cells := 0, slots := 0, locals := 0 } : Room).slots) := by
  refine MetFree.of_bodySF (plainFor_of_name pn_4) hisR ?_
  intro p e s m args below meth c s₁ Bd hml0 hP hK
  obtain ⟨rfl, hZ, hh⟩ := hP
  have hx := Bd.exec
  have hby := Bd.bytes
  have hml : c.maxLocals = 3 := hml0
  have hown : s.vm.findClass "java/lang/String" = some m.cls := findClass_of_methodNamed Bd.named
  have hnm := (name_of_methodNamed Bd.named Bd.method).1
  have X0 : Stand p l e ({ frames := 0, cells := 0, slots := 0, locals := 0 } : Room) s m #[(.ref a), (.ref a)] below meth c s₁ [] 0 0 := Stand.of_body Bd
  have e0 : s₁.heap = h0 := by rw [← hh, Bd.state]; rfl
  have N0 := Fr.nil n0
  obtain ⟨E0, hE0⟩ : ∃ z, z = s₁.setTop (entryFrame m #[(.ref a), (.ref a)] 3) := ⟨_, rfl⟩
  rw [← hE0]
  have go0 : ∀ tgt, Steps p.tables e below (s₁.setTop (mkF m 0 #[.val (.ref a), .val (.ref a), .unset] [])) tgt → Steps p.tables e below E0 tgt := fun tgt kont => by rw [hE0]; exact castTop (ef_EQ m a a) kont
  have go1 : ∀ tgt, Steps p.tables e below (s₁.setTop (mkF m 6 #[.val (.ref a), .val (.ref a), .unset] [(.int (1 : Int32))])) tgt → Steps p.tables e below E0 tgt := fun tgt kont => go0 tgt (by
    show Steps p.tables e below (s₁.setTop (mkF m 0 #[.val (.ref a), .val (.ref a), .unset] [])) tgt
    refine XS.aloadN X0.here hx rfl (hb hby dEQ_0) rfl rfl ?_
    show Steps p.tables e below (s₁.setTop (mkF m 1 #[.val (.ref a), .val (.ref a), .unset] [(.ref a)])) tgt
    refine XS.aloadN X0.here hx rfl (hb hby dEQ_1) rfl rfl ?_
    show Steps p.tables e below (s₁.setTop (mkF m 2 #[.val (.ref a), .val (.ref a), .unset] [(.ref a), (.ref a)])) tgt
    refine Jvm.RoadKit.acmp (g := (mkF m 2 #[.val (.ref a), .val (.ref a), .unset] [(.ref a), (.ref a)])) X0 hx rfl rfl rfl (pc0 := 2) (pc' := 5) (same := true) rfl (hb hby dEQ_2) rfl (decide_eq_true rfl) (by decide) (by decide) ?_
    show Steps p.tables e below (s₁.setTop (mkF m 5 #[.val (.ref a), .val (.ref a), .unset] [])) tgt
    refine XS.iconst X0.here hx rfl (hb hby dEQ_5) ?_
    exact kont)
  obtain ⟨fs, hr, hrun, hended, hW, hsame⟩ := X0.leave (v := some (.int (1 : Int32))) (fun h => by rw [Bd.returns] at h; cases h)
  refine ⟨_, _, go1 _ ?_, hrun, hended, _, _, rfl, ?_, ⟨_, rfl⟩, hW, hsame.mono (by decide) (by decide)⟩
  · show Steps p.tables e below (s₁.setTop (mkF m 6 #[.val (.ref a), .val (.ref a), .unset] [(.int (1 : Int32))])) _
    exact retN X0 hx (t := .boolean) Bd.returns (by simp) (hb hby dEQ_6) hr
  · show QEQ Z a h0 n0 _ s₁.heap _
    rw [e0]
    exact ⟨rfl, N0, rfl⟩
def own_b0 (p1 : Int32) : Int32 := (p1.toInt8.toInt32)
def own_b1 (p1 : Int32) : Int32 := (((p1.toUInt32 >>> ((8 : Int32) &&& 31).toUInt32).toInt32).toInt8.toInt32)
def own_b2 (p1 : Int32) : Int32 := (((p1.toUInt32 >>> ((16 : Int32) &&& 31).toUInt32).toInt32).toInt8.toInt32)
theorem pd_5 : parseMethodDescriptor "([C)V" = some ⟨[(.array .char)], none⟩ := by decide +kernel
theorem pd_6 : parseMethodDescriptor "(ILjava/lang/String;[B)Lcom/example/harvestgate/harvestgate/http/Response;" = some ⟨[.int, (.object "java/lang/String"), (.array .byte)], some (.object "com/example/harvestgate/harvestgate/http/Response")⟩ := by decide +kernel
theorem pd_7 : parseMethodDescriptor "()[B" = some ⟨[], some (.array .byte)⟩ := by decide +kernel
theorem pd_8 : parseMethodDescriptor "()I" = some ⟨[], some .int⟩ := by decide +kernel
theorem pd_9 : parseMethodDescriptor "()Ljava/lang/String;" = some ⟨[], some (.object "java/lang/String")⟩ := by decide +kernel
theorem pd_10 : parseMethodDescriptor "(Ljava/lang/Object;)Z" = some ⟨[(.object "java/lang/Object")], some .boolean⟩ := by decide +kernel
theorem pn_11 : plainName "com/example/harvestgate/harvestgate/http/ResponseOfPinLaw" = true := by first | (simp [plainName, overriddenIn]; done) | decide +kernel
theorem ef_L (m : MethodId) (x0 : Int32) (x1 : Int32) (x2 : Int32) : entryFrame m #[(.int x0), (.int x1), (.int x2)] maxLocals = mkF m 0 #[.val (.int x0), .val (.int x1), .val (.int x2), .unset, .unset, .unset, .unset, .unset, .unset, .unset, .unset] [] := by first | (simp [entryFrame, mkF, argsToLocals, Value.category, maxLocals]; done) | rfl
def QL (Z : State) (p0 : Int32) (p1 : Int32) (p2 : Int32) (G : Int32) (gm : Addr) (h0 : Heap) (n0 : Nat) (v : Option Value) (h : Heap) (L : List Loc) : Prop := v = some (.int 1) ∧ Fr n0 L
set_option maxRecDepth 65536 in
set_option maxHeartbeats 40000000 in
theorem rmL (l : Launch) (Z : State) (a0 : Array Value) (hw : ∀ d ∈ tables_1, d.before a0 Z = true) (ws : List Jvm.Cond) (p0 : Int32) (p1 : Int32) (p2 : Int32) (G : Int32) (gm : Addr) (h0 : Heap) (n0 : Nat) (Z0 : n0 ≤ h0.size) (SC : Sta Z Z.heap "java/lang/String" "COMPACT_STRINGS" "Z" (.int G)) (hG : ¬ (G = (0 : Int32))) (SM : Sta Z Z.heap "java/util/ImmutableCollections" "EMPTY_MAP" "Ljava/util/ImmutableCollections$MapN;" (.ref gm)) (O0 : Old Z n0 h0) :
    MetFree l x (head1 (Jvm.Cond.code x code maxLocals ret :: ws) room_1) (fun as_ U => as_ = #[(.int p0), (.int p1), (.int p2)] ∧ Z.Warmed39 U.vm ∧ U.heap = h0) (fun _ _ _ _ _ => True) (fun _ U o U' => ∃ v L, o = .returned v ∧ QL Z p0 p1 p2 G gm h0 n0 v U'.heap L ∧ FrameEnd U o U' L 6 18) := by
  refine MetFree.of_bodySF (plainFor_of_name pn_11) hisR ?_
  intro p e s m args below meth c s₁ Bd hml0 hP hK
  obtain ⟨rfl, hZ, hh⟩ := hP
  have hx := Bd.exec
  have hby := Bd.bytes
  have hml : c.maxLocals = 11 := hml0
  have hown : s.vm.findClass "com/example/harvestgate/harvestgate/http/ResponseOfPinLaw" = some m.cls := findClass_of_methodNamed Bd.named
  have hnm := (name_of_methodNamed Bd.named Bd.method).1
  have X0 : Stand p l e room_1 s m #[(.int p0), (.int p1), (.int p2)] below meth c s₁ [] 0 0 := Stand.of_body Bd
  have e0 : s₁.heap = h0 := by rw [← hh, Bd.state]; rfl
  have N0 := Fr.nil n0
  obtain ⟨E0, hE0⟩ : ∃ z, z = s₁.setTop (entryFrame m #[(.int p0), (.int p1), (.int p2)] maxLocals) := ⟨_, rfl⟩
  rw [← hE0]
  have go0 : ∀ tgt, Steps p.tables e below (s₁.setTop (mkF m 0 #[.val (.int p0), .val (.int p1), .val (.int p2), .unset, .unset, .unset, .unset, .unset, .unset, .unset, .unset] [])) tgt → Steps p.tables e below E0 tgt := fun tgt kont => by rw [hE0]; exact castTop (ef_L m p0 p1 p2) kont
  have hws : ∀ d ∈ StrChars.Road.words, d.before a0 Z = true := fun d hd => hw d ((by decide +kernel : ∀ d ∈ StrChars.Road.words, d ∈ tables_1) d hd)
  have go1 : ∀ tgt, Steps p.tables e below (s₁.setTop (mkF m 18 #[.val (.int p0), .val (.int p1), .val (.int p2), .val (.int (own_b0 p1)), .val (.int (own_b1 p1)), .val (.int (own_b2 p1)), .unset, .unset, .unset, .unset, .unset] [(.int (3 : Int32))])) tgt → Steps p.tables e below E0 tgt := fun tgt kont => go0 tgt (by
    show Steps p.tables e below (s₁.setTop (mkF m 0 #[.val (.int p0), .val (.int p1), .val (.int p2), .unset, .unset, .unset, .unset, .unset, .unset, .unset, .unset] [])) tgt
    refine XS.iloadN X0.here hx rfl (hb hby at_0) rfl ?_
    show Steps p.tables e below (s₁.setTop (mkF m 1 #[.val (.int p0), .val (.int p1), .val (.int p2), .unset, .unset, .unset, .unset, .unset, .unset, .unset, .unset] [(.int p1)])) tgt
    refine XS.i2b X0.here hx rfl (hb hby at_1) rfl ?_
    show Steps p.tables e below (s₁.setTop (mkF m 2 #[.val (.int p0), .val (.int p1), .val (.int p2), .unset, .unset, .unset, .unset, .unset, .unset, .unset, .unset] [(.int (own_b0 p1))])) tgt
    refine XS.istoreN X0.here hx rfl (hb hby at_2) rfl (l' := #[.val (.int p0), .val (.int p1), .val (.int p2), .val (.int (own_b0 p1)), .unset, .unset, .unset, .unset, .unset, .unset, .unset]) rfl ?_
    show Steps p.tables e below (s₁.setTop (mkF m 3 #[.val (.int p0), .val (.int p1), .val (.int p2), .val (.int (own_b0 p1)), .unset, .unset, .unset, .unset, .unset, .unset, .unset] [])) tgt
    refine XS.iloadN X0.here hx rfl (hb hby at_3) rfl ?_
    show Steps p.tables e below (s₁.setTop (mkF m 4 #[.val (.int p0), .val (.int p1), .val (.int p2), .val (.int (own_b0 p1)), .unset, .unset, .unset, .unset, .unset, .unset, .unset] [(.int p1)])) tgt
    refine XS.bipush X0.here hx rfl (hb hby at_4) ?_
    show Steps p.tables e below (s₁.setTop (mkF m 6 #[.val (.int p0), .val (.int p1), .val (.int p2), .val (.int (own_b0 p1)), .unset, .unset, .unset, .unset, .unset, .unset, .unset] [(.int (8 : Int32)), (.int p1)])) tgt
    refine XS.iushr X0.here hx rfl (hb hby at_6) rfl ?_
    show Steps p.tables e below (s₁.setTop (mkF m 7 #[.val (.int p0), .val (.int p1), .val (.int p2), .val (.int (own_b0 p1)), .unset, .unset, .unset, .unset, .unset, .unset, .unset] [(.int ((p1.toUInt32 >>> ((8 : Int32) &&& 31).toUInt32).toInt32))])) tgt
    refine XS.i2b X0.here hx rfl (hb hby at_7) rfl ?_
    show Steps p.tables e below (s₁.setTop (mkF m 8 #[.val (.int p0), .val (.int p1), .val (.int p2), .val (.int (own_b0 p1)), .unset, .unset, .unset, .unset, .unset, .unset, .unset] [(.int (own_b1 p1))])) tgt
    refine XS.istore X0.here hx rfl (hb hby at_8) rfl (l' := #[.val (.int p0), .val (.int p1), .val (.int p2), .val (.int (own_b0 p1)), .val (.int (own_b1 p1)), .unset, .unset, .unset, .unset, .unset, .unset]) rfl ?_
    show Steps p.tables e below (s₁.setTop (mkF m 10 #[.val (.int p0), .val (.int p1), .val (.int p2), .val (.int (own_b0 p1)), .val (.int (own_b1 p1)), .unset, .unset, .unset, .unset, .unset, .unset] [])) tgt
    refine XS.iloadN X0.here hx rfl (hb hby at_10) rfl ?_
    show Steps p.tables e below (s₁.setTop (mkF m 11 #[.val (.int p0), .val (.int p1), .val (.int p2), .val (.int (own_b0 p1)), .val (.int (own_b1 p1)), .unset, .unset, .unset, .unset, .unset, .unset] [(.int p1)])) tgt
    refine XS.bipush X0.here hx rfl (hb hby at_11) ?_
    show Steps p.tables e below (s₁.setTop (mkF m 13 #[.val (.int p0), .val (.int p1), .val (.int p2), .val (.int (own_b0 p1)), .val (.int (own_b1 p1)), .unset, .unset, .unset, .unset, .unset, .unset] [(.int (16 : Int32)), (.int p1)])) tgt
    refine XS.iushr X0.here hx rfl (hb hby at_13) rfl ?_
    show Steps p.tables e below (s₁.setTop (mkF m 14 #[.val (.int p0), .val (.int p1), .val (.int p2), .val (.int (own_b0 p1)), .val (.int (own_b1 p1)), .unset, .unset, .unset, .unset, .unset, .unset] [(.int ((p1.toUInt32 >>> ((16 : Int32) &&& 31).toUInt32).toInt32))])) tgt
    refine XS.i2b X0.here hx rfl (hb hby at_14) rfl ?_
    show Steps p.tables e below (s₁.setTop (mkF m 15 #[.val (.int p0), .val (.int p1), .val (.int p2), .val (.int (own_b0 p1)), .val (.int (own_b1 p1)), .unset, .unset, .unset, .unset, .unset, .unset] [(.int (own_b2 p1))])) tgt
    refine XS.istore X0.here hx rfl (hb hby at_15) rfl (l' := #[.val (.int p0), .val (.int p1), .val (.int p2), .val (.int (own_b0 p1)), .val (.int (own_b1 p1)), .val (.int (own_b2 p1)), .unset, .unset, .unset, .unset, .unset]) rfl ?_
    show Steps p.tables e below (s₁.setTop (mkF m 17 #[.val (.int p0), .val (.int p1), .val (.int p2), .val (.int (own_b0 p1)), .val (.int (own_b1 p1)), .val (.int (own_b2 p1)), .unset, .unset, .unset, .unset, .unset] [])) tgt
    refine XS.iconst X0.here hx rfl (hb hby at_17) ?_
    exact kont)
  obtain ⟨T2, h2, k2, X2, e2, E2, A2, B2, st2⟩ := newPE X0 hx hZ (hw _ (List.mem_of_getElem? (i := 0) rfl)) e0 (g := (mkF m 18 #[.val (.int p0), .val (.int p1), .val (.int p2), .val (.int (own_b0 p1)), .val (.int (own_b1 p1)), .val (.int (own_b2 p1)), .unset, .unset, .unset, .unset, .unset] [(.int (3 : Int32))])) rfl (hb hby at_18) rfl (by decide) (cap := 3) (by decide) (by decide) (by decide) (by decide) (ad := "[B") (by decide)
  obtain ⟨ba, g2⟩ : ∃ z, z = h0.size := ⟨_, rfl⟩
  rw [← g2] at A2 B2 st2
  have ge_ba : n0 ≤ ba := Nat.le_trans Z0 (Nat.le_of_eq g2.symm)
  have z3 : n0 ≤ h2.size := Nat.le_trans Z0 E2.1
  have V2 : Arv Z h2 ba k2 .byte (3 : Int32) [] (.int (0 : Int32)) := Arv.new A2 (by decide)
  have go2 : ∀ tgt, Steps p.tables e below (T2.setTop (mkF m 20 #[.val (.int p0), .val (.int p1), .val (.int p2), .val (.int (own_b0 p1)), .val (.int (own_b1 p1)), .val (.int (own_b2 p1)), .unset, .unset, .unset, .unset, .unset] [(.ref ba)])) tgt → Steps p.tables e below E0 tgt := fun tgt kont => go1 tgt (st2 tgt kont)
  have go4 : ∀ tgt, Steps p.tables e below (T2.setTop (mkF m 23 #[.val (.int p0), .val (.int p1), .val (.int p2), .val (.int (own_b0 p1)), .val (.int (own_b1 p1)), .val (.int (own_b2 p1)), .unset, .unset, .unset, .unset, .unset] [(.int (own_b0 p1)), (.int (0 : Int32)), (.ref ba), (.ref ba)])) tgt → Steps p.tables e below E0 tgt := fun tgt kont => go2 tgt (by
    show Steps p.tables e below (T2.setTop (mkF m 20 #[.val (.int p0), .val (.int p1), .val (.int p2), .val (.int (own_b0 p1)), .val (.int (own_b1 p1)), .val (.int (own_b2 p1)), .unset, .unset, .unset, .unset, .unset] [(.ref ba)])) tgt
    refine XS.dup X2.here hx rfl (hb hby at_20) rfl rfl ?_
    show Steps p.tables e below (T2.setTop (mkF m 21 #[.val (.int p0), .val (.int p1), .val (.int p2), .val (.int (own_b0 p1)), .val (.int (own_b1 p1)), .val (.int (own_b2 p1)), .unset, .unset, .unset, .unset, .unset] [(.ref ba), (.ref ba)])) tgt
    refine XS.iconst X2.here hx rfl (hb hby at_21) ?_
    show Steps p.tables e below (T2.setTop (mkF m 22 #[.val (.int p0), .val (.int p1), .val (.int p2), .val (.int (own_b0 p1)), .val (.int (own_b1 p1)), .val (.int (own_b2 p1)), .unset, .unset, .unset, .unset, .unset] [(.int (0 : Int32)), (.ref ba), (.ref ba)])) tgt
    refine XS.iloadN X2.here hx rfl (hb hby at_22) rfl ?_
    exact kont)
  have p5 : Arv Z h2 ba k2 .byte (3 : Int32) [(.int (0 : Int32))] (.int (0 : Int32)) := V2.pad (pad_rep [] (.int (0 : Int32)) 1)
  obtain ⟨c6, Ar6, q6, S6, M6, Hh6, G6⟩ := id p5
  obtain ⟨T6, h6, X6, e6, W6, st6⟩ := stB X2 hx hZ e2 Ar6 (j := (0 : Int32)) (inb_of S6 ⟨by decide, by decide⟩) (g := (mkF m 23 #[.val (.int p0), .val (.int p1), .val (.int p2), .val (.int (own_b0 p1)), .val (.int (own_b1 p1)), .val (.int (own_b2 p1)), .unset, .unset, .unset, .unset, .unset] [(.int (own_b0 p1)), (.int (0 : Int32)), (.ref ba), (.ref ba)])) rfl rfl (hb hby at_23)
  have z7 : n0 ≤ h6.size := Nat.le_trans z3 (Keep.of_wr W6).1
  have N6 := Fr.snoc X6 N0 ge_ba
  have f8 : Arv Z h6 ba k2 .byte (3 : Int32) [(.int (nar .byte (own_b0 p1)))] (.int (0 : Int32)) := Arv.set Ar6 q6 S6 M6 Hh6 G6 (fits_nar_byte _) W6 0 rfl (Nat.le_of_ble_eq_true rfl)
  have go6 : ∀ tgt, Steps p.tables e below (T6.setTop (mkF m 24 #[.val (.int p0), .val (.int p1), .val (.int p2), .val (.int (own_b0 p1)), .val (.int (own_b1 p1)), .val (.int (own_b2 p1)), .unset, .unset, .unset, .unset, .unset] [(.ref ba)])) tgt → Steps p.tables e below E0 tgt := fun tgt kont => go4 tgt (st6 tgt kont)
  have go9 : ∀ tgt, Steps p.tables e below (T6.setTop (mkF m 28 #[.val (.int p0), .val (.int p1), .val (.int p2), .val (.int (own_b0 p1)), .val (.int (own_b1 p1)), .val (.int (own_b2 p1)), .unset, .unset, .unset, .unset, .unset] [(.int (own_b1 p1)), (.int (1 : Int32)), (.ref ba), (.ref ba)])) tgt → Steps p.tables e below E0 tgt := fun tgt kont => go6 tgt (by
    show Steps p.tables e below (T6.setTop (mkF m 24 #[.val (.int p0), .val (.int p1), .val (.int p2), .val (.int (own_b0 p1)), .val (.int (own_b1 p1)), .val (.int (own_b2 p1)), .unset, .unset, .unset, .unset, .unset] [(.ref ba)])) tgt
    refine XS.dup X6.here hx rfl (hb hby at_24) rfl rfl ?_
    show Steps p.tables e below (T6.setTop (mkF m 25 #[.val (.int p0), .val (.int p1), .val (.int p2), .val (.int (own_b0 p1)), .val (.int (own_b1 p1)), .val (.int (own_b2 p1)), .unset, .unset, .unset, .unset, .unset] [(.ref ba), (.ref ba)])) tgt
    refine XS.iconst X6.here hx rfl (hb hby at_25) ?_
    show Steps p.tables e below (T6.setTop (mkF m 26 #[.val (.int p0), .val (.int p1), .val (.int p2), .val (.int (own_b0 p1)), .val (.int (own_b1 p1)), .val (.int (own_b2 p1)), .unset, .unset, .unset, .unset, .unset] [(.int (1 : Int32)), (.ref ba), (.ref ba)])) tgt
    refine XS.iload X6.here hx rfl (hb hby at_26) rfl ?_
    exact kont)
  have p10 : Arv Z h6 ba k2 .byte (3 : Int32) [(.int (nar .byte (own_b0 p1))), (.int (0 : Int32))] (.int (0 : Int32)) := f8.pad (pad_rep [(.int (nar .byte (own_b0 p1)))] (.int (0 : Int32)) 1)
  obtain ⟨c11, Ar11, q11, S11, M11, Hh11, G11⟩ := id p10
  obtain ⟨T11, h11, X11, e11, W11, st11⟩ := stB X6 hx hZ e6 Ar11 (j := (1 : Int32)) (inb_of S11 ⟨by decide, by decide⟩) (g := (mkF m 28 #[.val (.int p0), .val (.int p1), .val (.int p2), .val (.int (own_b0 p1)), .val (.int (own_b1 p1)), .val (.int (own_b2 p1)), .unset, .unset, .unset, .unset, .unset] [(.int (own_b1 p1)), (.int (1 : Int32)), (.ref ba), (.ref ba)])) rfl rfl (hb hby at_28)
  have z12 : n0 ≤ h11.size := Nat.le_trans z7 (Keep.of_wr W11).1
  have N11 := Fr.snoc X11 N6 ge_ba
  have f13 : Arv Z h11 ba k2 .byte (3 : Int32) [(.int (nar .byte (own_b0 p1))), (.int (nar .byte (own_b1 p1)))] (.int (0 : Int32)) := Arv.set Ar11 q11 S11 M11 Hh11 G11 (fits_nar_byte _) W11 1 rfl (Nat.le_of_ble_eq_true rfl)
  have go11 : ∀ tgt, Steps p.tables e below (T11.setTop (mkF m 29 #[.val (.int p0), .val (.int p1), .val (.int p2), .val (.int (own_b0 p1)), .val (.int (own_b1 p1)), .val (.int (own_b2 p1)), .unset, .unset, .unset, .unset, .unset] [(.ref ba)])) tgt → Steps p.tables e below E0 tgt := fun tgt kont => go9 tgt (st11 tgt kont)
  have go14 : ∀ tgt, Steps p.tables e below (T11.setTop (mkF m 33 #[.val (.int p0), .val (.int p1), .val (.int p2), .val (.int (own_b0 p1)), .val (.int (own_b1 p1)), .val (.int (own_b2 p1)), .unset, .unset, .unset, .unset, .unset] [(.int (own_b2 p1)), (.int (2 : Int32)), (.ref ba), (.ref ba)])) tgt → Steps p.tables e below E0 tgt := fun tgt kont => go11 tgt (by
    show Steps p.tables e below (T11.setTop (mkF m 29 #[.val (.int p0), .val (.int p1), .val (.int p2), .val (.int (own_b0 p1)), .val (.int (own_b1 p1)), .val (.int (own_b2 p1)), .unset, .unset, .unset, .unset, .unset] [(.ref ba)])) tgt
    refine XS.dup X11.here hx rfl (hb hby at_29) rfl rfl ?_
    show Steps p.tables e below (T11.setTop (mkF m 30 #[.val (.int p0), .val (.int p1), .val (.int p2), .val (.int (own_b0 p1)), .val (.int (own_b1 p1)), .val (.int (own_b2 p1)), .unset, .unset, .unset, .unset, .unset] [(.ref ba), (.ref ba)])) tgt
    refine XS.iconst X11.here hx rfl (hb hby at_30) ?_
    show Steps p.tables e below (T11.setTop (mkF m 31 #[.val (.int p0), .val (.int p1), .val (.int p2), .val (.int (own_b0 p1)), .val (.int (own_b1 p1)), .val (.int (own_b2 p1)), .unset, .unset, .unset, .unset, .unset] [(.int (2 : Int32)), (.ref ba), (.ref ba)])) tgt
    refine XS.iload X11.here hx rfl (hb hby at_31) rfl ?_
    exact kont)
  have p15 : Arv Z h11 ba k2 .byte (3 : Int32) [(.int (nar .byte (own_b0 p1))), (.int (nar .byte (own_b1 p1))), (.int (0 : Int32))] (.int (0 : Int32)) := f13.pad (pad_rep [(.int (nar .byte (own_b0 p1))), (.int (nar .byte (own_b1 p1)))] (.int (0 : Int32)) 1)
  obtain ⟨c16, Ar16, q16, S16, M16, Hh16, G16⟩ := id p15
  obtain ⟨T16, h16, X16, e16, W16, st16⟩ := stB X11 hx hZ e11 Ar16 (j := (2 : Int32)) (inb_of S16 ⟨by decide, by decide⟩) (g := (mkF m 33 #[.val (.int p0), .val (.int p1), .val (.int p2), .val (.int (own_b0 p1)), .val (.int (own_b1 p1)), .val (.int (own_b2 p1)), .unset, .unset, .unset, .unset, .unset] [(.int (own_b2 p1)), (.int (2 : Int32)), (.ref ba), (.ref ba)])) rfl rfl (hb hby at_33)
  have z17 : n0 ≤ h16.size := Nat.le_trans z12 (Keep.of_wr W16).1
  have N16 := Fr.snoc X16 N11 ge_ba
  have f18 : Arv Z h16 ba k2 .byte (3 : Int32) [(.int (nar .byte (own_b0 p1))), (.int (nar .byte (own_b1 p1))), (.int (nar .byte (own_b2 p1)))] (.int (0 : Int32)) := Arv.set Ar16 q16 S16 M16 Hh16 G16 (fits_nar_byte _) W16 2 rfl (Nat.le_of_ble_eq_true rfl)
  have go16 : ∀ tgt, Steps p.tables e below (T16.setTop (mkF m 34 #[.val (.int p0), .val (.int p1), .val (.int p2), .val (.int (own_b0 p1)), .val (.int (own_b1 p1)), .val (.int (own_b2 p1)), .unset, .unset, .unset, .unset, .unset] [(.ref ba)])) tgt → Steps p.tables e below E0 tgt := fun tgt kont => go14 tgt (st16 tgt kont)
  have go19 : ∀ tgt, Steps p.tables e below (T16.setTop (mkF m 37 #[.val (.int p0), .val (.int p1), .val (.int p2), .val (.int (own_b0 p1)), .val (.int (own_b1 p1)), .val (.int (own_b2 p1)), .val (.ref ba), .unset, .unset, .unset, .unset] [(.int (2 : Int32))])) tgt → Steps p.tables e below E0 tgt := fun tgt kont => go16 tgt (by
    show Steps p.tables e below (T16.setTop (mkF m 34 #[.val (.int p0), .val (.int p1), .val (.int p2), .val (.int (own_b0 p1)), .val (.int (own_b1 p1)), .val (.int (own_b2 p1)), .unset, .unset, .unset, .unset, .unset] [(.ref ba)])) tgt
    refine XS.astore X16.here hx rfl (hb hby at_34) rfl rfl (l' := #[.val (.int p0), .val (.int p1), .val (.int p2), .val (.int (own_b0 p1)), .val (.int (own_b1 p1)), .val (.int (own_b2 p1)), .val (.ref ba), .unset, .unset, .unset, .unset]) rfl ?_
    show Steps p.tables e below (T16.setTop (mkF m 36 #[.val (.int p0), .val (.int p1), .val (.int p2), .val (.int (own_b0 p1)), .val (.int (own_b1 p1)), .val (.int (own_b2 p1)), .val (.ref ba), .unset, .unset, .unset, .unset] [])) tgt
    refine XS.iconst X16.here hx rfl (hb hby at_36) ?_
    exact kont)
  obtain ⟨T20, h20, k20, X20, e20, E20, A20, st20⟩ := newP X16 hx hZ (hw _ (List.mem_of_getElem? (i := 1) rfl)) e16 (g := (mkF m 37 #[.val (.int p0), .val (.int p1), .val (.int p2), .val (.int (own_b0 p1)), .val (.int (own_b1 p1)), .val (.int (own_b2 p1)), .val (.ref ba), .unset, .unset, .unset, .unset] [(.int (2 : Int32))])) rfl (hb hby at_37) rfl (by decide) (cap := 2) (by decide) (by decide) (by decide) (by decide)
  obtain ⟨ca, g20⟩ : ∃ z, z = h16.size := ⟨_, rfl⟩
  rw [← g20] at A20 st20
  have ne_ba_ca : ba ≠ ca := Nat.ne_of_lt (Nat.lt_of_lt_of_le (Nat.lt_of_lt_of_le V2.lt (Nat.le_trans (Nat.le_trans (Keep.of_wr W6).1 (Keep.of_wr W11).1) (Keep.of_wr W16).1)) (Nat.le_of_eq g20.symm))
  have ge_ca : n0 ≤ ca := Nat.le_trans z17 (Nat.le_of_eq g20.symm)
  have z21 : n0 ≤ h20.size := Nat.le_trans z17 E20.1
  have V20 : Arv Z h20 ca k20 .char (2 : Int32) [] (.int (0 : Int32)) := Arv.new A20 (by decide)
  have go20 : ∀ tgt, Steps p.tables e below (T20.setTop (mkF m 39 #[.val (.int p0), .val (.int p1), .val (.int p2), .val (.int (own_b0 p1)), .val (.int (own_b1 p1)), .val (.int (own_b2 p1)), .val (.ref ba), .unset, .unset, .unset, .unset] [(.ref ca)])) tgt → Steps p.tables e below E0 tgt := fun tgt kont => go19 tgt (st20 tgt kont)
  have go22 : ∀ tgt, Steps p.tables e below (T20.setTop (mkF m 47 #[.val (.int p0), .val (.int p1), .val (.int p2), .val (.int (own_b0 p1)), .val (.int (own_b1 p1)), .val (.int (own_b2 p1)), .val (.ref ba), .unset, .unset, .unset, .unset] [(.int ((p2 &&& (255 : Int32)).toUInt32.toUInt16.toUInt32.toInt32)), (.int (0 : Int32)), (.ref ca), (.ref ca)])) tgt → Steps p.tables e below E0 tgt := fun tgt kont => go20 tgt (by
    show Steps p.tables e below (T20.setTop (mkF m 39 #[.val (.int p0), .val (.int p1), .val (.int p2), .val (.int (own_b0 p1)), .val (.int (own_b1 p1)), .val (.int (own_b2 p1)), .val (.ref ba), .unset, .unset, .unset, .unset] [(.ref ca)])) tgt
    refine XS.dup X20.here hx rfl (hb hby at_39) rfl rfl ?_
    show Steps p.tables e below (T20.setTop (mkF m 40 #[.val (.int p0), .val (.int p1), .val (.int p2), .val (.int (own_b0 p1)), .val (.int (own_b1 p1)), .val (.int (own_b2 p1)), .val (.ref ba), .unset, .unset, .unset, .unset] [(.ref ca), (.ref ca)])) tgt
    refine XS.iconst X20.here hx rfl (hb hby at_40) ?_
    show Steps p.tables e below (T20.setTop (mkF m 41 #[.val (.int p0), .val (.int p1), .val (.int p2), .val (.int (own_b0 p1)), .val (.int (own_b1 p1)), .val (.int (own_b2 p1)), .val (.ref ba), .unset, .unset, .unset, .unset] [(.int (0 : Int32)), (.ref ca), (.ref ca)])) tgt
    refine XS.iloadN X20.here hx rfl (hb hby at_41) rfl ?_
    show Steps p.tables e below (T20.setTop (mkF m 42 #[.val (.int p0), .val (.int p1), .val (.int p2), .val (.int (own_b0 p1)), .val (.int (own_b1 p1)), .val (.int (own_b2 p1)), .val (.ref ba), .unset, .unset, .unset, .unset] [(.int p2), (.int (0 : Int32)), (.ref ca), (.ref ca)])) tgt
    refine XS.sipush X20.here hx rfl (hb hby at_42) ?_
    show Steps p.tables e below (T20.setTop (mkF m 45 #[.val (.int p0), .val (.int p1), .val (.int p2), .val (.int (own_b0 p1)), .val (.int (own_b1 p1)), .val (.int (own_b2 p1)), .val (.ref ba), .unset, .unset, .unset, .unset] [(.int (255 : Int32)), (.int p2), (.int (0 : Int32)), (.ref ca), (.ref ca)])) tgt
    refine XS.iand X20.here hx rfl (hb hby at_45) rfl ?_
    show Steps p.tables e below (T20.setTop (mkF m 46 #[.val (.int p0), .val (.int p1), .val (.int p2), .val (.int (own_b0 p1)), .val (.int (own_b1 p1)), .val (.int (own_b2 p1)), .val (.ref ba), .unset, .unset, .unset, .unset] [(.int (p2 &&& (255 : Int32))), (.int (0 : Int32)), (.ref ca), (.ref ca)])) tgt
    refine XS.i2c X20.here hx rfl (hb hby at_46) rfl ?_
    exact kont)
  have p23 : Arv Z h20 ca k20 .char (2 : Int32) [(.int (0 : Int32))] (.int (0 : Int32)) := V20.pad (pad_rep [] (.int (0 : Int32)) 1)
  obtain ⟨c24, Ar24, q24, S24, M24, Hh24, G24⟩ := id p23
  obtain ⟨T24, h24, X24, e24, W24, st24⟩ := stC X20 hx hZ e20 Ar24 (j := (0 : Int32)) (inb_of S24 ⟨by decide, by decide⟩) (g := (mkF m 47 #[.val (.int p0), .val (.int p1), .val (.int p2), .val (.int (own_b0 p1)), .val (.int (own_b1 p1)), .val (.int (own_b2 p1)), .val (.ref ba), .unset, .unset, .unset, .unset] [(.int ((p2 &&& (255 : Int32)).toUInt32.toUInt16.toUInt32.toInt32)), (.int (0 : Int32)), (.ref ca), (.ref ca)])) rfl rfl (hb hby at_47)
  have z25 : n0 ≤ h24.size := Nat.le_trans z21 (Keep.of_wr W24).1
  have N24 := Fr.snoc X24 N16 ge_ca
  have f26 : Arv Z h24 ca k20 .char (2 : Int32) [(.int (nar .char ((p2 &&& (255 : Int32)).toUInt32.toUInt16.toUInt32.toInt32)))] (.int (0 : Int32)) := Arv.set Ar24 q24 S24 M24 Hh24 G24 (fits_nar_char _) W24 0 rfl (Nat.le_of_ble_eq_true rfl)
  have go24 : ∀ tgt, Steps p.tables e below (T24.setTop (mkF m 48 #[.val (.int p0), .val (.int p1), .val (.int p2), .val (.int (own_b0 p1)), .val (.int (own_b1 p1)), .val (.int (own_b2 p1)), .val (.ref ba), .unset, .unset, .unset, .unset] [(.ref ca)])) tgt → Steps p.tables e below E0 tgt := fun tgt kont => go22 tgt (st24 tgt kont)
  have go27 : ∀ tgt, Steps p.tables e below (T24.setTop (mkF m 59 #[.val (.int p0), .val (.int p1), .val (.int p2), .val (.int (own_b0 p1)), .val (.int (own_b1 p1)), .val (.int (own_b2 p1)), .val (.ref ba), .unset, .unset, .unset, .unset] [(.int ((((p2.toUInt32 >>> ((8 : Int32) &&& 31).toUInt32).toInt32) &&& (255 : Int32)).toUInt32.toUInt16.toUInt32.toInt32)), (.int (1 : Int32)), (.ref ca), (.ref ca)])) tgt → Steps p.tables e below E0 tgt := fun tgt kont => go24 tgt (by
    show Steps p.tables e below (T24.setTop (mkF m 48 #[.val (.int p0), .val (.int p1), .val (.int p2), .val (.int (own_b0 p1)), .val (.int (own_b1 p1)), .val (.int (own_b2 p1)), .val (.ref ba), .unset, .unset, .unset, .unset] [(.ref ca)])) tgt
    refine XS.dup X24.here hx rfl (hb hby at_48) rfl rfl ?_
    show Steps p.tables e below (T24.setTop (mkF m 49 #[.val (.int p0), .val (.int p1), .val (.int p2), .val (.int (own_b0 p1)), .val (.int (own_b1 p1)), .val (.int (own_b2 p1)), .val (.ref ba), .unset, .unset, .unset, .unset] [(.ref ca), (.ref ca)])) tgt
    refine XS.iconst X24.here hx rfl (hb hby at_49) ?_
    show Steps p.tables e below (T24.setTop (mkF m 50 #[.val (.int p0), .val (.int p1), .val (.int p2), .val (.int (own_b0 p1)), .val (.int (own_b1 p1)), .val (.int (own_b2 p1)), .val (.ref ba), .unset, .unset, .unset, .unset] [(.int (1 : Int32)), (.ref ca), (.ref ca)])) tgt
    refine XS.iloadN X24.here hx rfl (hb hby at_50) rfl ?_
    show Steps p.tables e below (T24.setTop (mkF m 51 #[.val (.int p0), .val (.int p1), .val (.int p2), .val (.int (own_b0 p1)), .val (.int (own_b1 p1)), .val (.int (own_b2 p1)), .val (.ref ba), .unset, .unset, .unset, .unset] [(.int p2), (.int (1 : Int32)), (.ref ca), (.ref ca)])) tgt
    refine XS.bipush X24.here hx rfl (hb hby at_51) ?_
    show Steps p.tables e below (T24.setTop (mkF m 53 #[.val (.int p0), .val (.int p1), .val (.int p2), .val (.int (own_b0 p1)), .val (.int (own_b1 p1)), .val (.int (own_b2 p1)), .val (.ref ba), .unset, .unset, .unset, .unset] [(.int (8 : Int32)), (.int p2), (.int (1 : Int32)), (.ref ca), (.ref ca)])) tgt
    refine XS.iushr X24.here hx rfl (hb hby at_53) rfl ?_
    show Steps p.tables e below (T24.setTop (mkF m 54 #[.val (.int p0), .val (.int p1), .val (.int p2), .val (.int (own_b0 p1)), .val (.int (own_b1 p1)), .val (.int (own_b2 p1)), .val (.ref ba), .unset, .unset, .unset, .unset] [(.int ((p2.toUInt32 >>> ((8 : Int32) &&& 31).toUInt32).toInt32)), (.int (1 : Int32)), (.ref ca), (.ref ca)])) tgt
    refine XS.sipush X24.here hx rfl (hb hby at_54) ?_
    show Steps p.tables e below (T24.setTop (mkF m 57 #[.val (.int p0), .val (.int p1), .val (.int p2), .val (.int (own_b0 p1)), .val (.int (own_b1 p1)), .val (.int (own_b2 p1)), .val (.ref ba), .unset, .unset, .unset, .unset] [(.int (255 : Int32)), (.int ((p2.toUInt32 >>> ((8 : Int32) &&& 31).toUInt32).toInt32)), (.int (1 : Int32)), (.ref ca), (.ref ca)])) tgt
    refine XS.iand X24.here hx rfl (hb hby at_57) rfl ?_
    show Steps p.tables e below (T24.setTop (mkF m 58 #[.val (.int p0), .val (.int p1), .val (.int p2), .val (.int (own_b0 p1)), .val (.int (own_b1 p1)), .val (.int (own_b2 p1)), .val (.ref ba), .unset, .unset, .unset, .unset] [(.int (((p2.toUInt32 >>> ((8 : Int32) &&& 31).toUInt32).toInt32) &&& (255 : Int32))), (.int (1 : Int32)), (.ref ca), (.ref ca)])) tgt
    refine XS.i2c X24.here hx rfl (hb hby at_58) rfl ?_
    exact kont)
  have p28 : Arv Z h24 ca k20 .char (2 : Int32) [(.int (nar .char ((p2 &&& (255 : Int32)).toUInt32.toUInt16.toUInt32.toInt32))), (.int (0 : Int32))] (.int (0 : Int32)) := f26.pad (pad_rep [(.int (nar .char ((p2 &&& (255 : Int32)).toUInt32.toUInt16.toUInt32.toInt32)))] (.int (0 : Int32)) 1)
  obtain ⟨c29, Ar29, q29, S29, M29, Hh29, G29⟩ := id p28
  obtain ⟨T29, h29, X29, e29, W29, st29⟩ := stC X24 hx hZ e24 Ar29 (j := (1 : Int32)) (inb_of S29 ⟨by decide, by decide⟩) (g := (mkF m 59 #[.val (.int p0), .val (.int p1), .val (.int p2), .val (.int (own_b0 p1)), .val (.int (own_b1 p1)), .val (.int (own_b2 p1)), .val (.ref ba), .unset, .unset, .unset, .unset] [(.int ((((p2.toUInt32 >>> ((8 : Int32) &&& 31).toUInt32).toInt32) &&& (255 : Int32)).toUInt32.toUInt16.toUInt32.toInt32)), (.int (1 : Int32)), (.ref ca), (.ref ca)])) rfl rfl (hb hby at_59)
  have z30 : n0 ≤ h29.size := Nat.le_trans z25 (Keep.of_wr W29).1
  have N29 := Fr.snoc X29 N24 ge_ca
  have f31 : Arv Z h29 ca k20 .char (2 : Int32) [(.int (nar .char ((p2 &&& (255 : Int32)).toUInt32.toUInt16.toUInt32.toInt32))), (.int (nar .char ((((p2.toUInt32 >>> ((8 : Int32) &&& 31).toUInt32).toInt32) &&& (255 : Int32)).toUInt32.toUInt16.toUInt32.toInt32)))] (.int (0 : Int32)) := Arv.set Ar29 q29 S29 M29 Hh29 G29 (fits_nar_char _) W29 1 rfl (Nat.le_of_ble_eq_true rfl)
  have go29 : ∀ tgt, Steps p.tables e below (T29.setTop (mkF m 60 #[.val (.int p0), .val (.int p1), .val (.int p2), .val (.int (own_b0 p1)), .val (.int (own_b1 p1)), .val (.int (own_b2 p1)), .val (.ref ba), .unset, .unset, .unset, .unset] [(.ref ca)])) tgt → Steps p.tables e below E0 tgt := fun tgt kont => go27 tgt (st29 tgt kont)
  have go32 : ∀ tgt, Steps p.tables e below (T29.setTop (mkF m 62 #[.val (.int p0), .val (.int p1), .val (.int p2), .val (.int (own_b0 p1)), .val (.int (own_b1 p1)), .val (.int (own_b2 p1)), .val (.ref ba), .val (.ref ca), .unset, .unset, .unset] [])) tgt → Steps p.tables e below E0 tgt := fun tgt kont => go29 tgt (by
    show Steps p.tables e below (T29.setTop (mkF m 60 #[.val (.int p0), .val (.int p1), .val (.int p2), .val (.int (own_b0 p1)), .val (.int (own_b1 p1)), .val (.int (own_b2 p1)), .val (.ref ba), .unset, .unset, .unset, .unset] [(.ref ca)])) tgt
    refine XS.astore X29.here hx rfl (hb hby at_60) rfl rfl (l' := #[.val (.int p0), .val (.int p1), .val (.int p2), .val (.int (own_b0 p1)), .val (.int (own_b1 p1)), .val (.int (own_b2 p1)), .val (.ref ba), .val (.ref ca), .unset, .unset, .unset]) rfl ?_
    exact kont)
  obtain ⟨T33, h33, X33, e33, E33, A33, D33, -, st33⟩ := newO X29 hx hZ hown (hw _ (List.mem_of_getElem? (i := 2) rfl)) (hw _ (List.mem_of_getElem? (i := 3) rfl)) (hw _ (List.mem_of_getElem? (i := 4) rfl)) e29 (g := (mkF m 62 #[.val (.int p0), .val (.int p1), .val (.int p2), .val (.int (own_b0 p1)), .val (.int (own_b1 p1)), .val (.int (own_b2 p1)), .val (.ref ba), .val (.ref ca), .unset, .unset, .unset] [])) rfl (hb hby at_62) (by decide) (by decide)
  obtain ⟨st, g33⟩ : ∃ z, z = h29.size := ⟨_, rfl⟩
  rw [← g33] at A33 D33 st33
  have ne_ba_st : ba ≠ st := Nat.ne_of_lt (Nat.lt_of_lt_of_le (Nat.lt_of_lt_of_le V2.lt (Nat.le_trans (Nat.le_trans (Nat.le_trans (Nat.le_trans (Nat.le_trans (Keep.of_wr W6).1 (Keep.of_wr W11).1) (Keep.of_wr W16).1) E20.1) (Keep.of_wr W24).1) (Keep.of_wr W29).1)) (Nat.le_of_eq g33.symm))
  have ne_ca_st : ca ≠ st := Nat.ne_of_lt (Nat.lt_of_lt_of_le (Nat.lt_of_lt_of_le V20.lt (Nat.le_trans (Keep.of_wr W24).1 (Keep.of_wr W29).1)) (Nat.le_of_eq g33.symm))
  have ge_st : n0 ≤ st := Nat.le_trans z30 (Nat.le_of_eq g33.symm)
  have z34 : n0 ≤ h33.size := Nat.le_trans z30 E33.1
  have Fcoder_st : Fld Z h33 st "java/lang/String" "coder" "B" (.int (0 : Int32)) := D33 (Or.inr (hw _ (List.mem_of_getElem? (i := 27) rfl))) (ty := .byte) (by decide)
  have Fvalue_st : Fld Z h33 st "java/lang/String" "value" "[B" .null := D33 (Or.inr (hw _ (List.mem_of_getElem? (i := 29) rfl))) (ty := (.array .byte)) (by decide)
  have go33 : ∀ tgt, Steps p.tables e below (T33.setTop (mkF m 65 #[.val (.int p0), .val (.int p1), .val (.int p2), .val (.int (own_b0 p1)), .val (.int (own_b1 p1)), .val (.int (own_b2 p1)), .val (.ref ba), .val (.ref ca), .unset, .unset, .unset] [(.ref st)])) tgt → Steps p.tables e below E0 tgt := fun tgt kont => go32 tgt (st33 tgt kont)
  have hp : ∀ c ∈ ([(nar .char ((p2 &&& (255 : Int32)).toUInt32.toUInt16.toUInt32.toInt32)), (nar .char ((((p2.toUInt32 >>> ((8 : Int32) &&& 31).toUInt32).toInt32) &&& (255 : Int32)).toUInt32.toUInt16.toUInt32.toInt32))] : List Int32), ¬ c < 0 ∧ ¬ (255 : Int32) < c := by
    intro c hc
    simp only [List.mem_cons, List.not_mem_nil, or_false] at hc
    rcases hc with rfl | rfl
    · exact own_c255 _
    · exact own_c255 _
  have f35 : Old Z n0 h33 := ((((((((O0.ext E2).wr W6 ge_ba).wr W11 ge_ba).wr W16 ge_ba).ext E20).wr W24 ge_ca).wr W29 ge_ca).ext E33)
  have go36 : ∀ tgt, Steps p.tables e below (T33.setTop (mkF m 68 #[.val (.int p0), .val (.int p1), .val (.int p2), .val (.int (own_b0 p1)), .val (.int (own_b1 p1)), .val (.int (own_b2 p1)), .val (.ref ba), .val (.ref ca), .unset, .unset, .unset] [(.ref ca), (.ref st), (.ref st)])) tgt → Steps p.tables e below E0 tgt := fun tgt kont => go33 tgt (by
    show Steps p.tables e below (T33.setTop (mkF m 65 #[.val (.int p0), .val (.int p1), .val (.int p2), .val (.int (own_b0 p1)), .val (.int (own_b1 p1)), .val (.int (own_b2 p1)), .val (.ref ba), .val (.ref ca), .unset, .unset, .unset] [(.ref st)])) tgt
    refine XS.dup X33.here hx rfl (hb hby at_65) rfl rfl ?_
    show Steps p.tables e below (T33.setTop (mkF m 66 #[.val (.int p0), .val (.int p1), .val (.int p2), .val (.int (own_b0 p1)), .val (.int (own_b1 p1)), .val (.int (own_b2 p1)), .val (.ref ba), .val (.ref ca), .unset, .unset, .unset] [(.ref st), (.ref st)])) tgt
    refine XS.aload X33.here hx rfl (hb hby at_66) rfl rfl ?_
    exact kont)
  have f37 : Arv Z h33 ca k20 .char (2 : Int32) [(.int (nar .char ((p2 &&& (255 : Int32)).toUInt32.toUInt16.toUInt32.toInt32))), (.int (nar .char ((((p2.toUInt32 >>> ((8 : Int32) &&& 31).toUInt32).toInt32) &&& (255 : Int32)).toUInt32.toUInt16.toUInt32.toInt32)))] (.int (0 : Int32)) := (f31.ext E33)
  obtain ⟨_, _, ⟨T38, L38, k38, n38⟩, -, X38, ⟨Lc38, hQ38, l38, y38, z38⟩, st38⟩ := X33.specialBack hx (y := (⟨"java/lang/String", "<init>", "([C)V"⟩ : MethodName)) rfl hown (mvT hZ (hw _ (List.mem_of_getElem? (i := 5) rfl))) (mvT hZ (hw _ (List.mem_of_getElem? (i := 6) rfl))) (mvT hZ (hw _ (List.mem_of_getElem? (i := 7) rfl))) (by decide) (StrChars.Road.backV (W := 1) hZ hws (kI := 4) (hw _ (List.mem_of_getElem? (i := 3) rfl)) (cs := ([(nar .char ((p2 &&& (255 : Int32)).toUInt32.toUInt16.toUInt32.toInt32)), (nar .char ((((p2.toUInt32 >>> ((8 : Int32) &&& 31).toUInt32).toInt32) &&& (255 : Int32)).toUInt32.toUInt16.toUInt32.toInt32))] : List Int32)) (bs := ([(nar .char ((p2 &&& (255 : Int32)).toUInt32.toUInt16.toUInt32.toInt32)), (nar .char ((((p2.toUInt32 >>> ((8 : Int32) &&& 31).toUInt32).toInt32) &&& (255 : Int32)).toUInt32.toUInt16.toUInt32.toInt32))] : List Int32).map (fun c => c.toInt8.toInt32)) (n := 2) ge_st z34 A33 Fvalue_st Fcoder_st f37 (SC.ext f35.2) hG rfl rfl (by decide) (by decide) hp rfl (by decide) (by decide)) (g := (mkF m 68 #[.val (.int p0), .val (.int p1), .val (.int p2), .val (.int (own_b0 p1)), .val (.int (own_b1 p1)), .val (.int (own_b2 p1)), .val (.ref ba), .val (.ref ca), .unset, .unset, .unset] [(.ref ca), (.ref st), (.ref st)])) rfl (by rw [hml]; rfl) (Steps.refl _) (a := st) (argsL := [(.ref ca)]) (rest := [(.ref st)]) (lenOf pd_5 rfl) rfl (by show 2 * 0 + _ ≤ _; exact Nat.le_of_eq rfl) (hb hby at_68) (fun _ _ => ⟨rfl, e33, (by decide : 3 + 1 ≤ _), (by decide : 9 + 2 ≤ _)⟩)
  dsimp only [Pt.U, Pt.locs, Pt.cells, Pt.slots] at X38 l38 y38 z38 st38 hQ38
  subst l38 y38 z38
  obtain ⟨rfl, N38q, KS, ES, FcS, tS, kbS, gtS, ztS, ntS, FvS, AvS⟩ := hQ38
  have N38 := Fr.app N29 N38q
  have z39 : n0 ≤ T38.heap.size := Nat.le_trans z34 KS.1
  have go38 : ∀ tgt, Steps p.tables e below (T38.setTop (mkF m 71 #[.val (.int p0), .val (.int p1), .val (.int p2), .val (.int (own_b0 p1)), .val (.int (own_b1 p1)), .val (.int (own_b2 p1)), .val (.ref ba), .val (.ref ca), .unset, .unset, .unset] [(.ref st)])) tgt → Steps p.tables e below E0 tgt := fun tgt kont => go36 tgt (st38.trans kont)
  have ne_ba_tS : ba ≠ tS := Nat.ne_of_lt (Nat.lt_of_lt_of_le (Nat.lt_of_lt_of_le V2.lt (Nat.le_trans (Nat.le_trans (Nat.le_trans (Nat.le_trans (Nat.le_trans (Nat.le_trans (Keep.of_wr W6).1 (Keep.of_wr W11).1) (Keep.of_wr W16).1) E20.1) (Keep.of_wr W24).1) (Keep.of_wr W29).1) E33.1)) ztS)
  have ne_ca_tS : ca ≠ tS := Nat.ne_of_lt (Nat.lt_of_lt_of_le (Nat.lt_of_lt_of_le V20.lt (Nat.le_trans (Nat.le_trans (Keep.of_wr W24).1 (Keep.of_wr W29).1) E33.1)) ztS)
  have lt_st_tS : st < tS := Nat.lt_of_lt_of_le A33.lt ztS
  have f40 : Exa Z T38.heap ba "[B" := ((((((((B2.wr W6).wr W11).wr W16).ext E20).wr W24).wr W29).ext E33).keep KS)
  have f41 : Arv Z T38.heap ba k2 .byte (3 : Int32) [(.int (nar .byte (own_b0 p1))), (.int (nar .byte (own_b1 p1))), (.int (nar .byte (own_b2 p1)))] (.int (0 : Int32)) := (((((f18.ext E20).other W24 ne_ba_ca).other W29 ne_ba_ca).ext E33).keep KS (ninS ne_ba_st nin0))
  have f42 : Old Z n0 T38.heap := (f35.keep KS (allS ge_st all0))
  have go43 : ∀ tgt, Steps p.tables e below (T38.setTop (mkF m 78 #[.val (.int p0), .val (.int p1), .val (.int p2), .val (.int (own_b0 p1)), .val (.int (own_b1 p1)), .val (.int (own_b2 p1)), .val (.ref ba), .val (.ref ca), .val (.ref st), .unset, .unset] [(.ref ba), (.ref st), (.int p0)])) tgt → Steps p.tables e below E0 tgt := fun tgt kont => go38 tgt (by
    show Steps p.tables e below (T38.setTop (mkF m 71 #[.val (.int p0), .val (.int p1), .val (.int p2), .val (.int (own_b0 p1)), .val (.int (own_b1 p1)), .val (.int (own_b2 p1)), .val (.ref ba), .val (.ref ca), .unset, .unset, .unset] [(.ref st)])) tgt
    refine XS.astore X38.here hx rfl (hb hby at_71) rfl rfl (l' := #[.val (.int p0), .val (.int p1), .val (.int p2), .val (.int (own_b0 p1)), .val (.int (own_b1 p1)), .val (.int (own_b2 p1)), .val (.ref ba), .val (.ref ca), .val (.ref st), .unset, .unset]) rfl ?_
    show Steps p.tables e below (T38.setTop (mkF m 73 #[.val (.int p0), .val (.int p1), .val (.int p2), .val (.int (own_b0 p1)), .val (.int (own_b1 p1)), .val (.int (own_b2 p1)), .val (.ref ba), .val (.ref ca), .val (.ref st), .unset, .unset] [])) tgt
    refine XS.iloadN X38.here hx rfl (hb hby at_73) rfl ?_
    show Steps p.tables e below (T38.setTop (mkF m 74 #[.val (.int p0), .val (.int p1), .val (.int p2), .val (.int (own_b0 p1)), .val (.int (own_b1 p1)), .val (.int (own_b2 p1)), .val (.ref ba), .val (.ref ca), .val (.ref st), .unset, .unset] [(.int p0)])) tgt
    refine XS.aload X38.here hx rfl (hb hby at_74) rfl rfl ?_
    show Steps p.tables e below (T38.setTop (mkF m 76 #[.val (.int p0), .val (.int p1), .val (.int p2), .val (.int (own_b0 p1)), .val (.int (own_b1 p1)), .val (.int (own_b2 p1)), .val (.ref ba), .val (.ref ca), .val (.ref st), .unset, .unset] [(.ref st), (.int p0)])) tgt
    refine XS.aload X38.here hx rfl (hb hby at_76) rfl rfl ?_
    exact kont)
  obtain ⟨_, _, ⟨T44, L44, k44, n44⟩, -, X44, ⟨Lc44, hQ44, l44, y44, z44⟩, st44⟩ := Jvm.LawKit.callS X38 hx (y := (⟨"com/example/harvestgate/harvestgate/http/Response", "of", "(ILjava/lang/String;[B)Lcom/example/harvestgate/harvestgate/http/Response;"⟩ : MethodName)) hown (mvT hZ (hw _ (List.mem_of_getElem? (i := 30) rfl))) (mvT hZ (hw _ (List.mem_of_getElem? (i := 31) rfl))) (mvT hZ (hw _ (List.mem_of_getElem? (i := 32) rfl))) (mvT hZ (hw _ (List.mem_of_getElem? (i := 33) rfl))) (by decide) (backOf (W := 0) (rmOF l Z a0 hw [] p0 st ba k2 (nar .byte (own_b0 p1)) (nar .byte (own_b1 p1)) (nar .byte (own_b2 p1)) gm T38.heap n0 z39 f40 f41 (SM.ext f42.2) f42 SM) hZ (hw _ (List.mem_of_getElem? (i := 33) rfl)) (hw _ (List.mem_of_getElem? (i := 32) rfl)) (by decide) (by decide)) (g := (mkF m 78 #[.val (.int p0), .val (.int p1), .val (.int p2), .val (.int (own_b0 p1)), .val (.int (own_b1 p1)), .val (.int (own_b2 p1)), .val (.ref ba), .val (.ref ca), .val (.ref st), .unset, .unset] [(.ref ba), (.ref st), (.int p0)])) rfl (by rw [hml]; rfl) (argsL := [(.int p0), (.ref st), (.ref ba)]) (rest := []) (lenOf pd_6 rfl) rfl (by show 2 * 0 + _ ≤ _; exact Nat.le_of_eq rfl) (hb hby at_78) (fun _ _ => ⟨rfl, rfl, (by decide : 4 + 2 ≤ _), (by decide : 11 + 7 ≤ _)⟩)
  dsimp only [Pt.U, Pt.locs, Pt.cells, Pt.slots] at X44 l44 y44 z44 st44 hQ44
  subst l44 y44 z44
  obtain ⟨rfl, N44q, KO, EO, FO1, FO2, c, zc, gc, FO3, AO⟩ := hQ44
  have N44 := Fr.app N38 N44q
  obtain ⟨r, g44⟩ : ∃ z, z = T38.heap.size := ⟨_, rfl⟩
  rw [← g44] at st44 EO FO1 FO2 FO3 zc
  have ne_ba_r : ba ≠ r := Nat.ne_of_lt (Nat.lt_of_lt_of_le (Nat.lt_of_lt_of_le V2.lt (Nat.le_trans (Nat.le_trans (Nat.le_trans (Nat.le_trans (Nat.le_trans (Nat.le_trans (Nat.le_trans (Keep.of_wr W6).1 (Keep.of_wr W11).1) (Keep.of_wr W16).1) E20.1) (Keep.of_wr W24).1) (Keep.of_wr W29).1) E33.1) KS.1)) (Nat.le_of_eq g44.symm))
  have ne_ca_r : ca ≠ r := Nat.ne_of_lt (Nat.lt_of_lt_of_le (Nat.lt_of_lt_of_le V20.lt (Nat.le_trans (Nat.le_trans (Nat.le_trans (Keep.of_wr W24).1 (Keep.of_wr W29).1) E33.1) KS.1)) (Nat.le_of_eq g44.symm))
  have ne_st_r : st ≠ r := Nat.ne_of_lt (Nat.lt_of_lt_of_le (Nat.lt_of_lt_of_le A33.lt KS.1) (Nat.le_of_eq g44.symm))
  have ne_tS_r : tS ≠ r := Nat.ne_of_lt (Nat.lt_of_lt_of_le AvS.lt (Nat.le_of_eq g44.symm))
  have ge_r : n0 ≤ r := Nat.le_trans z39 (Nat.le_of_eq g44.symm)
  have z45 : n0 ≤ T44.heap.size := Nat.le_trans z39 KO.1
  have go44 : ∀ tgt, Steps p.tables e below (T44.setTop (mkF m 81 #[.val (.int p0), .val (.int p1), .val (.int p2), .val (.int (own_b0 p1)), .val (.int (own_b1 p1)), .val (.int (own_b2 p1)), .val (.ref ba), .val (.ref ca), .val (.ref st), .unset, .unset] [(.ref r)])) tgt → Steps p.tables e below E0 tgt := fun tgt kont => go43 tgt (st44 tgt kont)
  have lt_ba_r : ba < r := (Nat.lt_of_lt_of_le (Nat.lt_of_lt_of_le V2.lt (Nat.le_trans (Nat.le_trans (Nat.le_trans (Nat.le_trans (Nat.le_trans (Nat.le_trans (Nat.le_trans (Keep.of_wr W6).1 (Keep.of_wr W11).1) (Keep.of_wr W16).1) E20.1) (Keep.of_wr W24).1) (Keep.of_wr W29).1) E33.1) KS.1)) (Nat.le_of_eq g44.symm))
  have ne_c_ba : c ≠ ba := Ne.symm (Nat.ne_of_lt (Nat.lt_trans lt_ba_r zc))
  have go46 : ∀ tgt, Steps p.tables e below (T44.setTop (mkF m 90 #[.val (.int p0), .val (.int p1), .val (.int p2), .val (.int (own_b0 p1)), .val (.int (own_b1 p1)), .val (.int (own_b2 p1)), .val (.ref ba), .val (.ref ca), .val (.ref st), .val (.ref r), .unset] [(.int (((own_b0 p1) + (1 : Int32)).toInt8.toInt32)), (.int (0 : Int32)), (.ref ba)])) tgt → Steps p.tables e below E0 tgt := fun tgt kont => go44 tgt (by
    show Steps p.tables e below (T44.setTop (mkF m 81 #[.val (.int p0), .val (.int p1), .val (.int p2), .val (.int (own_b0 p1)), .val (.int (own_b1 p1)), .val (.int (own_b2 p1)), .val (.ref ba), .val (.ref ca), .val (.ref st), .unset, .unset] [(.ref r)])) tgt
    refine XS.astore X44.here hx rfl (hb hby at_81) rfl rfl (l' := #[.val (.int p0), .val (.int p1), .val (.int p2), .val (.int (own_b0 p1)), .val (.int (own_b1 p1)), .val (.int (own_b2 p1)), .val (.ref ba), .val (.ref ca), .val (.ref st), .val (.ref r), .unset]) rfl ?_
    show Steps p.tables e below (T44.setTop (mkF m 83 #[.val (.int p0), .val (.int p1), .val (.int p2), .val (.int (own_b0 p1)), .val (.int (own_b1 p1)), .val (.int (own_b2 p1)), .val (.ref ba), .val (.ref ca), .val (.ref st), .val (.ref r), .unset] [])) tgt
    refine XS.aload X44.here hx rfl (hb hby at_83) rfl rfl ?_
    show Steps p.tables e below (T44.setTop (mkF m 85 #[.val (.int p0), .val (.int p1), .val (.int p2), .val (.int (own_b0 p1)), .val (.int (own_b1 p1)), .val (.int (own_b2 p1)), .val (.ref ba), .val (.ref ca), .val (.ref st), .val (.ref r), .unset] [(.ref ba)])) tgt
    refine XS.iconst X44.here hx rfl (hb hby at_85) ?_
    show Steps p.tables e below (T44.setTop (mkF m 86 #[.val (.int p0), .val (.int p1), .val (.int p2), .val (.int (own_b0 p1)), .val (.int (own_b1 p1)), .val (.int (own_b2 p1)), .val (.ref ba), .val (.ref ca), .val (.ref st), .val (.ref r), .unset] [(.int (0 : Int32)), (.ref ba)])) tgt
    refine XS.iloadN X44.here hx rfl (hb hby at_86) rfl ?_
    show Steps p.tables e below (T44.setTop (mkF m 87 #[.val (.int p0), .val (.int p1), .val (.int p2), .val (.int (own_b0 p1)), .val (.int (own_b1 p1)), .val (.int (own_b2 p1)), .val (.ref ba), .val (.ref ca), .val (.ref st), .val (.ref r), .unset] [(.int (own_b0 p1)), (.int (0 : Int32)), (.ref ba)])) tgt
    refine XS.iconst X44.here hx rfl (hb hby at_87) ?_
    show Steps p.tables e below (T44.setTop (mkF m 88 #[.val (.int p0), .val (.int p1), .val (.int p2), .val (.int (own_b0 p1)), .val (.int (own_b1 p1)), .val (.int (own_b2 p1)), .val (.ref ba), .val (.ref ca), .val (.ref st), .val (.ref r), .unset] [(.int (1 : Int32)), (.int (own_b0 p1)), (.int (0 : Int32)), (.ref ba)])) tgt
    refine XS.iadd X44.here hx rfl (hb hby at_88) rfl ?_
    show Steps p.tables e below (T44.setTop (mkF m 89 #[.val (.int p0), .val (.int p1), .val (.int p2), .val (.int (own_b0 p1)), .val (.int (own_b1 p1)), .val (.int (own_b2 p1)), .val (.ref ba), .val (.ref ca), .val (.ref st), .val (.ref r), .unset] [(.int ((own_b0 p1) + (1 : Int32))), (.int (0 : Int32)), (.ref ba)])) tgt
    refine XS.i2b X44.here hx rfl (hb hby at_89) rfl ?_
    exact kont)
  have f47 : Arv Z T44.heap ba k2 .byte (3 : Int32) [(.int (nar .byte (own_b0 p1))), (.int (nar .byte (own_b1 p1))), (.int (nar .byte (own_b2 p1)))] (.int (0 : Int32)) := (f41.keep KO nin0)
  obtain ⟨c48, Ar48, q48, S48, M48, Hh48, G48⟩ := id f47
  obtain ⟨T48, h48, X48, e48, W48, st48⟩ := stB X44 hx hZ rfl Ar48 (j := (0 : Int32)) (inb_of S48 ⟨by decide, by decide⟩) (g := (mkF m 90 #[.val (.int p0), .val (.int p1), .val (.int p2), .val (.int (own_b0 p1)), .val (.int (own_b1 p1)), .val (.int (own_b2 p1)), .val (.ref ba), .val (.ref ca), .val (.ref st), .val (.ref r), .unset] [(.int (((own_b0 p1) + (1 : Int32)).toInt8.toInt32)), (.int (0 : Int32)), (.ref ba)])) rfl rfl (hb hby at_90)
  have z49 : n0 ≤ h48.size := Nat.le_trans z45 (Keep.of_wr W48).1
  have N48 := Fr.snoc X48 N44 ge_ba
  have f50 : Arv Z h48 ba k2 .byte (3 : Int32) [(.int (nar .byte (((own_b0 p1) + (1 : Int32)).toInt8.toInt32))), (.int (nar .byte (own_b1 p1))), (.int (nar .byte (own_b2 p1)))] (.int (0 : Int32)) := Arv.set Ar48 q48 S48 M48 Hh48 G48 (fits_nar_byte _) W48 0 rfl (Nat.le_of_ble_eq_true rfl)
  have go48 : ∀ tgt, Steps p.tables e below (T48.setTop (mkF m 91 #[.val (.int p0), .val (.int p1), .val (.int p2), .val (.int (own_b0 p1)), .val (.int (own_b1 p1)), .val (.int (own_b2 p1)), .val (.ref ba), .val (.ref ca), .val (.ref st), .val (.ref r), .unset] [])) tgt → Steps p.tables e below E0 tgt := fun tgt kont => go46 tgt (st48 tgt kont)
  have go51 : ∀ tgt, Steps p.tables e below (T48.setTop (mkF m 100 #[.val (.int p0), .val (.int p1), .val (.int p2), .val (.int (own_b0 p1)), .val (.int (own_b1 p1)), .val (.int (own_b2 p1)), .val (.ref ba), .val (.ref ca), .val (.ref st), .val (.ref r), .unset] [(.int (((own_b2 p1) ^^^ (85 : Int32)).toInt8.toInt32)), (.int (2 : Int32)), (.ref ba)])) tgt → Steps p.tables e below E0 tgt := fun tgt kont => go48 tgt (by
    show Steps p.tables e below (T48.setTop (mkF m 91 #[.val (.int p0), .val (.int p1), .val (.int p2), .val (.int (own_b0 p1)), .val (.int (own_b1 p1)), .val (.int (own_b2 p1)), .val (.ref ba), .val (.ref ca), .val (.ref st), .val (.ref r), .unset] [])) tgt
    refine XS.aload X48.here hx rfl (hb hby at_91) rfl rfl ?_
    show Steps p.tables e below (T48.setTop (mkF m 93 #[.val (.int p0), .val (.int p1), .val (.int p2), .val (.int (own_b0 p1)), .val (.int (own_b1 p1)), .val (.int (own_b2 p1)), .val (.ref ba), .val (.ref ca), .val (.ref st), .val (.ref r), .unset] [(.ref ba)])) tgt
    refine XS.iconst X48.here hx rfl (hb hby at_93) ?_
    show Steps p.tables e below (T48.setTop (mkF m 94 #[.val (.int p0), .val (.int p1), .val (.int p2), .val (.int (own_b0 p1)), .val (.int (own_b1 p1)), .val (.int (own_b2 p1)), .val (.ref ba), .val (.ref ca), .val (.ref st), .val (.ref r), .unset] [(.int (2 : Int32)), (.ref ba)])) tgt
    refine XS.iload X48.here hx rfl (hb hby at_94) rfl ?_
    show Steps p.tables e below (T48.setTop (mkF m 96 #[.val (.int p0), .val (.int p1), .val (.int p2), .val (.int (own_b0 p1)), .val (.int (own_b1 p1)), .val (.int (own_b2 p1)), .val (.ref ba), .val (.ref ca), .val (.ref st), .val (.ref r), .unset] [(.int (own_b2 p1)), (.int (2 : Int32)), (.ref ba)])) tgt
    refine XS.bipush X48.here hx rfl (hb hby at_96) ?_
    show Steps p.tables e below (T48.setTop (mkF m 98 #[.val (.int p0), .val (.int p1), .val (.int p2), .val (.int (own_b0 p1)), .val (.int (own_b1 p1)), .val (.int (own_b2 p1)), .val (.ref ba), .val (.ref ca), .val (.ref st), .val (.ref r), .unset] [(.int (85 : Int32)), (.int (own_b2 p1)), (.int (2 : Int32)), (.ref ba)])) tgt
    refine XS.ixor X48.here hx rfl (hb hby at_98) rfl ?_
    show Steps p.tables e below (T48.setTop (mkF m 99 #[.val (.int p0), .val (.int p1), .val (.int p2), .val (.int (own_b0 p1)), .val (.int (own_b1 p1)), .val (.int (own_b2 p1)), .val (.ref ba), .val (.ref ca), .val (.ref st), .val (.ref r), .unset] [(.int ((own_b2 p1) ^^^ (85 : Int32))), (.int (2 : Int32)), (.ref ba)])) tgt
    refine XS.i2b X48.here hx rfl (hb hby at_99) rfl ?_
    exact kont)
  obtain ⟨c52, Ar52, q52, S52, M52, Hh52, G52⟩ := id f50
  obtain ⟨T52, h52, X52, e52, W52, st52⟩ := stB X48 hx hZ e48 Ar52 (j := (2 : Int32)) (inb_of S52 ⟨by decide, by decide⟩) (g := (mkF m 100 #[.val (.int p0), .val (.int p1), .val (.int p2), .val (.int (own_b0 p1)), .val (.int (own_b1 p1)), .val (.int (own_b2 p1)), .val (.ref ba), .val (.ref ca), .val (.ref st), .val (.ref r), .unset] [(.int (((own_b2 p1) ^^^ (85 : Int32)).toInt8.toInt32)), (.int (2 : Int32)), (.ref ba)])) rfl rfl (hb hby at_100)
  have z53 : n0 ≤ h52.size := Nat.le_trans z49 (Keep.of_wr W52).1
  have N52 := Fr.snoc X52 N48 ge_ba
  have f54 : Arv Z h52 ba k2 .byte (3 : Int32) [(.int (nar .byte (((own_b0 p1) + (1 : Int32)).toInt8.toInt32))), (.int (nar .byte (own_b1 p1))), (.int (nar .byte (((own_b2 p1) ^^^ (85 : Int32)).toInt8.toInt32)))] (.int (0 : Int32)) := Arv.set Ar52 q52 S52 M52 Hh52 G52 (fits_nar_byte _) W52 2 rfl (Nat.le_of_ble_eq_true rfl)
  have go52 : ∀ tgt, Steps p.tables e below (T52.setTop (mkF m 101 #[.val (.int p0), .val (.int p1), .val (.int p2), .val (.int (own_b0 p1)), .val (.int (own_b1 p1)), .val (.int (own_b2 p1)), .val (.ref ba), .val (.ref ca), .val (.ref st), .val (.ref r), .unset] [])) tgt → Steps p.tables e below E0 tgt := fun tgt kont => go51 tgt (st52 tgt kont)
  have f55 : Fld Z h52 r "com/example/harvestgate/harvestgate/http/Response" "body" "[B" (.ref c) := ((FO3.other W48 (Or.inl (Ne.symm ne_ba_r))).other W52 (Or.inl (Ne.symm ne_ba_r)))
  have go56 : ∀ tgt, Steps p.tables e below (T52.setTop (mkF m 103 #[.val (.int p0), .val (.int p1), .val (.int p2), .val (.int (own_b0 p1)), .val (.int (own_b1 p1)), .val (.int (own_b2 p1)), .val (.ref ba), .val (.ref ca), .val (.ref st), .val (.ref r), .unset] [(.ref r)])) tgt → Steps p.tables e below E0 tgt := fun tgt kont => go52 tgt (by
    show Steps p.tables e below (T52.setTop (mkF m 101 #[.val (.int p0), .val (.int p1), .val (.int p2), .val (.int (own_b0 p1)), .val (.int (own_b1 p1)), .val (.int (own_b2 p1)), .val (.ref ba), .val (.ref ca), .val (.ref st), .val (.ref r), .unset] [])) tgt
    refine XS.aload X52.here hx rfl (hb hby at_101) rfl rfl ?_
    exact kont)
  have f58 : Exa Z h52 r "com/example/harvestgate/harvestgate/http/Response" := ((EO.wr W48).wr W52)
  obtain ⟨cq57, kq57, q57a, q57b, q57c⟩ := isOf hZ e52 f58
  obtain ⟨_, _, ⟨T57, L57, k57, n57⟩, -, X57, ⟨Lc57, hQ57, l57, y57, z57⟩, st57⟩ := X52.virtualBack hx (y := (⟨"com/example/harvestgate/harvestgate/http/Response", "body", "()[B"⟩ : MethodName)) (z := (⟨"com/example/harvestgate/harvestgate/http/Response", "body", "()[B"⟩ : MethodName)) hown (mvT hZ (hw _ (List.mem_of_getElem? (i := 63) rfl))) (mvT hZ (hw _ (List.mem_of_getElem? (i := 64) rfl))) (notFace_of_selects (args := #[]) (mvT hZ (hw _ (List.mem_of_getElem? (i := 66) rfl)))) (mvT hZ (hw _ (List.mem_of_getElem? (i := 66) rfl))) (mvT hZ (hw _ (List.mem_of_getElem? (i := 65) rfl))) (by decide) (backOf (W := 0) (rmGB l Z a0 hw [] r c h52 n0 z53 f55) hZ (hw _ (List.mem_of_getElem? (i := 67) rfl)) (hw _ (List.mem_of_getElem? (i := 32) rfl)) (by decide) (by decide)) q57a q57c (g := (mkF m 103 #[.val (.int p0), .val (.int p1), .val (.int p2), .val (.int (own_b0 p1)), .val (.int (own_b1 p1)), .val (.int (own_b2 p1)), .val (.ref ba), .val (.ref ca), .val (.ref st), .val (.ref r), .unset] [(.ref r)])) rfl (by rw [hml]; rfl) (Steps.refl _) (argsL := []) (rest := []) (lenOf pd_7 rfl) rfl (by show 2 * 0 + _ ≤ _; exact Nat.le_of_eq rfl) (hb hby at_103) (fun _ _ => ⟨rfl, e52, (by decide : 6 + 0 ≤ _), (by decide : 18 + 0 ≤ _)⟩)
  dsimp only [Pt.U, Pt.locs, Pt.cells, Pt.slots] at X57 l57 y57 z57 st57 hQ57
  subst l57 y57 z57
  obtain ⟨rfl, N57q, e57⟩ := hQ57
  have N57 := Fr.app N52 N57q
  have go57 : ∀ tgt, Steps p.tables e below (T57.setTop (mkF m 106 #[.val (.int p0), .val (.int p1), .val (.int p2), .val (.int (own_b0 p1)), .val (.int (own_b1 p1)), .val (.int (own_b2 p1)), .val (.ref ba), .val (.ref ca), .val (.ref st), .val (.ref r), .unset] [(.ref c)])) tgt → Steps p.tables e below E0 tgt := fun tgt kont => go56 tgt (st57.trans kont)
  have go59 : ∀ tgt, Steps p.tables e below (T57.setTop (mkF m 122 #[.val (.int p0), .val (.int p1), .val (.int p2), .val (.int (own_b0 p1)), .val (.int (own_b1 p1)), .val (.int (own_b2 p1)), .val (.ref ba), .val (.ref ca), .val (.ref st), .val (.ref r), .val (.ref c)] [(.ref c)])) tgt → Steps p.tables e below E0 tgt := fun tgt kont => go57 tgt (by
    show Steps p.tables e below (T57.setTop (mkF m 106 #[.val (.int p0), .val (.int p1), .val (.int p2), .val (.int (own_b0 p1)), .val (.int (own_b1 p1)), .val (.int (own_b2 p1)), .val (.ref ba), .val (.ref ca), .val (.ref st), .val (.ref r), .unset] [(.ref c)])) tgt
    refine XS.astore X57.here hx rfl (hb hby at_106) rfl rfl (l' := #[.val (.int p0), .val (.int p1), .val (.int p2), .val (.int (own_b0 p1)), .val (.int (own_b1 p1)), .val (.int (own_b2 p1)), .val (.ref ba), .val (.ref ca), .val (.ref st), .val (.ref r), .val (.ref c)]) rfl ?_
    show Steps p.tables e below (T57.setTop (mkF m 108 #[.val (.int p0), .val (.int p1), .val (.int p2), .val (.int (own_b0 p1)), .val (.int (own_b1 p1)), .val (.int (own_b2 p1)), .val (.ref ba), .val (.ref ca), .val (.ref st), .val (.ref r), .val (.ref c)] [])) tgt
    refine XS.aload X57.here hx rfl (hb hby at_108) rfl rfl ?_
    show Steps p.tables e below (T57.setTop (mkF m 110 #[.val (.int p0), .val (.int p1), .val (.int p2), .val (.int (own_b0 p1)), .val (.int (own_b1 p1)), .val (.int (own_b2 p1)), .val (.ref ba), .val (.ref ca), .val (.ref st), .val (.ref r), .val (.ref c)] [(.ref c)])) tgt
    refine XS.ifnullNo X57.here hx rfl (hb hby at_110) rfl ?_
    show Steps p.tables e below (T57.setTop (mkF m 113 #[.val (.int p0), .val (.int p1), .val (.int p2), .val (.int (own_b0 p1)), .val (.int (own_b1 p1)), .val (.int (own_b2 p1)), .val (.ref ba), .val (.ref ca), .val (.ref st), .val (.ref r), .val (.ref c)] [])) tgt
    refine XS.aload X57.here hx rfl (hb hby at_113) rfl rfl ?_
    show Steps p.tables e below (T57.setTop (mkF m 115 #[.val (.int p0), .val (.int p1), .val (.int p2), .val (.int (own_b0 p1)), .val (.int (own_b1 p1)), .val (.int (own_b2 p1)), .val (.ref ba), .val (.ref ca), .val (.ref st), .val (.ref r), .val (.ref c)] [(.ref c)])) tgt
    refine XS.aload X57.here hx rfl (hb hby at_115) rfl rfl ?_
    show Steps p.tables e below (T57.setTop (mkF m 117 #[.val (.int p0), .val (.int p1), .val (.int p2), .val (.int (own_b0 p1)), .val (.int (own_b1 p1)), .val (.int (own_b2 p1)), .val (.ref ba), .val (.ref ca), .val (.ref st), .val (.ref r), .val (.ref c)] [(.ref ba), (.ref c)])) tgt
    refine Jvm.RoadKit.acmp (g := (mkF m 117 #[.val (.int p0), .val (.int p1), .val (.int p2), .val (.int (own_b0 p1)), .val (.int (own_b1 p1)), .val (.int (own_b2 p1)), .val (.ref ba), .val (.ref ca), .val (.ref st), .val (.ref r), .val (.ref c)] [(.ref ba), (.ref c)])) X57 hx rfl rfl rfl (pc0 := 117) (pc' := 120) (same := false) rfl (hb hby at_117) rfl (decide_eq_false fun q => ne_c_ba (Value.ref.inj q)) (by decide) (by decide) ?_
    show Steps p.tables e below (T57.setTop (mkF m 120 #[.val (.int p0), .val (.int p1), .val (.int p2), .val (.int (own_b0 p1)), .val (.int (own_b1 p1)), .val (.int (own_b2 p1)), .val (.ref ba), .val (.ref ca), .val (.ref st), .val (.ref r), .val (.ref c)] [])) tgt
    refine XS.aload X57.here hx rfl (hb hby at_120) rfl rfl ?_
    exact kont)
  have f60 : Arv Z h52 c k2 .byte (3 : Int32) [(.int (nar .byte (own_b0 p1))), (.int (nar .byte (own_b1 p1))), (.int (nar .byte (own_b2 p1)))] (.int (0 : Int32)) := ((AO.other W48 ne_c_ba).other W52 ne_c_ba)
  obtain ⟨c61, Ar61, q61, S61, M61, -, -⟩ := id f60
  have f62 : Fld Z h52 r "com/example/harvestgate/harvestgate/http/Response" "status" "I" (.int p0) := ((FO1.other W48 (Or.inl (Ne.symm ne_ba_r))).other W52 (Or.inl (Ne.symm ne_ba_r)))
  have go63 : ∀ tgt, Steps p.tables e below (T57.setTop (mkF m 131 #[.val (.int p0), .val (.int p1), .val (.int p2), .val (.int (own_b0 p1)), .val (.int (own_b1 p1)), .val (.int (own_b2 p1)), .val (.ref ba), .val (.ref ca), .val (.ref st), .val (.ref r), .val (.ref c)] [(.ref r)])) tgt → Steps p.tables e below E0 tgt := fun tgt kont => go59 tgt (by
    show Steps p.tables e below (T57.setTop (mkF m 122 #[.val (.int p0), .val (.int p1), .val (.int p2), .val (.int (own_b0 p1)), .val (.int (own_b1 p1)), .val (.int (own_b2 p1)), .val (.ref ba), .val (.ref ca), .val (.ref st), .val (.ref r), .val (.ref c)] [(.ref c)])) tgt
    refine X57.arraylength hx (by rw [e57]; exact Ar61.1) (State.isArrayOf_alike hZ.alike Ar61.2.1) (g := (mkF m 122 #[.val (.int p0), .val (.int p1), .val (.int p2), .val (.int (own_b0 p1)), .val (.int (own_b1 p1)), .val (.int (own_b2 p1)), .val (.ref ba), .val (.ref ca), .val (.ref st), .val (.ref r), .val (.ref c)] [(.ref c)])) rfl rfl (hb hby at_122) _ ?_
    rw [len_of S61 M61]
    show Steps p.tables e below (T57.setTop (mkF m 123 #[.val (.int p0), .val (.int p1), .val (.int p2), .val (.int (own_b0 p1)), .val (.int (own_b1 p1)), .val (.int (own_b2 p1)), .val (.ref ba), .val (.ref ca), .val (.ref st), .val (.ref r), .val (.ref c)] [(.int (3 : Int32))])) tgt
    refine XS.iconst X57.here hx rfl (hb hby at_123) ?_
    show Steps p.tables e below (T57.setTop (mkF m 124 #[.val (.int p0), .val (.int p1), .val (.int p2), .val (.int (own_b0 p1)), .val (.int (own_b1 p1)), .val (.int (own_b2 p1)), .val (.ref ba), .val (.ref ca), .val (.ref st), .val (.ref r), .val (.ref c)] [(.int (3 : Int32)), (.int (3 : Int32))])) tgt
    refine XS.icmpYes X57.here hx rfl (pc0 := 124) (pc' := 129) rfl (hb hby at_124) rfl (teq rfl).1 (by decide) (by decide) ?_
    show Steps p.tables e below (T57.setTop (mkF m 129 #[.val (.int p0), .val (.int p1), .val (.int p2), .val (.int (own_b0 p1)), .val (.int (own_b1 p1)), .val (.int (own_b2 p1)), .val (.ref ba), .val (.ref ca), .val (.ref st), .val (.ref r), .val (.ref c)] [])) tgt
    refine XS.aload X57.here hx rfl (hb hby at_129) rfl rfl ?_
    exact kont)
  obtain ⟨cq64, kq64, q64a, q64b, q64c⟩ := isOf hZ e57 f58
  obtain ⟨_, _, ⟨T64, L64, k64, n64⟩, -, X64, ⟨Lc64, hQ64, l64, y64, z64⟩, st64⟩ := X57.virtualBack hx (y := (⟨"com/example/harvestgate/harvestgate/http/Response", "status", "()I"⟩ : MethodName)) (z := (⟨"com/example/harvestgate/harvestgate/http/Response", "status", "()I"⟩ : MethodName)) hown (mvT hZ (hw _ (List.mem_of_getElem? (i := 68) rfl))) (mvT hZ (hw _ (List.mem_of_getElem? (i := 69) rfl))) (notFace_of_selects (args := #[]) (mvT hZ (hw _ (List.mem_of_getElem? (i := 71) rfl)))) (mvT hZ (hw _ (List.mem_of_getElem? (i := 71) rfl))) (mvT hZ (hw _ (List.mem_of_getElem? (i := 70) rfl))) (by decide) (backOf (W := 0) (rmGS l Z a0 hw [] r p0 h52 n0 z53 f62) hZ (hw _ (List.mem_of_getElem? (i := 72) rfl)) (hw _ (List.mem_of_getElem? (i := 32) rfl)) (by decide) (by decide)) q64a q64c (g := (mkF m 131 #[.val (.int p0), .val (.int p1), .val (.int p2), .val (.int (own_b0 p1)), .val (.int (own_b1 p1)), .val (.int (own_b2 p1)), .val (.ref ba), .val (.ref ca), .val (.ref st), .val (.ref r), .val (.ref c)] [(.ref r)])) rfl (by rw [hml]; rfl) (Steps.refl _) (argsL := []) (rest := []) (lenOf pd_8 rfl) rfl (by show 2 * 0 + _ ≤ _; exact Nat.le_of_eq rfl) (hb hby at_131) (fun _ _ => ⟨rfl, e57, (by decide : 6 + 0 ≤ _), (by decide : 18 + 0 ≤ _)⟩)
  dsimp only [Pt.U, Pt.locs, Pt.cells, Pt.slots] at X64 l64 y64 z64 st64 hQ64
  subst l64 y64 z64
  obtain ⟨rfl, N64q, e64⟩ := hQ64
  have N64 := Fr.app N57 N64q
  have go64 : ∀ tgt, Steps p.tables e below (T64.setTop (mkF m 134 #[.val (.int p0), .val (.int p1), .val (.int p2), .val (.int (own_b0 p1)), .val (.int (own_b1 p1)), .val (.int (own_b2 p1)), .val (.ref ba), .val (.ref ca), .val (.ref st), .val (.ref r), .val (.ref c)] [(.int p0)])) tgt → Steps p.tables e below E0 tgt := fun tgt kont => go63 tgt (st64.trans kont)
  have f65 : Fld Z h52 r "com/example/harvestgate/harvestgate/http/Response" "contentType" "Ljava/lang/String;" (.ref st) := ((FO2.other W48 (Or.inl (Ne.symm ne_ba_r))).other W52 (Or.inl (Ne.symm ne_ba_r)))
  have go66 : ∀ tgt, Steps p.tables e below (T64.setTop (mkF m 142 #[.val (.int p0), .val (.int p1), .val (.int p2), .val (.int (own_b0 p1)), .val (.int (own_b1 p1)), .val (.int (own_b2 p1)), .val (.ref ba), .val (.ref ca), .val (.ref st), .val (.ref r), .val (.ref c)] [(.ref r), (.ref st)])) tgt → Steps p.tables e below E0 tgt := fun tgt kont => go64 tgt (by
    show Steps p.tables e below (T64.setTop (mkF m 134 #[.val (.int p0), .val (.int p1), .val (.int p2), .val (.int (own_b0 p1)), .val (.int (own_b1 p1)), .val (.int (own_b2 p1)), .val (.ref ba), .val (.ref ca), .val (.ref st), .val (.ref r), .val (.ref c)] [(.int p0)])) tgt
    refine XS.iloadN X64.here hx rfl (hb hby at_134) rfl ?_
    show Steps p.tables e below (T64.setTop (mkF m 135 #[.val (.int p0), .val (.int p1), .val (.int p2), .val (.int (own_b0 p1)), .val (.int (own_b1 p1)), .val (.int (own_b2 p1)), .val (.ref ba), .val (.ref ca), .val (.ref st), .val (.ref r), .val (.ref c)] [(.int p0), (.int p0)])) tgt
    refine XS.icmpNo X64.here hx rfl (hb hby at_135) rfl (teq rfl).2 ?_
    show Steps p.tables e below (T64.setTop (mkF m 138 #[.val (.int p0), .val (.int p1), .val (.int p2), .val (.int (own_b0 p1)), .val (.int (own_b1 p1)), .val (.int (own_b2 p1)), .val (.ref ba), .val (.ref ca), .val (.ref st), .val (.ref r), .val (.ref c)] [])) tgt
    refine XS.aload X64.here hx rfl (hb hby at_138) rfl rfl ?_
    show Steps p.tables e below (T64.setTop (mkF m 140 #[.val (.int p0), .val (.int p1), .val (.int p2), .val (.int (own_b0 p1)), .val (.int (own_b1 p1)), .val (.int (own_b2 p1)), .val (.ref ba), .val (.ref ca), .val (.ref st), .val (.ref r), .val (.ref c)] [(.ref st)])) tgt
    refine XS.aload X64.here hx rfl (hb hby at_140) rfl rfl ?_
    exact kont)
  obtain ⟨cq67, kq67, q67a, q67b, q67c⟩ := isOf hZ e64 f58
  obtain ⟨_, _, ⟨T67, L67, k67, n67⟩, -, X67, ⟨Lc67, hQ67, l67, y67, z67⟩, st67⟩ := X64.virtualBack hx (y := (⟨"com/example/harvestgate/harvestgate/http/Response", "contentType", "()Ljava/lang/String;"⟩ : MethodName)) (z := (⟨"com/example/harvestgate/harvestgate/http/Response", "contentType", "()Ljava/lang/String;"⟩ : MethodName)) hown (mvT hZ (hw _ (List.mem_of_getElem? (i := 73) rfl))) (mvT hZ (hw _ (List.mem_of_getElem? (i := 74) rfl))) (notFace_of_selects (args := #[]) (mvT hZ (hw _ (List.mem_of_getElem? (i := 76) rfl)))) (mvT hZ (hw _ (List.mem_of_getElem? (i := 76) rfl))) (mvT hZ (hw _ (List.mem_of_getElem? (i := 75) rfl))) (by decide) (backOf (W := 1) (rmGC l Z a0 hw [] r st h52 n0 z53 f65) hZ (hw _ (List.mem_of_getElem? (i := 77) rfl)) (hw _ (List.mem_of_getElem? (i := 32) rfl)) (by decide) (by decide)) q67a q67c (g := (mkF m 142 #[.val (.int p0), .val (.int p1), .val (.int p2), .val (.int (own_b0 p1)), .val (.int (own_b1 p1)), .val (.int (own_b2 p1)), .val (.ref ba), .val (.ref ca), .val (.ref st), .val (.ref r), .val (.ref c)] [(.ref r), (.ref st)])) rfl (by rw [hml]; rfl) (Steps.refl _) (argsL := []) (rest := [(.ref st)]) (lenOf pd_9 rfl) rfl (by show 2 * 0 + _ ≤ _; exact Nat.le_of_eq rfl) (hb hby at_142) (fun _ _ => ⟨rfl, e64, (by decide : 6 + 0 ≤ _), (by decide : 18 + 0 ≤ _)⟩)
  dsimp only [Pt.U, Pt.locs, Pt.cells, Pt.slots] at X67 l67 y67 z67 st67 hQ67
  subst l67 y67 z67
  obtain ⟨rfl, N67q, e67⟩ := hQ67
  have N67 := Fr.app N64 N67q
  have go67 : ∀ tgt, Steps p.tables e below (T67.setTop (mkF m 145 #[.val (.int p0), .val (.int p1), .val (.int p2), .val (.int (own_b0 p1)), .val (.int (own_b1 p1)), .val (.int (own_b2 p1)), .val (.ref ba), .val (.ref ca), .val (.ref st), .val (.ref r), .val (.ref c)] [(.ref st), (.ref st)])) tgt → Steps p.tables e below E0 tgt := fun tgt kont => go66 tgt (st67.trans kont)
  have f69 : Exa Z h52 st "java/lang/String" := (((ES.keep KO).wr W48).wr W52)
  obtain ⟨cq68, kq68, q68a, q68b, q68c⟩ := isOf hZ e67 f69
  obtain ⟨_, _, ⟨T68, L68, k68, n68⟩, -, X68, ⟨Lc68, hQ68, l68, y68, z68⟩, st68⟩ := X67.virtualBack hx (y := (⟨"java/lang/String", "equals", "(Ljava/lang/Object;)Z"⟩ : MethodName)) (z := (⟨"java/lang/String", "equals", "(Ljava/lang/Object;)Z"⟩ : MethodName)) hown (mvT hZ (hw _ (List.mem_of_getElem? (i := 78) rfl))) (mvT hZ (hw _ (List.mem_of_getElem? (i := 79) rfl))) (notFace_of_selects (args := #[]) (mvT hZ (hw _ (List.mem_of_getElem? (i := 81) rfl)))) (mvT hZ (hw _ (List.mem_of_getElem? (i := 81) rfl))) (mvT hZ (hw _ (List.mem_of_getElem? (i := 80) rfl))) (by decide) (backOf (W := 0) (rmEQ l Z a0 hw [] st h52 n0 z53 ) hZ (hw _ (List.mem_of_getElem? (i := 82) rfl)) (hw _ (List.mem_of_getElem? (i := 4) rfl)) (by decide) (by decide)) q68a q68c (g := (mkF m 145 #[.val (.int p0), .val (.int p1), .val (.int p2), .val (.int (own_b0 p1)), .val (.int (own_b1 p1)), .val (.int (own_b2 p1)), .val (.ref ba), .val (.ref ca), .val (.ref st), .val (.ref r), .val (.ref c)] [(.ref st), (.ref st)])) rfl (by rw [hml]; rfl) (Steps.refl _) (argsL := [(.ref st)]) (rest := []) (lenOf pd_10 rfl) rfl (by show 2 * 0 + _ ≤ _; exact Nat.le_of_eq rfl) (hb hby at_145) (fun _ _ => ⟨rfl, e67, (by decide : 6 + 0 ≤ _), (by decide : 18 + 0 ≤ _)⟩)
  dsimp only [Pt.U, Pt.locs, Pt.cells, Pt.slots] at X68 l68 y68 z68 st68 hQ68
  subst l68 y68 z68
  obtain ⟨rfl, N68q, e68⟩ := hQ68
  have N68 := Fr.app N67 N68q
  have go68 : ∀ tgt, Steps p.tables e below (T68.setTop (mkF m 148 #[.val (.int p0), .val (.int p1), .val (.int p2), .val (.int (own_b0 p1)), .val (.int (own_b1 p1)), .val (.int (own_b2 p1)), .val (.ref ba), .val (.ref ca), .val (.ref st), .val (.ref r), .val (.ref c)] [(.int (1 : Int32))])) tgt → Steps p.tables e below E0 tgt := fun tgt kont => go67 tgt (st68.trans kont)
  have go70 : ∀ tgt, Steps p.tables e below (T68.setTop (mkF m 154 #[.val (.int p0), .val (.int p1), .val (.int p2), .val (.int (own_b0 p1)), .val (.int (own_b1 p1)), .val (.int (own_b2 p1)), .val (.ref ba), .val (.ref ca), .val (.ref st), .val (.ref r), .val (.ref c)] [(.int (0 : Int32)), (.ref c)])) tgt → Steps p.tables e below E0 tgt := fun tgt kont => go68 tgt (by
    show Steps p.tables e below (T68.setTop (mkF m 148 #[.val (.int p0), .val (.int p1), .val (.int p2), .val (.int (own_b0 p1)), .val (.int (own_b1 p1)), .val (.int (own_b2 p1)), .val (.ref ba), .val (.ref ca), .val (.ref st), .val (.ref r), .val (.ref c)] [(.int (1 : Int32))])) tgt
    refine XS.ifNo X68.here hx rfl (hb hby at_148) rfl ((if0 _ _).trans (feq (by decide)).1) ?_
    show Steps p.tables e below (T68.setTop (mkF m 151 #[.val (.int p0), .val (.int p1), .val (.int p2), .val (.int (own_b0 p1)), .val (.int (own_b1 p1)), .val (.int (own_b2 p1)), .val (.ref ba), .val (.ref ca), .val (.ref st), .val (.ref r), .val (.ref c)] [])) tgt
    refine XS.aload X68.here hx rfl (hb hby at_151) rfl rfl ?_
    show Steps p.tables e below (T68.setTop (mkF m 153 #[.val (.int p0), .val (.int p1), .val (.int p2), .val (.int (own_b0 p1)), .val (.int (own_b1 p1)), .val (.int (own_b2 p1)), .val (.ref ba), .val (.ref ca), .val (.ref st), .val (.ref r), .val (.ref c)] [(.ref c)])) tgt
    refine XS.iconst X68.here hx rfl (hb hby at_153) ?_
    exact kont)
  obtain ⟨c71, Ar71, q71, S71, M71, Hh71, G71⟩ := id f60
  have hin71 : ¬ ((0 : Int32) < 0 ∨ c71.slots.size ≤ ((0 : Int32)).toNatClampNeg) := inb_of S71 ⟨by decide, by decide⟩
  have hat71 : c71.slots[((0 : Int32)).toNatClampNeg]? = some (.int (nar .byte (own_b0 p1))) := Hh71.at hin71 rfl
  have go72 : ∀ tgt, Steps p.tables e below (T68.setTop (mkF m 162 #[.val (.int p0), .val (.int p1), .val (.int p2), .val (.int (own_b0 p1)), .val (.int (own_b1 p1)), .val (.int (own_b2 p1)), .val (.ref ba), .val (.ref ca), .val (.ref st), .val (.ref r), .val (.ref c)] [(.int (1 : Int32)), (.ref c)])) tgt → Steps p.tables e below E0 tgt := fun tgt kont => go70 tgt (by
    show Steps p.tables e below (T68.setTop (mkF m 154 #[.val (.int p0), .val (.int p1), .val (.int p2), .val (.int (own_b0 p1)), .val (.int (own_b1 p1)), .val (.int (own_b2 p1)), .val (.ref ba), .val (.ref ca), .val (.ref st), .val (.ref r), .val (.ref c)] [(.int (0 : Int32)), (.ref c)])) tgt
    refine X68.baloadBytes hx (j := (0 : Int32)) (v := (.int (nar .byte (own_b0 p1)))) (by rw [e68]; exact Ar71.1) (State.isArrayOf_alike hZ.alike Ar71.2.1) Ar71.2.2 hin71 hat71 (g := (mkF m 154 #[.val (.int p0), .val (.int p1), .val (.int p2), .val (.int (own_b0 p1)), .val (.int (own_b1 p1)), .val (.int (own_b2 p1)), .val (.ref ba), .val (.ref ca), .val (.ref st), .val (.ref r), .val (.ref c)] [(.int (0 : Int32)), (.ref c)])) rfl rfl (hb hby at_154) _ ?_
    show Steps p.tables e below (T68.setTop (mkF m 155 #[.val (.int p0), .val (.int p1), .val (.int p2), .val (.int (own_b0 p1)), .val (.int (own_b1 p1)), .val (.int (own_b2 p1)), .val (.ref ba), .val (.ref ca), .val (.ref st), .val (.ref r), .val (.ref c)] [(.int (nar .byte (own_b0 p1)))])) tgt
    refine XS.iloadN X68.here hx rfl (hb hby at_155) rfl ?_
    show Steps p.tables e below (T68.setTop (mkF m 156 #[.val (.int p0), .val (.int p1), .val (.int p2), .val (.int (own_b0 p1)), .val (.int (own_b1 p1)), .val (.int (own_b2 p1)), .val (.ref ba), .val (.ref ca), .val (.ref st), .val (.ref r), .val (.ref c)] [(.int (own_b0 p1)), (.int (nar .byte (own_b0 p1)))])) tgt
    refine XS.icmpNo X68.here hx rfl (hb hby at_156) rfl (teq (own_nb _)).2 ?_
    show Steps p.tables e below (T68.setTop (mkF m 159 #[.val (.int p0), .val (.int p1), .val (.int p2), .val (.int (own_b0 p1)), .val (.int (own_b1 p1)), .val (.int (own_b2 p1)), .val (.ref ba), .val (.ref ca), .val (.ref st), .val (.ref r), .val (.ref c)] [])) tgt
    refine XS.aload X68.here hx rfl (hb hby at_159) rfl rfl ?_
    show Steps p.tables e below (T68.setTop (mkF m 161 #[.val (.int p0), .val (.int p1), .val (.int p2), .val (.int (own_b0 p1)), .val (.int (own_b1 p1)), .val (.int (own_b2 p1)), .val (.ref ba), .val (.ref ca), .val (.ref st), .val (.ref r), .val (.ref c)] [(.ref c)])) tgt
    refine XS.iconst X68.here hx rfl (hb hby at_161) ?_
    exact kont)
  obtain ⟨c73, Ar73, q73, S73, M73, Hh73, G73⟩ := id f60
  have hin73 : ¬ ((1 : Int32) < 0 ∨ c73.slots.size ≤ ((1 : Int32)).toNatClampNeg) := inb_of S73 ⟨by decide, by decide⟩
  have hat73 : c73.slots[((1 : Int32)).toNatClampNeg]? = some (.int (nar .byte (own_b1 p1))) := Hh73.at hin73 rfl
  have go74 : ∀ tgt, Steps p.tables e below (T68.setTop (mkF m 171 #[.val (.int p0), .val (.int p1), .val (.int p2), .val (.int (own_b0 p1)), .val (.int (own_b1 p1)), .val (.int (own_b2 p1)), .val (.ref ba), .val (.ref ca), .val (.ref st), .val (.ref r), .val (.ref c)] [(.int (2 : Int32)), (.ref c)])) tgt → Steps p.tables e below E0 tgt := fun tgt kont => go72 tgt (by
    show Steps p.tables e below (T68.setTop (mkF m 162 #[.val (.int p0), .val (.int p1), .val (.int p2), .val (.int (own_b0 p1)), .val (.int (own_b1 p1)), .val (.int (own_b2 p1)), .val (.ref ba), .val (.ref ca), .val (.ref st), .val (.ref r), .val (.ref c)] [(.int (1 : Int32)), (.ref c)])) tgt
    refine X68.baloadBytes hx (j := (1 : Int32)) (v := (.int (nar .byte (own_b1 p1)))) (by rw [e68]; exact Ar73.1) (State.isArrayOf_alike hZ.alike Ar73.2.1) Ar73.2.2 hin73 hat73 (g := (mkF m 162 #[.val (.int p0), .val (.int p1), .val (.int p2), .val (.int (own_b0 p1)), .val (.int (own_b1 p1)), .val (.int (own_b2 p1)), .val (.ref ba), .val (.ref ca), .val (.ref st), .val (.ref r), .val (.ref c)] [(.int (1 : Int32)), (.ref c)])) rfl rfl (hb hby at_162) _ ?_
    show Steps p.tables e below (T68.setTop (mkF m 163 #[.val (.int p0), .val (.int p1), .val (.int p2), .val (.int (own_b0 p1)), .val (.int (own_b1 p1)), .val (.int (own_b2 p1)), .val (.ref ba), .val (.ref ca), .val (.ref st), .val (.ref r), .val (.ref c)] [(.int (nar .byte (own_b1 p1)))])) tgt
    refine XS.iload X68.here hx rfl (hb hby at_163) rfl ?_
    show Steps p.tables e below (T68.setTop (mkF m 165 #[.val (.int p0), .val (.int p1), .val (.int p2), .val (.int (own_b0 p1)), .val (.int (own_b1 p1)), .val (.int (own_b2 p1)), .val (.ref ba), .val (.ref ca), .val (.ref st), .val (.ref r), .val (.ref c)] [(.int (own_b1 p1)), (.int (nar .byte (own_b1 p1)))])) tgt
    refine XS.icmpNo X68.here hx rfl (hb hby at_165) rfl (teq (own_nb _)).2 ?_
    show Steps p.tables e below (T68.setTop (mkF m 168 #[.val (.int p0), .val (.int p1), .val (.int p2), .val (.int (own_b0 p1)), .val (.int (own_b1 p1)), .val (.int (own_b2 p1)), .val (.ref ba), .val (.ref ca), .val (.ref st), .val (.ref r), .val (.ref c)] [])) tgt
    refine XS.aload X68.here hx rfl (hb hby at_168) rfl rfl ?_
    show Steps p.tables e below (T68.setTop (mkF m 170 #[.val (.int p0), .val (.int p1), .val (.int p2), .val (.int (own_b0 p1)), .val (.int (own_b1 p1)), .val (.int (own_b2 p1)), .val (.ref ba), .val (.ref ca), .val (.ref st), .val (.ref r), .val (.ref c)] [(.ref c)])) tgt
    refine XS.iconst X68.here hx rfl (hb hby at_170) ?_
    exact kont)
  obtain ⟨c75, Ar75, q75, S75, M75, Hh75, G75⟩ := id f60
  have hin75 : ¬ ((2 : Int32) < 0 ∨ c75.slots.size ≤ ((2 : Int32)).toNatClampNeg) := inb_of S75 ⟨by decide, by decide⟩
  have hat75 : c75.slots[((2 : Int32)).toNatClampNeg]? = some (.int (nar .byte (own_b2 p1))) := Hh75.at hin75 rfl
  have go76 : ∀ tgt, Steps p.tables e below (T68.setTop (mkF m 182 #[.val (.int p0), .val (.int p1), .val (.int p2), .val (.int (own_b0 p1)), .val (.int (own_b1 p1)), .val (.int (own_b2 p1)), .val (.ref ba), .val (.ref ca), .val (.ref st), .val (.ref r), .val (.ref c)] [(.int (1 : Int32))])) tgt → Steps p.tables e below E0 tgt := fun tgt kont => go74 tgt (by
    show Steps p.tables e below (T68.setTop (mkF m 171 #[.val (.int p0), .val (.int p1), .val (.int p2), .val (.int (own_b0 p1)), .val (.int (own_b1 p1)), .val (.int (own_b2 p1)), .val (.ref ba), .val (.ref ca), .val (.ref st), .val (.ref r), .val (.ref c)] [(.int (2 : Int32)), (.ref c)])) tgt
    refine X68.baloadBytes hx (j := (2 : Int32)) (v := (.int (nar .byte (own_b2 p1)))) (by rw [e68]; exact Ar75.1) (State.isArrayOf_alike hZ.alike Ar75.2.1) Ar75.2.2 hin75 hat75 (g := (mkF m 171 #[.val (.int p0), .val (.int p1), .val (.int p2), .val (.int (own_b0 p1)), .val (.int (own_b1 p1)), .val (.int (own_b2 p1)), .val (.ref ba), .val (.ref ca), .val (.ref st), .val (.ref r), .val (.ref c)] [(.int (2 : Int32)), (.ref c)])) rfl rfl (hb hby at_171) _ ?_
    show Steps p.tables e below (T68.setTop (mkF m 172 #[.val (.int p0), .val (.int p1), .val (.int p2), .val (.int (own_b0 p1)), .val (.int (own_b1 p1)), .val (.int (own_b2 p1)), .val (.ref ba), .val (.ref ca), .val (.ref st), .val (.ref r), .val (.ref c)] [(.int (nar .byte (own_b2 p1)))])) tgt
    refine XS.iload X68.here hx rfl (hb hby at_172) rfl ?_
    show Steps p.tables e below (T68.setTop (mkF m 174 #[.val (.int p0), .val (.int p1), .val (.int p2), .val (.int (own_b0 p1)), .val (.int (own_b1 p1)), .val (.int (own_b2 p1)), .val (.ref ba), .val (.ref ca), .val (.ref st), .val (.ref r), .val (.ref c)] [(.int (own_b2 p1)), (.int (nar .byte (own_b2 p1)))])) tgt
    refine XS.icmpNo X68.here hx rfl (hb hby at_174) rfl (teq (own_nb _)).2 ?_
    show Steps p.tables e below (T68.setTop (mkF m 177 #[.val (.int p0), .val (.int p1), .val (.int p2), .val (.int (own_b0 p1)), .val (.int (own_b1 p1)), .val (.int (own_b2 p1)), .val (.ref ba), .val (.ref ca), .val (.ref st), .val (.ref r), .val (.ref c)] [])) tgt
    refine XS.iconst X68.here hx rfl (hb hby at_177) ?_
    show Steps p.tables e below (T68.setTop (mkF m 178 #[.val (.int p0), .val (.int p1), .val (.int p2), .val (.int (own_b0 p1)), .val (.int (own_b1 p1)), .val (.int (own_b2 p1)), .val (.ref ba), .val (.ref ca), .val (.ref st), .val (.ref r), .val (.ref c)] [(.int (1 : Int32))])) tgt
    refine XS.goto X68.here hx rfl (pc0 := 178) (pc' := 182) rfl (hb hby at_178) (by decide) (by decide) ?_
    exact kont)
  obtain ⟨fs, hr, hrun, hended, hW, hsame⟩ := X68.leave (v := some (.int (1 : Int32))) (fun h => by rw [Bd.returns] at h; cases h)
  refine ⟨_, _, go76 _ ?_, hrun, hended, _, _, rfl, ?_, ⟨_, rfl⟩, hW, hsame.mono (by decide) (by decide)⟩
  · show Steps p.tables e below (T68.setTop (mkF m 182 #[.val (.int p0), .val (.int p1), .val (.int p2), .val (.int (own_b0 p1)), .val (.int (own_b1 p1)), .val (.int (own_b2 p1)), .val (.ref ba), .val (.ref ca), .val (.ref st), .val (.ref r), .val (.ref c)] [(.int (1 : Int32))])) _
    exact retN X68 hx (t := .boolean) Bd.returns (by simp) (hb hby at_182) hr
  · show QL Z p0 p1 p2 G gm h0 n0 _ T68.heap _
    rw [e68]
    exact ⟨rfl, N68⟩
set_option maxRecDepth 65536 in
set_option maxHeartbeats 40000000 in
theorem comes_1 {Post : Tables → Env → Array Value → State → Outcome → State → Prop} (hpost : ∀ tb e args s v u, (limb_1_1.after args s (.returned v) u = true ∧ limb_1_2.after args s (.returned v) u = true ∧ True) → FrameEnd s (.returned v) u (Jvm.fieldLocs frame_1_writes args s ++ Jvm.arrayLocs frame_1_arrays args s ++ Jvm.staticLocs frame_1_statics s) 24 128 → Post tb e args s (.returned v) u) :
    ArmFor flags0 classFile x code maxLocals ret World_1 tables_1 room_1 Calls_1 rest_1 Pre_1 Post := by
  intro l hfl _ _ p e ha hc hk s m args below hf hA hF happ hP
  obtain ⟨hcalls, hrest, hpre⟩ := hP
  obtain ⟨-, -, -, hnamed, -, -, -, hat⟩ := (Spec.applies_iff hf).mp happ
  obtain ⟨hg, hn⟩ := and_e (Cond.before_iff.mp (show (Jvm.Cond.and given_1 narrow_1).before args s = true from hpre))
  obtain ⟨h1, r0⟩ := and_e hg
  obtain ⟨t0, r1⟩ := and_e r0
  obtain ⟨t1, r2⟩ := and_e r1
  have t2 := r2
  obtain ⟨w0, w1, w2, rfl⟩ : ∃ w0 w1 w2 : Value, args = #[w0, w1, w2] := by
    have hs : args.size = 3 := by simpa [Cond.value, given_1] using h1
    obtain ⟨L⟩ := args
    match L, hs with
    | [w0, w1, w2], _ => exact ⟨w0, w1, w2, rfl⟩
  have hw := fun d (hd : d ∈ tables_1) => atoms_spec (ws := Jvm.Cond.code x code maxLocals ret :: tables_1) hat d (List.mem_cons_of_mem _ hd)
  have hfit : Fit s := fun {y c} hc i hi => by
    obtain ⟨ha, rfl⟩ := Array.getElem?_eq_some_iff.mp hc
    have q := List.all_eq_true.mp ((Array.all_eq_true_iff_forall_mem.mp hF) _ (Array.getElem_mem ha)) i (List.mem_range.mpr hi)
    simpa [Array.getElem?_eq_getElem hi] using q
  obtain ⟨i0, e0⟩ := is_v t0
  obtain rfl : w0 = (.int i0) := Option.some.inj e0
  obtain ⟨i1, e1⟩ := is_v t1
  obtain rfl : w1 = (.int i1) := Option.some.inj e1
  obtain ⟨i2, e2⟩ := is_v t2
  obtain rfl : w2 = (.int i2) := Option.some.inj e2
  obtain ⟨hsets, hown0⟩ := atoms_of _ (rest_1_c_eq ▸ (show rest_1_c.before _ s = true from hrest))
  have nC := not_v (Cond.before_iff.mp (hsets _ (List.mem_of_getElem? (i := 2) rfl)))
  obtain ⟨iC, eC⟩ := is_v (Cond.before_iff.mp (hsets _ (List.mem_of_getElem? (i := 1) rfl)))
  have SC : Sta s s.heap "java/lang/String" "COMPACT_STRINGS" "Z" (.int iC) := Sta.start eC (Or.inl (hsets _ (List.mem_of_getElem? (i := 0) rfl)))
  have cC : ¬ (iC = (0 : Int32)) := gotF (Cond.eq_ints eC (Term.int_eval (0))) nC
  obtain ⟨gM, eM⟩ := exa_v (Cond.before_iff.mp (hsets _ (List.mem_of_getElem? (i := 11) rfl)))
  have SM : Sta s s.heap "java/util/ImmutableCollections" "EMPTY_MAP" "Ljava/util/ImmutableCollections$MapN;" (.ref gM) := Sta.start eM (Or.inl (hsets _ (List.mem_of_getElem? (i := 10) rfl)))
  obtain ⟨n, o, h1, h2, h3, _, L, rfl, ⟨rfl, N⟩, hq⟩ := rmL l s _ hw tables_1 i0 i1 i2 iC gM  s.heap s.heap.size (Nat.le_refl _)  SC cC SM (Old.start s) p e ha hc hk s m _ below hf ((Spec.applies_iff_loose hf).mp happ).1 ⟨rfl, State.Warmed39.refl s, rfl⟩ trivial
  refine ⟨n, _, h1, h2, h3, hpost _ _ _ _ _ _ ⟨Cond.after_iff.mpr rfl, Cond.after_iff.mpr (eq_i res_at (Term.int_eval (1)) rfl), trivial⟩ ⟨hq.1, hq.2.1, (hq.2.2.sift fun y hy => Or.inr (N y hy)).mono (by decide) (by decide)⟩⟩
theorem main_1_1 : Claimed_1_1 := comes_1 fun _ _ _ _ _ _ h hF => ⟨h.1, hF⟩
theorem main_1_2 : Claimed_1_2 := comes_1 fun _ _ _ _ _ _ h hF => ⟨h.2.1, hF⟩
end Jvm.Pilot.@@N@@
namespace Jvm.Pilot.@@N@@
open Jvm Jvm.ClassFile Sem Op Lib Jvm.Free Jvm.Stand Jvm.Pilot.@@N@@.Jvm.D
/-! MADE BY PROGRAM (witnessworld.py) out of the Statement's table words and the real class files: 26 classes; the members and pool entries that the words name. The judged class is class 1, her method 1. -/
namespace start1
open Jvm.ClassFile
def u (s : String) : CpInfo := .utf8 (stringToUtf16 s)
/-- a pool by its gaps: so many unusable entries, then the entry; so many at the end -/
def gap : Nat → List CpInfo → List CpInfo
  | 0, r => r
  | n + 1, r => .unusable :: gap n r
def poolList (es : List (Nat × CpInfo)) (last : Nat) : List CpInfo := es.foldr (fun e r => gap e.1 (e.2 :: r)) (gap last [])
def pool (es : List (Nat × CpInfo)) (last : Nat) : Array CpInfo := ⟨poolList es last⟩
def fileOf (pool : Array CpInfo) (this : Nat) (attrs : Array Attribute := #[]) (ms : Array MethodInfo := #[]) (fl : Nat := 33) (sup : Nat := 0) (ifs : Array Nat := #[]) (fds : Array FieldInfo := #[]) : ClassFile where
  minorVersion := 0
  majorVersion := 65
  constantPool := pool
  accessFlags := fl
  thisClass := this
  superClass := sup
  interfaces := ifs
  fields := fds
  methods := ms
  attributes := attrs
def plain (name : String) (sup : Option ClassId) : Class where
  name := name
  kind := .ordinary
  loader := none
  accessFlags := 33
  super := sup
  interfaces := #[]
  cf := none
  fields := #[]
  methods := #[]
  instanceTypes := #[]
  staticTypes := #[]
  resolved := #[]
  callSites := []
  init := .initialized
  statics := none
  mirror := none

def pool0 : Array CpInfo := pool [(5, u "<init>"), (0, u "()V"), (1, .class_ 10), (1, u "java/lang/Object"), (85, u "clone"), (0, u "()Ljava/lang/Object;")] 26

def k0c0 : Code := { maxStack := 0, maxLocals := 1, code := object_method_1_code, exceptionTable := #[], attributes := #[] }
def k0m0 : Method := { name := "<init>", desc := "()V", sig := { parameters := [], returnType := none }, accessFlags := 1, code := some k0c0 }
def k0m1 : Method := { name := "clone", desc := "()Ljava/lang/Object;", sig := { parameters := [], returnType := some (.object "java/lang/Object") }, accessFlags := 260, code := none }
/-- java/lang/Object -/
def k0 : Class := { plain "java/lang/Object" none with
  accessFlags := 33
  interfaces := #[]
  cf := some (fileOf pool0 8 #[] #[{ accessFlags := 1, nameIndex := 5, descriptorIndex := 6, attributes := #[] }, { accessFlags := 260, nameIndex := 96, descriptorIndex := 97, attributes := #[] }] 33 0 #[] #[])
  fields := #[]
  methods := #[k0m0, k0m1]
  instanceTypes := #[]
  staticTypes := #[]
  resolved := Array.replicate 124 none
  statics := none }

def pool1 : Array CpInfo := pool [(2, .class_ 4), (1, u "java/lang/Object"), (0, u "<init>"), (0, u "()V"), (0, .class_ 8), (0, u "java/lang/String"), (0, .methodref 7 10), (0, .nameAndType 5 11), (0, u "([C)V"), (0, .methodref 13 14), (0, .class_ 15), (0, .nameAndType 16 17), (0, u "com/example/harvestgate/harvestgate/http/Response"), (0, u "of"), (0, u "(ILjava/lang/String;[B)Lcom/example/harvestgate/harvestgate/http/Response;"), (0, .methodref 13 19), (0, .nameAndType 20 21), (0, u "body"), (0, u "()[B"), (0, .methodref 13 23), (0, .nameAndType 24 25), (0, u "status"), (0, u "()I"), (0, .methodref 13 27), (0, .nameAndType 28 29), (0, u "contentType"), (0, u "()Ljava/lang/String;"), (0, .methodref 7 31), (0, .nameAndType 32 33), (0, u "equals"), (0, u "(Ljava/lang/Object;)Z"), (0, .class_ 35), (0, u "com/example/harvestgate/harvestgate/http/ResponseOfPinLaw"), (2, u "law"), (0, u "(III)Z")] 7

def k1m0 : Method := { name := "<init>", desc := "()V", sig := { parameters := [], returnType := none }, accessFlags := 1, code := none }
def k1c1 : Code := { maxStack := 5, maxLocals := 11, code := code, exceptionTable := #[], attributes := #[] }
def k1m1 : Method := { name := "law", desc := "(III)Z", sig := { parameters := [.int, .int, .int], returnType := some .boolean }, accessFlags := 9, code := some k1c1 }
/-- com/example/harvestgate/harvestgate/http/ResponseOfPinLaw -/
def k1 : Class := { plain "com/example/harvestgate/harvestgate/http/ResponseOfPinLaw" (some 0) with
  accessFlags := 49
  interfaces := #[]
  cf := some (fileOf pool1 34 #[] #[{ accessFlags := 1, nameIndex := 5, descriptorIndex := 6, attributes := #[] }, { accessFlags := 9, nameIndex := 38, descriptorIndex := 39, attributes := #[] }] 49 2 #[] #[])
  fields := #[]
  methods := #[k1m0, k1m1]
  instanceTypes := #[]
  staticTypes := #[]
  resolved := Array.replicate 47 none
  statics := none }

def pool2 : Array CpInfo := pool [(1, .class_ 2), (0, u "java/io/Serializable"), (0, .class_ 4), (0, u "java/lang/Object")] 2

/-- java/io/Serializable -/
def k2 : Class := { plain "java/io/Serializable" (some 0) with
  accessFlags := 1537
  interfaces := #[]
  cf := some (fileOf pool2 1 #[] #[] 1537 3 #[] #[])
  fields := #[]
  methods := #[]
  instanceTypes := #[]
  staticTypes := #[]
  resolved := Array.replicate 7 none
  statics := none }

def pool3 : Array CpInfo := pool [(1, .class_ 2), (0, u "java/lang/Comparable"), (0, .class_ 4), (0, u "java/lang/Object")] 7

/-- java/lang/Comparable -/
def k3 : Class := { plain "java/lang/Comparable" (some 0) with
  accessFlags := 1537
  interfaces := #[]
  cf := some (fileOf pool3 1 #[] #[] 1537 3 #[] #[])
  fields := #[]
  methods := #[]
  instanceTypes := #[]
  staticTypes := #[]
  resolved := Array.replicate 12 none
  statics := none }

def pool4 : Array CpInfo := pool [(2, .class_ 4), (1, u "java/lang/CharSequence"), (42, .class_ 48), (0, u "java/lang/CharSequence$1CodePointIterator"), (10, .class_ 60), (0, u "java/lang/CharSequence$1CharIterator"), (5, .class_ 67), (0, u "java/lang/Object")] 63

/-- java/lang/CharSequence -/
def k4 : Class := { plain "java/lang/CharSequence" (some 0) with
  accessFlags := 1537
  interfaces := #[]
  cf := some (fileOf pool4 2 #[.nestMembers #[47, 59]] #[] 1537 66 #[] #[])
  fields := #[]
  methods := #[]
  instanceTypes := #[]
  staticTypes := #[]
  resolved := Array.replicate 131 none
  statics := none }

def pool5 : Array CpInfo := pool [(1, .class_ 2), (0, u "java/lang/constant/Constable"), (0, .class_ 4), (0, u "java/lang/Object")] 6

/-- java/lang/constant/Constable -/
def k5 : Class := { plain "java/lang/constant/Constable" (some 0) with
  accessFlags := 1537
  interfaces := #[]
  cf := some (fileOf pool5 1 #[] #[] 1537 3 #[] #[])
  fields := #[]
  methods := #[]
  instanceTypes := #[]
  staticTypes := #[]
  resolved := Array.replicate 11 none
  statics := none }

def pool6 : Array CpInfo := pool [(1, .class_ 2), (0, u "java/lang/constant/ConstantDesc"), (0, .class_ 4), (0, u "java/lang/Object")] 32

/-- java/lang/constant/ConstantDesc -/
def k6 : Class := { plain "java/lang/constant/ConstantDesc" (some 0) with
  accessFlags := 1537
  interfaces := #[]
  cf := some (fileOf pool6 1 #[] #[] 1537 3 #[] #[])
  fields := #[]
  methods := #[]
  instanceTypes := #[]
  staticTypes := #[]
  resolved := Array.replicate 37 none
  statics := none }

def pool7 : Array CpInfo := pool [(1, .methodref 2 3), (0, .class_ 4), (0, .nameAndType 5 6), (0, u "java/lang/Object"), (0, u "<init>"), (0, u "()V"), (2, .fieldref 10 11), (0, .class_ 12), (0, .nameAndType 13 14), (0, u "java/lang/String"), (0, u "value"), (0, u "[B"), (0, .fieldref 10 16), (0, .nameAndType 17 18), (0, u "coder"), (0, u "B"), (2, u "hash"), (0, u "I"), (2, u "hashIsZero"), (0, u "Z"), (0, .methodref 10 28), (0, .nameAndType 5 29), (0, u "([CIILjava/lang/Void;)V"), (8, .fieldref 10 39), (0, .nameAndType 40 26), (0, u "COMPACT_STRINGS"), (1, .class_ 44), (1, u "java/lang/StringUTF16"), (0, u "compress"), (1, .methodref 42 48), (0, .nameAndType 49 50), (0, u "coderFromArrayLen"), (0, u "([BI)B"), (126, .methodref 42 178), (0, .nameAndType 45 179), (0, u "([CII)[B"), (363, u "equals"), (29, u "(Ljava/lang/Object;)Z"), (1, .class_ 576), (0, u "java/lang/CharSequence"), (22, u "CASE_INSENSITIVE_ORDER"), (0, u "Ljava/util/Comparator;"), (409, u "([C)V"), (90, u "serialPersistentFields"), (0, u "[Ljava/io/ObjectStreamField;"), (0, .class_ 1104), (0, u "java/lang/String$CaseInsensitiveComparator"), (1, .class_ 1107), (0, u "java/io/Serializable"), (0, .class_ 1109), (0, u "java/lang/Comparable"), (0, .class_ 1111), (0, u "java/lang/constant/Constable"), (0, .class_ 1113), (0, u "java/lang/constant/ConstantDesc"), (2, u "serialVersionUID"), (0, u "J"), (3, u "REPL"), (0, u "C"), (2, u "LATIN1"), (1, u "UTF16")] 323

def k7m0 : Method := { name := "<init>", desc := "()V", sig := { parameters := [], returnType := none }, accessFlags := 1, code := none }
def k7c1 : Code := { maxStack := 5, maxLocals := 2, code := jdk_42_method_3_code, exceptionTable := #[], attributes := #[] }
def k7m1 : Method := { name := "<init>", desc := "([C)V", sig := { parameters := [(.array .char)], returnType := none }, accessFlags := 1, code := some k7c1 }
def k7c2 : Code := { maxStack := 2, maxLocals := 3, code := jdk_42_method_66_code, exceptionTable := #[], attributes := #[] }
def k7m2 : Method := { name := "equals", desc := "(Ljava/lang/Object;)Z", sig := { parameters := [(.object "java/lang/Object")], returnType := some .boolean }, accessFlags := 1, code := some k7c2 }
def k7c3 : Code := { maxStack := 4, maxLocals := 6, code := jdk_42_method_149_code, exceptionTable := #[], attributes := #[] }
def k7m3 : Method := { name := "<init>", desc := "([CIILjava/lang/Void;)V", sig := { parameters := [(.array .char), .int, .int, (.object "java/lang/Void")], returnType := none }, accessFlags := 2, code := some k7c3 }
/-- java/lang/String -/
def k7 : Class := { plain "java/lang/String" (some 0) with
  accessFlags := 49
  interfaces := #[2, 3, 4, 5, 6]
  cf := some (fileOf pool7 10 #[.nestMembers #[1103]] #[{ accessFlags := 1, nameIndex := 5, descriptorIndex := 6, attributes := #[] }, { accessFlags := 1, nameIndex := 5, descriptorIndex := 1010, attributes := #[] }, { accessFlags := 1, nameIndex := 543, descriptorIndex := 573, attributes := #[] }, { accessFlags := 2, nameIndex := 5, descriptorIndex := 29, attributes := #[] }] 49 2 #[1106, 1108, 575, 1110, 1112] #[{ accessFlags := 18, nameIndex := 13, descriptorIndex := 14, attributes := #[] }, { accessFlags := 18, nameIndex := 17, descriptorIndex := 18, attributes := #[] }, { accessFlags := 2, nameIndex := 21, descriptorIndex := 22, attributes := #[] }, { accessFlags := 2, nameIndex := 25, descriptorIndex := 26, attributes := #[] }, { accessFlags := 26, nameIndex := 1116, descriptorIndex := 1117, attributes := #[] }, { accessFlags := 24, nameIndex := 40, descriptorIndex := 26, attributes := #[] }, { accessFlags := 26, nameIndex := 1101, descriptorIndex := 1102, attributes := #[] }, { accessFlags := 26, nameIndex := 1121, descriptorIndex := 1122, attributes := #[] }, { accessFlags := 25, nameIndex := 599, descriptorIndex := 600, attributes := #[] }, { accessFlags := 24, nameIndex := 1125, descriptorIndex := 18, attributes := #[] }, { accessFlags := 24, nameIndex := 1127, descriptorIndex := 18, attributes := #[] }])
  fields := #[{ name := "value", type := (.array .byte), accessFlags := 18, slot := 0, constantValue := 0 }, { name := "coder", type := .byte, accessFlags := 18, slot := 1, constantValue := 0 }, { name := "hash", type := .int, accessFlags := 2, slot := 2, constantValue := 0 }, { name := "hashIsZero", type := .boolean, accessFlags := 2, slot := 3, constantValue := 0 }, { name := "serialVersionUID", type := .long, accessFlags := 26, slot := 0, constantValue := 0 }, { name := "COMPACT_STRINGS", type := .boolean, accessFlags := 24, slot := 1, constantValue := 0 }, { name := "serialPersistentFields", type := (.array (.object "java/io/ObjectStreamField")), accessFlags := 26, slot := 2, constantValue := 0 }, { name := "REPL", type := .char, accessFlags := 26, slot := 3, constantValue := 0 }, { name := "CASE_INSENSITIVE_ORDER", type := (.object "java/util/Comparator"), accessFlags := 25, slot := 4, constantValue := 0 }, { name := "LATIN1", type := .byte, accessFlags := 24, slot := 5, constantValue := 0 }, { name := "UTF16", type := .byte, accessFlags := 24, slot := 6, constantValue := 0 }]
  methods := #[k7m0, k7m1, k7m2, k7m3]
  instanceTypes := #[(.array .byte), .byte, .int, .boolean]
  staticTypes := #[.long, .boolean, (.array (.object "java/io/ObjectStreamField")), .char, (.object "java/util/Comparator"), .byte, .byte]
  resolved := Array.replicate 1451 none
  statics := some 0 }

def pool8 : Array CpInfo := pool [(6, .class_ 8), (1, u "java/lang/Object"), (0, u "<init>"), (0, u "()V"), (1, .class_ 14), (1, u "java/lang/StringUTF16"), (31, u "$assertionsDisabled"), (0, u "Z"), (13, u "HI_BYTE_SHIFT"), (0, u "I"), (2, u "LO_BYTE_SHIFT"), (49, .methodref 12 116), (0, .nameAndType 117 118), (0, u "compress"), (0, u "([CI[BII)I"), (3, u "([CII)[B"), (138, u "coderFromArrayLen"), (0, u "([BI)B"), (106, .class_ 371), (1, u "java/lang/StringUTF16$LinesSpliterator"), (58, u "MAX_LENGTH"), (196, .class_ 628), (0, u "java/lang/StringUTF16$CodePointsSpliterator"), (0, .class_ 630), (0, u "java/lang/StringUTF16$CharsSpliterator")] 4

def k8m0 : Method := { name := "<init>", desc := "()V", sig := { parameters := [], returnType := none }, accessFlags := 0, code := none }
def k8c1 : Code := { maxStack := 2, maxLocals := 2, code := jdk_52_method_15_code, exceptionTable := #[], attributes := #[] }
def k8m1 : Method := { name := "coderFromArrayLen", desc := "([BI)B", sig := { parameters := [(.array .byte), .int], returnType := some .byte }, accessFlags := 8, code := some k8c1 }
def k8c2 : Code := { maxStack := 5, maxLocals := 6, code := jdk_52_method_16_code, exceptionTable := #[], attributes := #[] }
def k8m2 : Method := { name := "compress", desc := "([CII)[B", sig := { parameters := [(.array .char), .int, .int], returnType := some (.array .byte) }, accessFlags := 9, code := some k8c2 }
def k8c3 : Code := { maxStack := 3, maxLocals := 7, code := jdk_52_method_21_code, exceptionTable := #[], attributes := #[] }
def k8m3 : Method := { name := "compress", desc := "([CI[BII)I", sig := { parameters := [(.array .char), .int, (.array .byte), .int, .int], returnType := some .int }, accessFlags := 9, code := some k8c3 }
/-- java/lang/StringUTF16 -/
def k8 : Class := { plain "java/lang/StringUTF16" (some 0) with
  accessFlags := 48
  interfaces := #[]
  cf := some (fileOf pool8 12 #[.nestMembers #[627, 629, 369]] #[{ accessFlags := 0, nameIndex := 9, descriptorIndex := 10, attributes := #[] }, { accessFlags := 8, nameIndex := 261, descriptorIndex := 262, attributes := #[] }, { accessFlags := 9, nameIndex := 117, descriptorIndex := 122, attributes := #[] }, { accessFlags := 9, nameIndex := 117, descriptorIndex := 118, attributes := #[] }] 48 6 #[] #[{ accessFlags := 26, nameIndex := 61, descriptorIndex := 62, attributes := #[] }, { accessFlags := 26, nameIndex := 65, descriptorIndex := 62, attributes := #[] }, { accessFlags := 24, nameIndex := 430, descriptorIndex := 62, attributes := #[] }, { accessFlags := 4120, nameIndex := 46, descriptorIndex := 47, attributes := #[] }])
  fields := #[{ name := "HI_BYTE_SHIFT", type := .int, accessFlags := 26, slot := 0, constantValue := 0 }, { name := "LO_BYTE_SHIFT", type := .int, accessFlags := 26, slot := 1, constantValue := 0 }, { name := "MAX_LENGTH", type := .int, accessFlags := 24, slot := 2, constantValue := 0 }, { name := "$assertionsDisabled", type := .boolean, accessFlags := 4120, slot := 3, constantValue := 0 }]
  methods := #[k8m0, k8m1, k8m2, k8m3]
  instanceTypes := #[]
  staticTypes := #[.int, .int, .int, .boolean]
  resolved := Array.replicate 635 none
  statics := none }

def pool9 : Array CpInfo := pool [(1, .methodref 2 3), (0, .class_ 4), (0, .nameAndType 5 6), (0, u "java/lang/Object"), (0, u "<init>"), (0, u "()V"), (0, .fieldref 8 9), (0, .class_ 10), (0, .nameAndType 11 12), (0, u "com/example/harvestgate/harvestgate/http/Response"), (0, u "status"), (0, u "I"), (0, .fieldref 8 14), (0, .nameAndType 15 16), (0, u "contentType"), (0, u "Ljava/lang/String;"), (0, .fieldref 8 18), (0, .nameAndType 19 20), (0, u "body"), (0, u "[B"), (0, .fieldref 8 22), (0, .nameAndType 23 24), (0, u "headers"), (0, u "Ljava/util/Map;"), (0, .methodref 26 27), (0, .class_ 20), (0, .nameAndType 28 29), (0, u "clone"), (0, u "()Ljava/lang/Object;"), (0, .interfaceMethodref 31 32), (0, .class_ 33), (0, .nameAndType 34 35), (0, u "java/util/Map"), (0, u "of"), (0, u "()Ljava/util/Map;"), (0, .methodref 8 37), (0, .nameAndType 5 38), (0, u "(ILjava/lang/String;[BLjava/util/Map;)V"), (32, u "(ILjava/lang/String;[B)Lcom/example/harvestgate/harvestgate/http/Response;"), (4, u "()I"), (0, u "()Ljava/lang/String;"), (0, u "()[B")] 3

def k9c0 : Code := { maxStack := 2, maxLocals := 5, code := prog_63_method_1_code, exceptionTable := #[], attributes := #[] }
def k9m0 : Method := { name := "<init>", desc := "(ILjava/lang/String;[BLjava/util/Map;)V", sig := { parameters := [.int, (.object "java/lang/String"), (.array .byte), (.object "java/util/Map")], returnType := none }, accessFlags := 2, code := some k9c0 }
def k9c1 : Code := { maxStack := 6, maxLocals := 3, code := prog_63_method_2_code, exceptionTable := #[], attributes := #[] }
def k9m1 : Method := { name := "of", desc := "(ILjava/lang/String;[B)Lcom/example/harvestgate/harvestgate/http/Response;", sig := { parameters := [.int, (.object "java/lang/String"), (.array .byte)], returnType := some (.object "com/example/harvestgate/harvestgate/http/Response") }, accessFlags := 9, code := some k9c1 }
def k9c2 : Code := { maxStack := 1, maxLocals := 1, code := prog_63_method_5_code, exceptionTable := #[], attributes := #[] }
def k9m2 : Method := { name := "status", desc := "()I", sig := { parameters := [], returnType := some .int }, accessFlags := 0, code := some k9c2 }
def k9c3 : Code := { maxStack := 1, maxLocals := 1, code := prog_63_method_6_code, exceptionTable := #[], attributes := #[] }
def k9m3 : Method := { name := "contentType", desc := "()Ljava/lang/String;", sig := { parameters := [], returnType := some (.object "java/lang/String") }, accessFlags := 0, code := some k9c3 }
def k9c4 : Code := { maxStack := 1, maxLocals := 1, code := prog_63_method_7_code, exceptionTable := #[], attributes := #[] }
def k9m4 : Method := { name := "body", desc := "()[B", sig := { parameters := [], returnType := some (.array .byte) }, accessFlags := 0, code := some k9c4 }
/-- com/example/harvestgate/harvestgate/http/Response -/
def k9 : Class := { plain "com/example/harvestgate/harvestgate/http/Response" (some 0) with
  accessFlags := 49
  interfaces := #[]
  cf := some (fileOf pool9 8 #[] #[{ accessFlags := 2, nameIndex := 5, descriptorIndex := 38, attributes := #[] }, { accessFlags := 9, nameIndex := 34, descriptorIndex := 71, attributes := #[] }, { accessFlags := 0, nameIndex := 11, descriptorIndex := 76, attributes := #[] }, { accessFlags := 0, nameIndex := 15, descriptorIndex := 77, attributes := #[] }, { accessFlags := 0, nameIndex := 19, descriptorIndex := 78, attributes := #[] }] 49 2 #[] #[{ accessFlags := 18, nameIndex := 11, descriptorIndex := 12, attributes := #[] }, { accessFlags := 18, nameIndex := 15, descriptorIndex := 16, attributes := #[] }, { accessFlags := 18, nameIndex := 19, descriptorIndex := 20, attributes := #[] }, { accessFlags := 18, nameIndex := 23, descriptorIndex := 24, attributes := #[] }])
  fields := #[{ name := "status", type := .int, accessFlags := 18, slot := 0, constantValue := 0 }, { name := "contentType", type := (.object "java/lang/String"), accessFlags := 18, slot := 1, constantValue := 0 }, { name := "body", type := (.array .byte), accessFlags := 18, slot := 2, constantValue := 0 }, { name := "headers", type := (.object "java/util/Map"), accessFlags := 18, slot := 3, constantValue := 0 }]
  methods := #[k9m0, k9m1, k9m2, k9m3, k9m4]
  instanceTypes := #[.int, (.object "java/lang/String"), (.array .byte), (.object "java/util/Map")]
  staticTypes := #[]
  resolved := Array.replicate 82 none
  statics := none }

def pool10 : Array CpInfo := pool [(1, .class_ 2), (0, u "java/lang/Cloneable"), (0, .class_ 4), (0, u "java/lang/Object")] 2

/-- java/lang/Cloneable -/
def k10 : Class := { plain "java/lang/Cloneable" (some 0) with
  accessFlags := 1537
  interfaces := #[]
  cf := some (fileOf pool10 1 #[] #[] 1537 3 #[] #[])
  fields := #[]
  methods := #[]
  instanceTypes := #[]
  staticTypes := #[]
  resolved := Array.replicate 7 none
  statics := none }

def pool11 : Array CpInfo := pool [(2, .class_ 4), (1, u "java/util/Map"), (31, .class_ 37), (0, u "java/util/Map$Entry"), (43, .fieldref 82 83), (0, .class_ 84), (0, .nameAndType 85 86), (0, u "java/util/ImmutableCollections"), (0, u "EMPTY_MAP"), (0, u "Ljava/util/ImmutableCollections$MapN;"), (6, .class_ 94), (0, u "java/lang/Object"), (13, u "of"), (0, u "()Ljava/util/Map;")] 153

def k11c0 : Code := { maxStack := 1, maxLocals := 0, code := jdk_72_method_26_code, exceptionTable := #[], attributes := #[] }
def k11m0 : Method := { name := "of", desc := "()Ljava/util/Map;", sig := { parameters := [], returnType := some (.object "java/util/Map") }, accessFlags := 9, code := some k11c0 }
/-- java/util/Map -/
def k11 : Class := { plain "java/util/Map" (some 0) with
  accessFlags := 1537
  interfaces := #[]
  cf := some (fileOf pool11 2 #[.nestMembers #[36]] #[{ accessFlags := 9, nameIndex := 108, descriptorIndex := 109, attributes := #[] }] 1537 93 #[] #[])
  fields := #[]
  methods := #[k11m0]
  instanceTypes := #[]
  staticTypes := #[]
  resolved := Array.replicate 263 none
  statics := none }

def pool12 : Array CpInfo := pool [(2, .class_ 4), (1, u "java/lang/Object"), (0, u "<init>"), (0, u "()V"), (3, .class_ 11), (0, u "java/util/ImmutableCollections$List12"), (0, .class_ 13), (0, u "java/util/ImmutableCollections$ListN"), (3, u "Z"), (29, .class_ 49), (1, u "java/util/ImmutableCollections"), (0, u "$assertionsDisabled"), (5, u "[Ljava/lang/Object;"), (5, u "EMPTY_LIST"), (0, u "Ljava/util/ImmutableCollections$ListN;"), (8, u "EMPTY_LIST_NULLS"), (22, u "SALT32L"), (0, u "J"), (2, u "REVERSE"), (6, u "archivedObjects"), (2, u "EMPTY"), (0, u "Ljava/lang/Object;"), (0, .class_ 112), (0, u "java/util/ImmutableCollections$SetN"), (5, u "EMPTY_SET"), (0, u "Ljava/util/ImmutableCollections$SetN;"), (0, .class_ 121), (0, u "java/util/ImmutableCollections$MapN"), (3, u "EMPTY_MAP"), (0, u "Ljava/util/ImmutableCollections$MapN;"), (4, u "EXPAND_FACTOR"), (0, u "I"), (36, .class_ 170), (0, u "java/util/ImmutableCollections$MapN$MapNIterator"), (0, .class_ 172), (0, u "java/util/ImmutableCollections$MapN$1"), (0, .class_ 174), (0, u "java/util/ImmutableCollections$Map1"), (0, .class_ 176), (0, u "java/util/ImmutableCollections$AbstractImmutableMap"), (0, .class_ 178), (0, u "java/util/ImmutableCollections$SetN$SetNIterator"), (0, .class_ 180), (0, u "java/util/ImmutableCollections$Set12"), (0, .class_ 182), (0, u "java/util/ImmutableCollections$Set12$1"), (0, .class_ 184), (0, u "java/util/ImmutableCollections$AbstractImmutableSet"), (0, .class_ 186), (0, u "java/util/ImmutableCollections$SubList"), (0, .class_ 188), (0, u "java/util/ImmutableCollections$ListItr"), (0, .class_ 190), (0, u "java/util/ImmutableCollections$AbstractImmutableList"), (0, .class_ 192), (0, u "java/util/ImmutableCollections$AbstractImmutableCollection"), (0, .class_ 194), (0, u "java/util/ImmutableCollections$Access"), (0, .class_ 196), (0, u "java/util/ImmutableCollections$Access$1")] 16

def k12m0 : Method := { name := "<init>", desc := "()V", sig := { parameters := [], returnType := none }, accessFlags := 2, code := none }
/-- java/util/ImmutableCollections -/
def k12 : Class := { plain "java/util/ImmutableCollections" (some 0) with
  accessFlags := 32
  interfaces := #[]
  cf := some (fileOf pool12 47 #[.nestMembers #[120, 169, 171, 173, 175, 111, 177, 179, 181, 183, 12, 10, 185, 187, 189, 191, 193, 195]] #[{ accessFlags := 2, nameIndex := 5, descriptorIndex := 6, attributes := #[] }] 32 2 #[] #[{ accessFlags := 26, nameIndex := 95, descriptorIndex := 96, attributes := #[] }, { accessFlags := 26, nameIndex := 99, descriptorIndex := 17, attributes := #[] }, { accessFlags := 10, nameIndex := 106, descriptorIndex := 56, attributes := #[] }, { accessFlags := 26, nameIndex := 109, descriptorIndex := 110, attributes := #[] }, { accessFlags := 24, nameIndex := 62, descriptorIndex := 63, attributes := #[] }, { accessFlags := 24, nameIndex := 72, descriptorIndex := 63, attributes := #[] }, { accessFlags := 24, nameIndex := 118, descriptorIndex := 119, attributes := #[] }, { accessFlags := 24, nameIndex := 125, descriptorIndex := 126, attributes := #[] }, { accessFlags := 24, nameIndex := 131, descriptorIndex := 132, attributes := #[] }, { accessFlags := 4120, nameIndex := 50, descriptorIndex := 17, attributes := #[] }])
  fields := #[{ name := "SALT32L", type := .long, accessFlags := 26, slot := 0, constantValue := 0 }, { name := "REVERSE", type := .boolean, accessFlags := 26, slot := 1, constantValue := 0 }, { name := "archivedObjects", type := (.array (.object "java/lang/Object")), accessFlags := 10, slot := 2, constantValue := 0 }, { name := "EMPTY", type := (.object "java/lang/Object"), accessFlags := 26, slot := 3, constantValue := 0 }, { name := "EMPTY_LIST", type := (.object "java/util/ImmutableCollections$ListN"), accessFlags := 24, slot := 4, constantValue := 0 }, { name := "EMPTY_LIST_NULLS", type := (.object "java/util/ImmutableCollections$ListN"), accessFlags := 24, slot := 5, constantValue := 0 }, { name := "EMPTY_SET", type := (.object "java/util/ImmutableCollections$SetN"), accessFlags := 24, slot := 6, constantValue := 0 }, { name := "EMPTY_MAP", type := (.object "java/util/ImmutableCollections$MapN"), accessFlags := 24, slot := 7, constantValue := 0 }, { name := "EXPAND_FACTOR", type := .int, accessFlags := 24, slot := 8, constantValue := 0 }, { name := "$assertionsDisabled", type := .boolean, accessFlags := 4120, slot := 9, constantValue := 0 }]
  methods := #[k12m0]
  instanceTypes := #[]
  staticTypes := #[.long, .boolean, (.array (.object "java/lang/Object")), (.object "java/lang/Object"), (.object "java/util/ImmutableCollections$ListN"), (.object "java/util/ImmutableCollections$ListN"), (.object "java/util/ImmutableCollections$SetN"), (.object "java/util/ImmutableCollections$MapN"), .int, .boolean]
  resolved := Array.replicate 213 none
  statics := some 1 }

def pool13 : Array CpInfo := pool [(4, .class_ 6), (1, u "java/lang/Object"), (0, u "<init>"), (0, u "()V"), (5, .class_ 16), (1, u "java/lang/StringLatin1"), (104, u "$assertionsDisabled"), (0, u "Z"), (98, .class_ 223), (1, u "java/lang/StringLatin1$LinesSpliterator"), (166, .class_ 391), (0, u "java/lang/StringLatin1$CharsSpliterator")] 3

def k13m0 : Method := { name := "<init>", desc := "()V", sig := { parameters := [], returnType := none }, accessFlags := 0, code := none }
/-- java/lang/StringLatin1 -/
def k13 : Class := { plain "java/lang/StringLatin1" (some 0) with
  accessFlags := 48
  interfaces := #[]
  cf := some (fileOf pool13 14 #[.nestMembers #[390, 221]] #[{ accessFlags := 0, nameIndex := 7, descriptorIndex := 8, attributes := #[] }] 48 4 #[] #[{ accessFlags := 4120, nameIndex := 121, descriptorIndex := 122, attributes := #[] }])
  fields := #[{ name := "$assertionsDisabled", type := .boolean, accessFlags := 4120, slot := 0, constantValue := 0 }]
  methods := #[k13m0]
  instanceTypes := #[]
  staticTypes := #[.boolean]
  resolved := Array.replicate 395 none
  statics := none }

def pool14 : Array CpInfo := pool [(2, .class_ 4), (1, u "java/lang/Object"), (0, u "<init>"), (0, u "()V"), (17, .class_ 26), (1, u "jdk/internal/util/Preconditions"), (28, .class_ 56), (0, u "jdk/internal/util/Preconditions$4"), (57, .class_ 115), (0, u "jdk/internal/util/Preconditions$1"), (7, u "SIOOBE_FORMATTER"), (0, u "Ljava/util/function/BiFunction;"), (0, .class_ 126), (0, u "jdk/internal/util/Preconditions$2"), (3, u "AIOOBE_FORMATTER"), (0, .class_ 132), (0, u "jdk/internal/util/Preconditions$3"), (3, u "IOOBE_FORMATTER")] 57

def k14m0 : Method := { name := "<init>", desc := "()V", sig := { parameters := [], returnType := none }, accessFlags := 1, code := none }
/-- jdk/internal/util/Preconditions -/
def k14 : Class := { plain "jdk/internal/util/Preconditions" (some 0) with
  accessFlags := 33
  interfaces := #[]
  cf := some (fileOf pool14 24 #[.nestMembers #[55, 131, 125, 114]] #[{ accessFlags := 1, nameIndex := 5, descriptorIndex := 6, attributes := #[] }] 33 2 #[] #[{ accessFlags := 25, nameIndex := 123, descriptorIndex := 124, attributes := #[] }, { accessFlags := 25, nameIndex := 130, descriptorIndex := 124, attributes := #[] }, { accessFlags := 25, nameIndex := 136, descriptorIndex := 124, attributes := #[] }])
  fields := #[{ name := "SIOOBE_FORMATTER", type := (.object "java/util/function/BiFunction"), accessFlags := 25, slot := 0, constantValue := 0 }, { name := "AIOOBE_FORMATTER", type := (.object "java/util/function/BiFunction"), accessFlags := 25, slot := 1, constantValue := 0 }, { name := "IOOBE_FORMATTER", type := (.object "java/util/function/BiFunction"), accessFlags := 25, slot := 2, constantValue := 0 }]
  methods := #[k14m0]
  instanceTypes := #[]
  staticTypes := #[(.object "java/util/function/BiFunction"), (.object "java/util/function/BiFunction"), (.object "java/util/function/BiFunction")]
  resolved := Array.replicate 194 none
  statics := some 2 }

def pool15 : Array CpInfo := pool [(9, u "<init>"), (6, .class_ 18), (1, u "java/lang/Object"), (0, u "()V"), (1, .class_ 23), (1, u "jdk/internal/util/ArraysSupport"), (0, u "LOG2_ARRAY_LONG_INDEX_SCALE"), (0, u "I"), (2, u "U"), (0, u "Ljdk/internal/misc/Unsafe;"), (8, u "BIG_ENDIAN"), (0, u "Z"), (8, u "LOG2_BYTE_BIT_SIZE"), (4, u "LOG2_ARRAY_INT_INDEX_SCALE"), (54, u "JLA"), (0, u "Ljdk/internal/access/JavaLangAccess;"), (11, u "LOG2_ARRAY_BOOLEAN_INDEX_SCALE"), (9, u "LOG2_ARRAY_BYTE_INDEX_SCALE"), (5, u "LOG2_ARRAY_CHAR_INDEX_SCALE"), (5, u "LOG2_ARRAY_SHORT_INDEX_SCALE"), (18, u "LOG2_ARRAY_FLOAT_INDEX_SCALE"), (24, u "LOG2_ARRAY_DOUBLE_INDEX_SCALE"), (89, u "T_BOOLEAN"), (2, u "T_CHAR"), (1, u "T_FLOAT"), (1, u "T_DOUBLE"), (1, u "T_BYTE"), (1, u "T_SHORT"), (1, u "T_INT"), (1, u "T_LONG"), (1, u "SOFT_MAX_ARRAY_LENGTH")] 83

def k15m0 : Method := { name := "<init>", desc := "()V", sig := { parameters := [], returnType := none }, accessFlags := 2, code := none }
/-- jdk/internal/util/ArraysSupport -/
def k15 : Class := { plain "jdk/internal/util/ArraysSupport" (some 0) with
  accessFlags := 33
  interfaces := #[]
  cf := some (fileOf pool15 21 #[] #[{ accessFlags := 2, nameIndex := 9, descriptorIndex := 19, attributes := #[] }] 33 16 #[] #[{ accessFlags := 24, nameIndex := 28, descriptorIndex := 29, attributes := #[] }, { accessFlags := 26, nameIndex := 38, descriptorIndex := 39, attributes := #[] }, { accessFlags := 25, nameIndex := 121, descriptorIndex := 25, attributes := #[] }, { accessFlags := 25, nameIndex := 131, descriptorIndex := 25, attributes := #[] }, { accessFlags := 25, nameIndex := 137, descriptorIndex := 25, attributes := #[] }, { accessFlags := 25, nameIndex := 143, descriptorIndex := 25, attributes := #[] }, { accessFlags := 25, nameIndex := 53, descriptorIndex := 25, attributes := #[] }, { accessFlags := 25, nameIndex := 24, descriptorIndex := 25, attributes := #[] }, { accessFlags := 25, nameIndex := 162, descriptorIndex := 25, attributes := #[] }, { accessFlags := 25, nameIndex := 187, descriptorIndex := 25, attributes := #[] }, { accessFlags := 26, nameIndex := 48, descriptorIndex := 25, attributes := #[] }, { accessFlags := 25, nameIndex := 277, descriptorIndex := 25, attributes := #[] }, { accessFlags := 25, nameIndex := 280, descriptorIndex := 25, attributes := #[] }, { accessFlags := 25, nameIndex := 282, descriptorIndex := 25, attributes := #[] }, { accessFlags := 25, nameIndex := 284, descriptorIndex := 25, attributes := #[] }, { accessFlags := 25, nameIndex := 286, descriptorIndex := 25, attributes := #[] }, { accessFlags := 25, nameIndex := 288, descriptorIndex := 25, attributes := #[] }, { accessFlags := 25, nameIndex := 290, descriptorIndex := 25, attributes := #[] }, { accessFlags := 25, nameIndex := 292, descriptorIndex := 25, attributes := #[] }, { accessFlags := 26, nameIndex := 108, descriptorIndex := 109, attributes := #[] }, { accessFlags := 25, nameIndex := 294, descriptorIndex := 25, attributes := #[] }])
  fields := #[{ name := "U", type := (.object "jdk/internal/misc/Unsafe"), accessFlags := 24, slot := 0, constantValue := 0 }, { name := "BIG_ENDIAN", type := .boolean, accessFlags := 26, slot := 1, constantValue := 0 }, { name := "LOG2_ARRAY_BOOLEAN_INDEX_SCALE", type := .int, accessFlags := 25, slot := 2, constantValue := 0 }, { name := "LOG2_ARRAY_BYTE_INDEX_SCALE", type := .int, accessFlags := 25, slot := 3, constantValue := 0 }, { name := "LOG2_ARRAY_CHAR_INDEX_SCALE", type := .int, accessFlags := 25, slot := 4, constantValue := 0 }, { name := "LOG2_ARRAY_SHORT_INDEX_SCALE", type := .int, accessFlags := 25, slot := 5, constantValue := 0 }, { name := "LOG2_ARRAY_INT_INDEX_SCALE", type := .int, accessFlags := 25, slot := 6, constantValue := 0 }, { name := "LOG2_ARRAY_LONG_INDEX_SCALE", type := .int, accessFlags := 25, slot := 7, constantValue := 0 }, { name := "LOG2_ARRAY_FLOAT_INDEX_SCALE", type := .int, accessFlags := 25, slot := 8, constantValue := 0 }, { name := "LOG2_ARRAY_DOUBLE_INDEX_SCALE", type := .int, accessFlags := 25, slot := 9, constantValue := 0 }, { name := "LOG2_BYTE_BIT_SIZE", type := .int, accessFlags := 26, slot := 10, constantValue := 0 }, { name := "T_BOOLEAN", type := .int, accessFlags := 25, slot := 11, constantValue := 0 }, { name := "T_CHAR", type := .int, accessFlags := 25, slot := 12, constantValue := 0 }, { name := "T_FLOAT", type := .int, accessFlags := 25, slot := 13, constantValue := 0 }, { name := "T_DOUBLE", type := .int, accessFlags := 25, slot := 14, constantValue := 0 }, { name := "T_BYTE", type := .int, accessFlags := 25, slot := 15, constantValue := 0 }, { name := "T_SHORT", type := .int, accessFlags := 25, slot := 16, constantValue := 0 }, { name := "T_INT", type := .int, accessFlags := 25, slot := 17, constantValue := 0 }, { name := "T_LONG", type := .int, accessFlags := 25, slot := 18, constantValue := 0 }, { name := "JLA", type := (.object "jdk/internal/access/JavaLangAccess"), accessFlags := 26, slot := 19, constantValue := 0 }, { name := "SOFT_MAX_ARRAY_LENGTH", type := .int, accessFlags := 25, slot := 20, constantValue := 0 }]
  methods := #[k15m0]
  instanceTypes := #[]
  staticTypes := #[(.object "jdk/internal/misc/Unsafe"), .boolean, .int, .int, .int, .int, .int, .int, .int, .int, .int, .int, .int, .int, .int, .int, .int, .int, .int, (.object "jdk/internal/access/JavaLangAccess"), .int]
  resolved := Array.replicate 378 none
  statics := none }

def pool16 : Array CpInfo := pool [(2, .class_ 4), (1, u "java/lang/Object"), (0, u "<init>"), (0, u "()V"), (1, .class_ 10), (1, u "java/util/AbstractMap"), (42, .class_ 54), (0, u "java/util/Map"), (9, u "keySet"), (0, u "Ljava/util/Set;"), (0, .class_ 67), (0, u "java/util/AbstractMap$1"), (5, u "values"), (0, u "Ljava/util/Collection;"), (0, .class_ 76), (0, u "java/util/AbstractMap$2"), (104, .class_ 182), (0, u "java/util/AbstractMap$ViewCollection"), (0, .class_ 184), (0, u "java/util/AbstractMap$SimpleImmutableEntry"), (0, .class_ 186), (0, u "java/util/AbstractMap$SimpleEntry"), (0, .class_ 188), (0, u "java/util/AbstractMap$2$1"), (0, .class_ 190), (0, u "java/util/AbstractMap$1$1")] 5

def k16m0 : Method := { name := "<init>", desc := "()V", sig := { parameters := [], returnType := none }, accessFlags := 4, code := none }
/-- java/util/AbstractMap -/
def k16 : Class := { plain "java/util/AbstractMap" (some 0) with
  accessFlags := 1057
  interfaces := #[11]
  cf := some (fileOf pool16 8 #[.nestMembers #[181, 183, 185, 75, 187, 66, 189]] #[{ accessFlags := 4, nameIndex := 5, descriptorIndex := 6, attributes := #[] }] 1057 2 #[53] #[{ accessFlags := 128, nameIndex := 64, descriptorIndex := 65, attributes := #[] }, { accessFlags := 128, nameIndex := 73, descriptorIndex := 74, attributes := #[] }])
  fields := #[{ name := "keySet", type := (.object "java/util/Set"), accessFlags := 128, slot := 0, constantValue := 0 }, { name := "values", type := (.object "java/util/Collection"), accessFlags := 128, slot := 1, constantValue := 0 }]
  methods := #[k16m0]
  instanceTypes := #[(.object "java/util/Set"), (.object "java/util/Collection")]
  staticTypes := #[]
  resolved := Array.replicate 196 none
  statics := none }

def pool17 : Array CpInfo := pool [(2, .class_ 4), (1, u "java/util/AbstractMap"), (0, u "<init>"), (0, u "()V"), (1, .class_ 10), (1, u "java/util/ImmutableCollections"), (3, .class_ 16), (1, u "java/util/ImmutableCollections$AbstractImmutableMap"), (2, .class_ 20), (0, u "java/io/Serializable")] 66

def k17m0 : Method := { name := "<init>", desc := "()V", sig := { parameters := [], returnType := none }, accessFlags := 0, code := none }
/-- java/util/ImmutableCollections$AbstractImmutableMap -/
def k17 : Class := { plain "java/util/ImmutableCollections$AbstractImmutableMap" (some 16) with
  accessFlags := 1056
  interfaces := #[2]
  cf := some (fileOf pool17 14 #[.nestHost 8] #[{ accessFlags := 0, nameIndex := 5, descriptorIndex := 6, attributes := #[] }] 1056 2 #[19] #[])
  fields := #[]
  methods := #[k17m0]
  instanceTypes := #[(.object "java/util/Set"), (.object "java/util/Collection")]
  staticTypes := #[]
  resolved := Array.replicate 87 none
  statics := none }

def pool18 : Array CpInfo := pool [(1, .class_ 2), (0, u "java/util/ImmutableCollections"), (1, .class_ 6), (1, u "java/util/ImmutableCollections$AbstractImmutableMap"), (10, .class_ 19), (1, u "java/util/ImmutableCollections$MapN"), (0, u "size"), (0, u "I"), (4, u "table"), (0, u "[Ljava/lang/Object;")] 121

/-- java/util/ImmutableCollections$MapN -/
def k18 : Class := { plain "java/util/ImmutableCollections$MapN" (some 17) with
  accessFlags := 48
  interfaces := #[]
  cf := some (fileOf pool18 17 #[.nestHost 1] #[] 48 4 #[] #[{ accessFlags := 16, nameIndex := 26, descriptorIndex := 27, attributes := #[] }, { accessFlags := 16, nameIndex := 20, descriptorIndex := 21, attributes := #[] }])
  fields := #[{ name := "table", type := (.array (.object "java/lang/Object")), accessFlags := 16, slot := 2, constantValue := 0 }, { name := "size", type := .int, accessFlags := 16, slot := 3, constantValue := 0 }]
  methods := #[]
  instanceTypes := #[(.object "java/util/Set"), (.object "java/util/Collection"), (.array (.object "java/lang/Object")), .int]
  staticTypes := #[]
  resolved := Array.replicate 149 none
  statics := none }

/-- the primitive byte -/
def k19 : Class := { plain "byte" none with kind := .primitive 'B', accessFlags := 0x411 }
/-- [B -/
def k20 : Class := { plain "[B" (some 0) with kind := .array 19 .byte, interfaces := #[10, 2], accessFlags := 1041 }

/-- the primitive char -/
def k21 : Class := { plain "char" none with kind := .primitive 'C', accessFlags := 0x411 }
/-- [C -/
def k22 : Class := { plain "[C" (some 0) with kind := .array 21 .char, interfaces := #[10, 2], accessFlags := 1041 }

/-- the primitive int -/
def k23 : Class := { plain "int" none with kind := .primitive 'I', accessFlags := 0x411 }
/-- [I -/
def k24 : Class := { plain "[I" (some 0) with kind := .array 23 .int, interfaces := #[10, 2], accessFlags := 1041 }

/-- [Ljava/lang/Object; -/
def k25 : Class := { plain "[Ljava/lang/Object;" (some 0) with kind := .array 0 (.object "java/lang/Object"), interfaces := #[10, 2], accessFlags := 1041 }

def heap : Heap := #[{ cls := 7, slots := #[.long 0, .int 1, .null, .int 0, .null, .int 0, .int 0], vm := .statics 7 },
  { cls := 12, slots := #[.long 0, .int 0, .null, .null, .null, .null, .null, .ref 4, .int 0, .int 0], vm := .statics 12 },
  { cls := 14, slots := #[.null, .null, .null], vm := .statics 14 },
  { cls := 25, slots := #[], vm := .none },
  { cls := 18, slots := #[.null, .null, .ref 3, .int 0], vm := .none }]
def classes : Array Class := #[k0, k1, k2, k3, k4, k5, k6, k7, k8, k9, k10, k11, k12, k13, k14, k15, k16, k17, k18, k19, k20, k21, k22, k23, k24, k25]
def interned : List (Array UInt16 × Addr) := []
def slotsUsed : Nat := 24
def theMethod : MethodId := ⟨1, 1⟩
def args0 : Array Value := #[.int 5, .int 7, .int 9]
def aboutOver (below : List Frame) : State where
  vm := { classes := classes, interned := interned.toArray }
  heap := heap
  slotsUsed := slotsUsed
  threads := #[{ frames := .invoking theMethod args0 :: below }]
def below0 : List Frame := [.native { method := ⟨0, 0⟩, args := #[] }]
def about1 : State := aboutOver below0
def p0 : Program := .bare "" "" ""
def e0 : Env := launch0.env 0 0 0
theorem w_frames : about1.frames = Frame.invoking theMethod args0 :: below0 := rfl
set_option maxRecDepth 65536 in
theorem w_args : argsFit about1.vm theMethod args0 = true := by decide +kernel
set_option maxRecDepth 65536 in
theorem w_heap : heapFits about1 = true := by decide +kernel
set_option maxRecDepth 65536 in
theorem w_runnable : about1.curStatus? = some .runnable := by decide +kernel
set_option maxRecDepth 65536 in
theorem w_alone : about1.alone = true := by decide +kernel
set_option maxRecDepth 65536 in
theorem w_named : about1.methodNamed? x = some theMethod := by decide +kernel
set_option maxRecDepth 65536 in
theorem w_hears : about1.hears theMethod below0 = true := by decide +kernel
set_option maxRecDepth 65536 in
theorem w_ripe : about1.ripe theMethod args0 below0 = true := by decide +kernel
theorem w_running : about1.status = .running := rfl
set_option maxRecDepth 65536 in
theorem w_room : about1.hasRoom e0.platform room_1 = true :=
  launch0.hasRoom_least _ room_1 (by decide +kernel) (by decide +kernel) (by decide +kernel) (by decide +kernel) (by decide +kernel) (by decide +kernel)
theorem allAtoms_all (ts : List Jvm.Cond) (a : Array Jvm.Value) (st : Jvm.State) : (allAtoms ts).before a st = ts.all (fun c => c.before a st) := by
  induction ts with
  | nil => rfl
  | cons c t ih =>
    show (Jvm.Cond.and c (allAtoms t)).before a st = _
    rw [Jvm.Cond.before_and, ih, List.all_cons]
def words1 : List Jvm.Cond := Jvm.Cond.code x code maxLocals ret :: tables_1
/-- a 'code' word, met by the world's own term for the bytes: nothing is compared byte by byte -/
theorem code_word {y : MethodName} {bytes : ByteArray} {mx : Nat} {rt : Option FieldType} {a : Array Value} {s : State} {m : MethodId} {meth : Method} {c : Code} (h1 : s.methodNamed? y = some m) (h2 : s.vm.method? m = some meth) (h3 : meth.code = some c) (h4 : c.code = bytes)
    (h5 : (c.maxLocals == mx && c.exceptionTable.isEmpty && decide (c.maxStack ≤ mostOperands) && decide (meth.sig.returnType = rt) && !meth.locks && decide (parseMethodDescriptor y.desc = some meth.sig)) = true) : (Jvm.Cond.code y bytes mx rt).before a s = true := by
  simp only [Bool.and_eq_true, beq_iff_eq, Bool.not_eq_true', decide_eq_true_eq] at h5
  obtain ⟨⟨⟨⟨⟨g1, g2⟩, g3⟩, g4⟩, g5⟩, g6⟩ := h5
  simp [Cond.before, Cond.holds, Cond.value, h1, h2, h3, h4, g1, g2, g3, g4, g5, g6]
def isCode : Jvm.Cond → Bool
  | .code _ _ _ _ => true
  | _ => false
theorem all_split {L : List Jvm.Cond} {P : Jvm.Cond → Bool} (h1 : L.all (fun c => isCode c || P c) = true) (h2 : ∀ c ∈ L.filter isCode, P c = true) : L.all P = true := by
  refine List.all_eq_true.mpr fun c hc => ?_
  have h := List.all_eq_true.mp h1 c hc
  rcases Bool.eq_false_or_eq_true (isCode c) with hi | hi
  · exact h2 c (List.mem_filter.mpr ⟨hc, hi⟩)
  · simpa [hi] using h
set_option maxRecDepth 65536 in
theorem w_c0 : (Jvm.Cond.code x code maxLocals ret).before args0 about1 = true := code_word (m := ⟨1, 1⟩) (meth := k1m1) (c := k1c1) (by decide +kernel) rfl rfl rfl (by decide +kernel)
set_option maxRecDepth 65536 in
theorem w_c1 : (Jvm.Cond.code ({ cls := "java/lang/String", name := "<init>", desc := "([C)V" } : Jvm.MethodName) jdk_42_method_3_code (2 : Nat) (Option.none : Option Jvm.ClassFile.FieldType)).before args0 about1 = true := code_word (m := ⟨7, 1⟩) (meth := k7m1) (c := k7c1) (by decide +kernel) rfl rfl rfl (by decide +kernel)
set_option maxRecDepth 65536 in
theorem w_c2 : (Jvm.Cond.code ({ cls := "java/lang/String", name := "<init>", desc := "([CIILjava/lang/Void;)V" } : Jvm.MethodName) jdk_42_method_149_code (6 : Nat) (Option.none : Option Jvm.ClassFile.FieldType)).before args0 about1 = true := code_word (m := ⟨7, 3⟩) (meth := k7m3) (c := k7c3) (by decide +kernel) rfl rfl rfl (by decide +kernel)
set_option maxRecDepth 65536 in
theorem w_c3 : (Jvm.Cond.code ({ cls := "java/lang/Object", name := "<init>", desc := "()V" } : Jvm.MethodName) object_method_1_code (1 : Nat) (Option.none : Option Jvm.ClassFile.FieldType)).before args0 about1 = true := code_word (m := ⟨0, 0⟩) (meth := k0m0) (c := k0c0) (by decide +kernel) rfl rfl rfl (by decide +kernel)
set_option maxRecDepth 65536 in
theorem w_c4 : (Jvm.Cond.code ({ cls := "java/lang/StringUTF16", name := "compress", desc := "([CII)[B" } : Jvm.MethodName) jdk_52_method_16_code (6 : Nat) (Option.some (Jvm.ClassFile.FieldType.array Jvm.ClassFile.FieldType.byte))).before args0 about1 = true := code_word (m := ⟨8, 2⟩) (meth := k8m2) (c := k8c2) (by decide +kernel) rfl rfl rfl (by decide +kernel)
set_option maxRecDepth 65536 in
theorem w_c5 : (Jvm.Cond.code ({ cls := "java/lang/StringUTF16", name := "compress", desc := "([CI[BII)I" } : Jvm.MethodName) jdk_52_method_21_code (7 : Nat) (Option.some Jvm.ClassFile.FieldType.int)).before args0 about1 = true := code_word (m := ⟨8, 3⟩) (meth := k8m3) (c := k8c3) (by decide +kernel) rfl rfl rfl (by decide +kernel)
set_option maxRecDepth 65536 in
theorem w_c6 : (Jvm.Cond.code ({ cls := "java/lang/StringUTF16", name := "coderFromArrayLen", desc := "([BI)B" } : Jvm.MethodName) jdk_52_method_15_code (2 : Nat) (Option.some Jvm.ClassFile.FieldType.byte)).before args0 about1 = true := code_word (m := ⟨8, 1⟩) (meth := k8m1) (c := k8c1) (by decide +kernel) rfl rfl rfl (by decide +kernel)
set_option maxRecDepth 65536 in
theorem w_c7 : (Jvm.Cond.code ({ cls := "com/example/harvestgate/harvestgate/http/Response", name := "of", desc := "(ILjava/lang/String;[B)Lcom/example/harvestgate/harvestgate/http/Response;" } : Jvm.MethodName) prog_63_method_2_code (3 : Nat) (Option.some (Jvm.ClassFile.FieldType.object "com/example/harvestgate/harvestgate/http/Response"))).before args0 about1 = true := code_word (m := ⟨9, 1⟩) (meth := k9m1) (c := k9c1) (by decide +kernel) rfl rfl rfl (by decide +kernel)
set_option maxRecDepth 65536 in
theorem w_c8 : (Jvm.Cond.code ({ cls := "java/util/Map", name := "of", desc := "()Ljava/util/Map;" } : Jvm.MethodName) jdk_72_method_26_code (0 : Nat) (Option.some (Jvm.ClassFile.FieldType.object "java/util/Map"))).before args0 about1 = true := code_word (m := ⟨11, 0⟩) (meth := k11m0) (c := k11c0) (by decide +kernel) rfl rfl rfl (by decide +kernel)
set_option maxRecDepth 65536 in
theorem w_c9 : (Jvm.Cond.code ({ cls := "com/example/harvestgate/harvestgate/http/Response", name := "<init>", desc := "(ILjava/lang/String;[BLjava/util/Map;)V" } : Jvm.MethodName) prog_63_method_1_code (5 : Nat) (Option.none : Option Jvm.ClassFile.FieldType)).before args0 about1 = true := code_word (m := ⟨9, 0⟩) (meth := k9m0) (c := k9c0) (by decide +kernel) rfl rfl rfl (by decide +kernel)
set_option maxRecDepth 65536 in
theorem w_c10 : (Jvm.Cond.code ({ cls := "com/example/harvestgate/harvestgate/http/Response", name := "body", desc := "()[B" } : Jvm.MethodName) prog_63_method_7_code (1 : Nat) (Option.some (Jvm.ClassFile.FieldType.array Jvm.ClassFile.FieldType.byte))).before args0 about1 = true := code_word (m := ⟨9, 4⟩) (meth := k9m4) (c := k9c4) (by decide +kernel) rfl rfl rfl (by decide +kernel)
set_option maxRecDepth 65536 in
theorem w_c11 : (Jvm.Cond.code ({ cls := "com/example/harvestgate/harvestgate/http/Response", name := "status", desc := "()I" } : Jvm.MethodName) prog_63_method_5_code (1 : Nat) (Option.some Jvm.ClassFile.FieldType.int)).before args0 about1 = true := code_word (m := ⟨9, 2⟩) (meth := k9m2) (c := k9c2) (by decide +kernel) rfl rfl rfl (by decide +kernel)
set_option maxRecDepth 65536 in
theorem w_c12 : (Jvm.Cond.code ({ cls := "com/example/harvestgate/harvestgate/http/Response", name := "contentType", desc := "()Ljava/lang/String;" } : Jvm.MethodName) prog_63_method_6_code (1 : Nat) (Option.some (Jvm.ClassFile.FieldType.object "java/lang/String"))).before args0 about1 = true := code_word (m := ⟨9, 3⟩) (meth := k9m3) (c := k9c3) (by decide +kernel) rfl rfl rfl (by decide +kernel)
set_option maxRecDepth 65536 in
theorem w_c13 : (Jvm.Cond.code ({ cls := "java/lang/String", name := "equals", desc := "(Ljava/lang/Object;)Z" } : Jvm.MethodName) jdk_42_method_66_code (3 : Nat) (Option.some Jvm.ClassFile.FieldType.boolean)).before args0 about1 = true := code_word (m := ⟨7, 2⟩) (meth := k7m2) (c := k7c2) (by decide +kernel) rfl rfl rfl (by decide +kernel)
def codes1 : List Jvm.Cond := [Jvm.Cond.code x code maxLocals ret, Jvm.Cond.code ({ cls := "java/lang/String", name := "<init>", desc := "([C)V" } : Jvm.MethodName) jdk_42_method_3_code (2 : Nat) (Option.none : Option Jvm.ClassFile.FieldType), Jvm.Cond.code ({ cls := "java/lang/String", name := "<init>", desc := "([CIILjava/lang/Void;)V" } : Jvm.MethodName) jdk_42_method_149_code (6 : Nat) (Option.none : Option Jvm.ClassFile.FieldType), Jvm.Cond.code ({ cls := "java/lang/Object", name := "<init>", desc := "()V" } : Jvm.MethodName) object_method_1_code (1 : Nat) (Option.none : Option Jvm.ClassFile.FieldType), Jvm.Cond.code ({ cls := "java/lang/StringUTF16", name := "compress", desc := "([CII)[B" } : Jvm.MethodName) jdk_52_method_16_code (6 : Nat) (Option.some (Jvm.ClassFile.FieldType.array Jvm.ClassFile.FieldType.byte)), Jvm.Cond.code ({ cls := "java/lang/StringUTF16", name := "compress", desc := "([CI[BII)I" } : Jvm.MethodName) jdk_52_method_21_code (7 : Nat) (Option.some Jvm.ClassFile.FieldType.int), Jvm.Cond.code ({ cls := "java/lang/StringUTF16", name := "coderFromArrayLen", desc := "([BI)B" } : Jvm.MethodName) jdk_52_method_15_code (2 : Nat) (Option.some Jvm.ClassFile.FieldType.byte), Jvm.Cond.code ({ cls := "com/example/harvestgate/harvestgate/http/Response", name := "of", desc := "(ILjava/lang/String;[B)Lcom/example/harvestgate/harvestgate/http/Response;" } : Jvm.MethodName) prog_63_method_2_code (3 : Nat) (Option.some (Jvm.ClassFile.FieldType.object "com/example/harvestgate/harvestgate/http/Response")), Jvm.Cond.code ({ cls := "java/util/Map", name := "of", desc := "()Ljava/util/Map;" } : Jvm.MethodName) jdk_72_method_26_code (0 : Nat) (Option.some (Jvm.ClassFile.FieldType.object "java/util/Map")), Jvm.Cond.code ({ cls := "com/example/harvestgate/harvestgate/http/Response", name := "<init>", desc := "(ILjava/lang/String;[BLjava/util/Map;)V" } : Jvm.MethodName) prog_63_method_1_code (5 : Nat) (Option.none : Option Jvm.ClassFile.FieldType), Jvm.Cond.code ({ cls := "com/example/harvestgate/harvestgate/http/Response", name := "body", desc := "()[B" } : Jvm.MethodName) prog_63_method_7_code (1 : Nat) (Option.some (Jvm.ClassFile.FieldType.array Jvm.ClassFile.FieldType.byte)), Jvm.Cond.code ({ cls := "com/example/harvestgate/harvestgate/http/Response", name := "status", desc := "()I" } : Jvm.MethodName) prog_63_method_5_code (1 : Nat) (Option.some Jvm.ClassFile.FieldType.int), Jvm.Cond.code ({ cls := "com/example/harvestgate/harvestgate/http/Response", name := "contentType", desc := "()Ljava/lang/String;" } : Jvm.MethodName) prog_63_method_6_code (1 : Nat) (Option.some (Jvm.ClassFile.FieldType.object "java/lang/String")), Jvm.Cond.code ({ cls := "java/lang/String", name := "equals", desc := "(Ljava/lang/Object;)Z" } : Jvm.MethodName) jdk_42_method_66_code (3 : Nat) (Option.some Jvm.ClassFile.FieldType.boolean)]
set_option maxRecDepth 65536 in
theorem codes_eq : words1.filter isCode = codes1 := rfl
theorem w_codes : ∀ c ∈ words1.filter isCode, c.before args0 about1 = true := by
  rw [codes_eq]
  intro c hc
  simp only [codes1, List.mem_cons, List.not_mem_nil, or_false] at hc
  rcases hc with rfl | rfl | rfl | rfl | rfl | rfl | rfl | rfl | rfl | rfl | rfl | rfl | rfl | rfl
  · exact w_c0
  · exact w_c1
  · exact w_c2
  · exact w_c3
  · exact w_c4
  · exact w_c5
  · exact w_c6
  · exact w_c7
  · exact w_c8
  · exact w_c9
  · exact w_c10
  · exact w_c11
  · exact w_c12
  · exact w_c13
set_option maxRecDepth 65536 in
theorem w_t1 : (words1.take 24).all (fun c => isCode c || c.before args0 about1) = true := by decide +kernel
set_option maxRecDepth 65536 in
theorem w_t2 : ((words1.drop 24).take 24).all (fun c => isCode c || c.before args0 about1) = true := by decide +kernel
set_option maxRecDepth 65536 in
theorem w_t3 : (((words1.drop 24).drop 24).take 24).all (fun c => isCode c || c.before args0 about1) = true := by decide +kernel
set_option maxRecDepth 65536 in
theorem w_t4 : (((words1.drop 24).drop 24).drop 24).all (fun c => isCode c || c.before args0 about1) = true := by decide +kernel
theorem w_tables : (allAtoms (Jvm.Cond.code x code maxLocals ret :: tables_1)).before args0 about1 = true := by
  rw [allAtoms_all]
  show words1.all (fun c => c.before args0 about1) = true
  refine all_split ?_ w_codes
  rw [← List.take_append_drop 24 words1, List.all_append, w_t1, ← List.take_append_drop 24 (words1.drop 24), List.all_append, w_t2, ← List.take_append_drop 24 ((words1.drop 24).drop 24), List.all_append, w_t3, w_t4]
  rfl
set_option maxRecDepth 65536 in
theorem w_rest : rest_1_c.before args0 about1 = true := by decide +kernel
set_option maxRecDepth 65536 in
theorem w_case : (Jvm.Cond.and given_1 narrow_1).before args0 about1 = true := by decide +kernel
theorem w_applies : (headSpec (Jvm.Cond.code x code maxLocals ret :: tables_1) room_1).applies x e0.platform about1 = true :=
  (Spec.applies_iff w_frames).mpr ⟨w_running, w_runnable, w_alone, w_named, w_hears, w_ripe, w_room, w_tables⟩
theorem atStart : AtStart classFile x code maxLocals ret World_1 tables_1 room_1 Calls_1 rest_1 Pre_1 launch0 p0 e0 about1 theMethod args0 below0 :=
  ⟨lists_1, trivial, launch0.admits_env _ _ _, launch0.least_env, fairChoices_fair.cas, fairChoices_fair.clock, w_frames, w_args, w_heap, w_applies, trivial, w_rest, w_case⟩
end start1
theorem witness_1 : WitnessClaimed_1 := ⟨start1.p0, start1.e0, start1.about1, start1.theMethod, start1.args0, start1.below0, start1.atStart⟩
end Jvm.Pilot.@@N@@
