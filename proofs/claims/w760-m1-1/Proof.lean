import JvmDerived
import JvmDerived.Pilot.@@N@@Statement
import JvmDerived.Pilot.@@N@@Code
set_option linter.unusedVariables false
set_option linter.unusedSimpArgs false
/- laws to paste: Road.backV (cut by pick.py; bodies as the Statement names them) -/
namespace Jvm.Pilot.@@N@@
namespace StrChars
open Jvm Sem ClassFile Op Lib Jvm.Stand Jvm.Free.XT Jvm.Free.ALB Jvm.Free.JM Jvm.Free
open Jvm.Lib.Cold (StaticIs)
/-- a char array whose places are chars -/
def Ch (a : Addr) (A : Cell) (U : State) : Prop := Arr .char a A U ∧ Typed .char A
theorem Ch.mv {a : Addr} {A : Cell} {U U' : State} (h : Ch a A U) (hal : U.vm.Alike U'.vm) (hh : U'.heap = U.heap) : Ch a A U' := ⟨h.1.mv hal hh, h.2⟩
theorem Ch.keep {a : Addr} {A : Cell} {U U' : State} (h : Ch a A U) (hal : U.vm.Alike U'.vm) (hk : U'.heap[a]? = some A) : Ch a A U' := ⟨h.1.keep hal hk, h.2⟩
/-- what place i of a char[]'s cell holds -/
def cv (A : Cell) (i : Nat) : Int32 := match A.slots[i]? with | some (.int x) => x | _ => 0
theorem Ch.get {a : Addr} {A : Cell} {U : State} (h : Ch a A U) {i : Nat} (hi : i < A.slots.size) : A.slots[i]? = some (.int (cv A i)) := by
  have e := Array.getElem?_eq_getElem hi
  have f := h.2 i _ e
  unfold cv; rw [e]
  generalize A.slots[i] = v at f
  cases v <;> simp [fits] at f ⊢
/-- the byte that i2b leaves of a char -/
def lo8 (x : Int32) : Int32 := x.toInt8.toInt32
theorem fits_lo8 (y : Int32) : fits .byte (.int (lo8 y)) = true := by
  have h1 := y.toInt8.le_toInt
  have h2 := y.toInt8.toInt_lt
  simp only [lo8, fits, Bool.and_eq_true, decide_eq_true_eq, Int32.le_iff_toInt_le, Int8.toInt_toInt32, show (-128 : Int32).toInt = -128 from by decide, show (127 : Int32).toInt = 127 from by decide]
  omega
/-- A' is A but that each place j of lo .. hi - 1 holds f j -/
def Laid (A A' : Cell) (lo hi : Nat) (f : Nat → Value) : Prop := A'.cls = A.cls ∧ A'.vm = A.vm ∧ A'.slots.size = A.slots.size ∧ ∀ i, A'.slots[i]? = if lo ≤ i ∧ i < hi then some (f i) else A.slots[i]?
theorem Laid.zero (A : Cell) (lo : Nat) (f : Nat → Value) : Laid A A lo (lo + 0) f := ⟨rfl, rfl, rfl, fun i => by rw [if_neg (by omega)]⟩
theorem Laid.step {A Ak : Cell} {lo k : Nat} {f : Nat → Value} {v : Value} (h : Laid A Ak lo k f) (hlo : lo ≤ k) (hk : k < Ak.slots.size) (hv : v = f k) : Laid A (Ak.setSlot k v) lo (k + 1) f := by
  refine ⟨h.1, h.2.1, by simpa [Cell.setSlot] using h.2.2.1, fun i => ?_⟩
  by_cases e : k = i
  · subst e; rw [Cell.slots_setSlot_self v hk, if_pos (by omega), hv]
  · rw [Cell.slots_setSlot_ne v e, h.2.2.2 i]
    by_cases q : lo ≤ i ∧ i < k
    · rw [if_pos q, if_pos (by omega)]
    · rw [if_neg q, if_neg (by omega)]
def U16 : String := "java/lang/StringUTF16"
namespace Cmp5
def yN : MethodName := ⟨"java/lang/StringUTF16", "compress", "([CI[BII)I"⟩
abbrev yB : ByteArray := jdk_52_method_21_code
theorem d0 : decode yB 0 = .ok (.iconst 0, 1) := by decide +kernel
theorem d1 : decode yB 1 = .ok (.istore 5, 2) := by decide +kernel
theorem d3 : decode yB 3 = .ok (.iload 5, 2) := by decide +kernel
theorem d5 : decode yB 5 = .ok (.iload 4, 2) := by decide +kernel
theorem d7 : decode yB 7 = .ok (.if_icmp (.ge) 37, 3) := by decide +kernel
theorem d10 : decode yB 10 = .ok (.aload_n 0, 1) := by decide +kernel
theorem d11 : decode yB 11 = .ok (.iload_n 1, 1) := by decide +kernel
theorem d12 : decode yB 12 = .ok (.caload, 1) := by decide +kernel
theorem d13 : decode yB 13 = .ok (.istore 6, 2) := by decide +kernel
theorem d15 : decode yB 15 = .ok (.iload 6, 2) := by decide +kernel
theorem d17 : decode yB 17 = .ok (.sipush 255, 3) := by decide +kernel
theorem d20 : decode yB 20 = .ok (.if_icmp (.le) 6, 3) := by decide +kernel
theorem d26 : decode yB 26 = .ok (.aload_n 2, 1) := by decide +kernel
theorem d27 : decode yB 27 = .ok (.iload_n 3, 1) := by decide +kernel
theorem d28 : decode yB 28 = .ok (.iload 6, 2) := by decide +kernel
theorem d30 : decode yB 30 = .ok (.i2b, 1) := by decide +kernel
theorem d31 : decode yB 31 = .ok (.bastore, 1) := by decide +kernel
theorem d32 : decode yB 32 = .ok (.iinc 1 1, 3) := by decide +kernel
theorem d35 : decode yB 35 = .ok (.iinc 3 1, 3) := by decide +kernel
theorem d38 : decode yB 38 = .ok (.iinc 5 1, 3) := by decide +kernel
theorem d41 : decode yB 41 = .ok (.goto (-38), 3) := by decide +kernel
theorem d44 : decode yB 44 = .ok (.iload 4, 2) := by decide +kernel
theorem d46 : decode yB 46 = .ok (.ireturn, 1) := by decide +kernel
def site : List Cond := []
def tab : Cond := tabOf yN yB 7 (some .int) site
def P (b : Addr) (A : Cell) (d : Addr) (B : Cell) (o q len : Nat) (args : Array Value) (s : State) : Prop := args = #[.ref b, .int (Int32.ofNat o), .ref d, .int (Int32.ofNat q), .int (Int32.ofNat len)] ∧ Ch b A s ∧ Arr .byte d B s ∧ b ≠ d ∧ o + len ≤ A.slots.size ∧ q + len ≤ B.slots.size ∧ ∀ i, i < len → ¬ 255 < cv A (o + i)
def E (b : Addr) (A : Cell) (d : Addr) (B : Cell) (o q len : Nat) (r : Option Value) (s u : State) : Prop := r = some (.int (Int32.ofNat len)) ∧ ∃ B', Put d B' s u ∧ Laid B B' q (q + len) (fun j => Value.int (lo8 (cv A (o + (j - q)))))
/-- no char of the range above 255: len; the places written hold each char's low byte -/
theorem law (l : Launch) (b : Addr) (A : Cell) (d : Addr) (B : Cell) (o q len : Nat) : Law l yN 5 5 0 0 yB 7 (some .int) site (P b A d B o q len) (E b A d B o q len) (copyLocs d q len) 0 0 := by
  refine Law.of_walk (plainFor_of_name (by decide +kernel)) (by decide +kernel) (by decide +kernel) (by decide) (fun _ _ h => by rw [h.1]; rfl) (fun _ U U' hal hh h => ⟨h.1, h.2.1.mv hal hh, h.2.2.1.mv hal hh, h.2.2.2⟩) (fun r U U' V V' h1 hal h2 h => ⟨h.1, h.2.elim fun B' q => ⟨B', q.1.mv h1 h2, q.2⟩⟩) ?_
  intro p e s m args below meth c s₁ X0 hexec hbytes hml hret hlk hnm hown hh0 W hP
  obtain ⟨rfl, hA, hB, hne, l1, l2, hp⟩ := hP
  have c1 : Steps p.tables e below (s₁.setTop (entryFrame m #[.ref b, .int (Int32.ofNat o), .ref d, .int (Int32.ofNat q), .int (Int32.ofNat len)] 7)) (s₁.setTop (mkF m 0 #[.val (.ref b), .val (.int (Int32.ofNat o)), .val (.ref d), .val (.int (Int32.ofNat q)), .val (.int (Int32.ofNat len)), .unset, .unset] [])) := entry rfl
  have hA0 := hA.1.mv X0.warmed.alike hh0
  have hB0 := hB.mv X0.warmed.alike hh0
  have a31 := hA.1.2.2.2
  have c2 : Steps p.tables e below (s₁.setTop (entryFrame m #[.ref b, .int (Int32.ofNat o), .ref d, .int (Int32.ofNat q), .int (Int32.ofNat len)] 7)) (s₁.setTop (mkF m 3 #[.val (.ref b), .val (.int (Int32.ofNat o)), .val (.ref d), .val (.int (Int32.ofNat q)), .val (.int (Int32.ofNat len)), .val (.int 0), .unset] [])) := c1.trans (by
    refine iconstV X0.here hexec rfl 0 (hb hbytes d0) (by decide) ?_
    refine XS.istore X0.here hexec rfl (hb hbytes d1) rfl rfl ?_
    exact Steps.refl _)
  have loop : ∀ (r i : Nat), i + r = len → ∀ (z : Slot), (z = .unset ∨ ∃ w, z = .val w ∧ w.category = 1) → ∀ (Tl : State) (Bk : Cell), Stand p l e { frames := 0, locals := 0, cells := 0, slots := 0 } s m #[.ref b, .int (Int32.ofNat o), .ref d, .int (Int32.ofNat q), .int (Int32.ofNat len)] below meth c Tl ([] ++ copyLocs d q i) 0 0 → Put d Bk s₁ Tl → Laid B Bk q (q + i) (fun j => Value.int (lo8 (cv A (o + (j - q))))) →
      Steps p.tables e below (s₁.setTop (entryFrame m #[.ref b, .int (Int32.ofNat o), .ref d, .int (Int32.ofNat q), .int (Int32.ofNat len)] 7)) (Tl.setTop (mkF m 3 #[.val (.ref b), .val (.int (Int32.ofNat (o + i))), .val (.ref d), .val (.int (Int32.ofNat (q + i))), .val (.int (Int32.ofNat len)), .val (.int (Int32.ofNat i)), z] [])) → ∃ (T' : State) (B' : Cell) (z' : Slot), Stand p l e { frames := 0, locals := 0, cells := 0, slots := 0 } s m #[.ref b, .int (Int32.ofNat o), .ref d, .int (Int32.ofNat q), .int (Int32.ofNat len)] below meth c T' ([] ++ copyLocs d q len) 0 0 ∧ Put d B' s₁ T' ∧ Laid B B' q (q + len) (fun j => Value.int (lo8 (cv A (o + (j - q))))) ∧
      Steps p.tables e below (s₁.setTop (entryFrame m #[.ref b, .int (Int32.ofNat o), .ref d, .int (Int32.ofNat q), .int (Int32.ofNat len)] 7)) (T'.setTop (mkF m 3 #[.val (.ref b), .val (.int (Int32.ofNat (o + len))), .val (.ref d), .val (.int (Int32.ofNat (q + len))), .val (.int (Int32.ofNat len)), .val (.int (Int32.ofNat len)), z'] [])) := by
    intro r
    induction r with
    | zero =>
      intro i hi z hz Tl Bk Xl pl fl cl
      have hil : i = len := by omega
      rw [hil] at Xl fl cl
      exact ⟨Tl, Bk, z, Xl, pl, fl, cl⟩
    | succ r ih =>
      intro i hi z hz Tl Bk Xl pl fl cl
      have all := X0.warmed.alike.symm.trans Xl.warmed.alike
      have hAl := hA0.keep all (pl.other hne hA0.1)
      have hBk := hB0.like all pl.1 fl.1 fl.2.1 fl.2.2.1
      have hlt : q + i < Bk.slots.size := by rw [fl.2.2.1]; omega
      have c3 : Steps p.tables e below (s₁.setTop (entryFrame m #[.ref b, .int (Int32.ofNat o), .ref d, .int (Int32.ofNat q), .int (Int32.ofNat len)] 7)) (Tl.setTop (mkF m 12 #[.val (.ref b), .val (.int (Int32.ofNat (o + i))), .val (.ref d), .val (.int (Int32.ofNat (q + i))), .val (.int (Int32.ofNat len)), .val (.int (Int32.ofNat i)), z] [.int (Int32.ofNat (o + i)), .ref b])) := cl.trans (by
        refine XS.iload Xl.here hexec rfl (hb hbytes d3) rfl ?_
        refine XS.iload Xl.here hexec rfl (hb hbytes d5) rfl ?_
        refine XS.icmpNo Xl.here hexec rfl (hb hbytes d7) rfl (ii_ge_f (lt32 (by omega) (by omega))) ?_
        refine XS.aloadN Xl.here hexec rfl (hb hbytes d10) rfl rfl ?_
        refine XS.iloadN Xl.here hexec rfl (hb hbytes d11) rfl ?_
        exact Steps.refl _)
      have c4 : Steps p.tables e below (s₁.setTop (entryFrame m #[.ref b, .int (Int32.ofNat o), .ref d, .int (Int32.ofNat q), .int (Int32.ofNat len)] 7)) (Tl.setTop (mkF m 13 #[.val (.ref b), .val (.int (Int32.ofNat (o + i))), .val (.ref d), .val (.int (Int32.ofNat (q + i))), .val (.int (Int32.ofNat len)), .val (.int (Int32.ofNat i)), z] [.int (cv A (o + i))])) := c3.trans (by
        refine Xl.aget hexec hAl rfl (hA.get (i := o + i) (by omega)) rfl rfl (hb hbytes d12) ?_
        exact Steps.refl _)
      have c5 : Steps p.tables e below (s₁.setTop (entryFrame m #[.ref b, .int (Int32.ofNat o), .ref d, .int (Int32.ofNat q), .int (Int32.ofNat len)] 7)) (Tl.setTop (mkF m 15 #[.val (.ref b), .val (.int (Int32.ofNat (o + i))), .val (.ref d), .val (.int (Int32.ofNat (q + i))), .val (.int (Int32.ofNat len)), .val (.int (Int32.ofNat i)), .val (.int (cv A (o + i)))] [])) := c4.trans (by
        refine XS.istoreS Xl.here hexec rfl (hb hbytes d13) rfl rfl hz ?_
        exact Steps.refl _)
      have c6 : Steps p.tables e below (s₁.setTop (entryFrame m #[.ref b, .int (Int32.ofNat o), .ref d, .int (Int32.ofNat q), .int (Int32.ofNat len)] 7)) (Tl.setTop (mkF m 31 #[.val (.ref b), .val (.int (Int32.ofNat (o + i))), .val (.ref d), .val (.int (Int32.ofNat (q + i))), .val (.int (Int32.ofNat len)), .val (.int (Int32.ofNat i)), .val (.int (cv A (o + i)))] [.int (lo8 (cv A (o + i))), .int (Int32.ofNat (q + i)), .ref d])) := c5.trans (by
        refine XS.iload Xl.here hexec rfl (hb hbytes d15) rfl ?_
        refine sipushV Xl.here hexec rfl 255 (hb hbytes d17) (by decide) ?_
        refine XS.icmpYes Xl.here hexec rfl (pc0 := 20) rfl (hb hbytes d20) rfl (ii_le_t (hp i (by omega))) (by decide) rfl ?_
        refine XS.aloadN Xl.here hexec rfl (hb hbytes d26) rfl rfl ?_
        refine XS.iloadN Xl.here hexec rfl (hb hbytes d27) rfl ?_
        refine XS.iload Xl.here hexec rfl (hb hbytes d28) rfl ?_
        refine i2b Xl.here hexec rfl (hb hbytes d30) rfl ?_
        exact Steps.refl _)
      obtain ⟨T7, X7, p7, st7⟩ := Xl.aput hexec hBk rfl hlt rfl (fits_lo8 (cv A (o + i))) (g := (mkF m 31 #[.val (.ref b), .val (.int (Int32.ofNat (o + i))), .val (.ref d), .val (.int (Int32.ofNat (q + i))), .val (.int (Int32.ofNat len)), .val (.int (Int32.ofNat i)), .val (.int (cv A (o + i)))] [.int (lo8 (cv A (o + i))), .int (Int32.ofNat (q + i)), .ref d])) rfl (rest := []) rfl (hb hbytes d31)
      have c8 : Steps p.tables e below (s₁.setTop (entryFrame m #[.ref b, .int (Int32.ofNat o), .ref d, .int (Int32.ofNat q), .int (Int32.ofNat len)] 7)) (T7.setTop (mkF m 32 #[.val (.ref b), .val (.int (Int32.ofNat (o + i))), .val (.ref d), .val (.int (Int32.ofNat (q + i))), .val (.int (Int32.ofNat len)), .val (.int (Int32.ofNat i)), .val (.int (cv A (o + i)))] [])) := c6.trans (st7 _ (Steps.refl _))
      have c9 : Steps p.tables e below (s₁.setTop (entryFrame m #[.ref b, .int (Int32.ofNat o), .ref d, .int (Int32.ofNat q), .int (Int32.ofNat len)] 7)) (T7.setTop (mkF m 3 #[.val (.ref b), .val (.int (Int32.ofNat (o + i) + 1)), .val (.ref d), .val (.int (Int32.ofNat (q + i) + 1)), .val (.int (Int32.ofNat len)), .val (.int (Int32.ofNat i + 1)), .val (.int (cv A (o + i)))] [])) := c8.trans (by
        refine iincV X7.here hexec rfl 1 (hb hbytes d32) (by decide) rfl rfl ?_
        refine iincV X7.here hexec rfl 1 (hb hbytes d35) (by decide) rfl rfl ?_
        refine iincV X7.here hexec rfl 1 (hb hbytes d38) (by decide) rfl rfl ?_
        refine XS.goto X7.here hexec rfl (pc0 := 41) rfl (hb hbytes d41) (by decide) rfl ?_
        exact Steps.refl _)
      have c10 : Steps p.tables e below (s₁.setTop (entryFrame m #[.ref b, .int (Int32.ofNat o), .ref d, .int (Int32.ofNat q), .int (Int32.ofNat len)] 7)) (T7.setTop (mkF m 3 #[.val (.ref b), .val (.int (Int32.ofNat (o + (i + 1)))), .val (.ref d), .val (.int (Int32.ofNat (q + (i + 1)))), .val (.int (Int32.ofNat len)), .val (.int (Int32.ofNat (i + 1))), .val (.int (cv A (o + i)))] [])) := by
        have := c9
        rw [succ32, succ32, succ32] at this
        exact this
      exact ih (i + 1) (by omega) _ (Or.inr ⟨_, rfl, rfl⟩) T7 _ (by rw [copyLocs_step, ← List.append_assoc]; exact X7) (pl.trans p7) (fl.step (by omega) hlt (by simp)) c10
  obtain ⟨T9, B9, z9, X9, p9, f9, g9⟩ := loop len 0 (by omega) .unset (Or.inl rfl) s₁ B (by simpa [copyLocs] using X0) ⟨hB0.1, fun _ _ => rfl, rfl⟩ (Laid.zero _ _ _) c2
  have c11 : Steps p.tables e below (s₁.setTop (entryFrame m #[.ref b, .int (Int32.ofNat o), .ref d, .int (Int32.ofNat q), .int (Int32.ofNat len)] 7)) (T9.setTop (mkF m 46 #[.val (.ref b), .val (.int (Int32.ofNat (o + len))), .val (.ref d), .val (.int (Int32.ofNat (q + len))), .val (.int (Int32.ofNat len)), .val (.int (Int32.ofNat len)), z9] [.int (Int32.ofNat len)])) := g9.trans (by
    refine XS.iload X9.here hexec rfl (hb hbytes d3) rfl ?_
    refine XS.iload X9.here hexec rfl (hb hbytes d5) rfl ?_
    refine XS.icmpYes X9.here hexec rfl (pc0 := 7) rfl (hb hbytes d7) rfl (ii_ge_t (nlt32 (by omega) (Nat.le_refl _))) (by decide) rfl ?_
    refine XS.iload X9.here hexec rfl (hb hbytes d44) rfl ?_
    exact Steps.refl _)
  exact ⟨T9, some (.int (Int32.ofNat len)), _, _, _, X9, by simp, rfl, rfl, (fun h => by cases h), ⟨rfl, B9, p9.from hh0, f9⟩, fun fs hl => c11.trans (X9.ireturnOut hexec hret rfl (Or.inl rfl) (hb hbytes d46) hl)⟩
end Cmp5
namespace Cmp3
def yN : MethodName := ⟨"java/lang/StringUTF16", "compress", "([CII)[B"⟩
abbrev yB : ByteArray := jdk_52_method_16_code
theorem d0 : decode yB 0 = .ok (.iload_n 2, 1) := by decide +kernel
theorem d1 : decode yB 1 = .ok (.newarray .byte, 2) := by decide +kernel
theorem d3 : decode yB 3 = .ok (.astore_n 3, 1) := by decide +kernel
theorem d4 : decode yB 4 = .ok (.aload_n 0, 1) := by decide +kernel
theorem d5 : decode yB 5 = .ok (.iload_n 1, 1) := by decide +kernel
theorem d6 : decode yB 6 = .ok (.aload_n 3, 1) := by decide +kernel
theorem d7 : decode yB 7 = .ok (.iconst 0, 1) := by decide +kernel
theorem d8 : decode yB 8 = .ok (.iload_n 2, 1) := by decide +kernel
theorem d9 : decode yB 9 = .ok (.invokestatic 115, 3) := by decide +kernel
theorem d12 : decode yB 12 = .ok (.istore 4, 2) := by decide +kernel
theorem d14 : decode yB 14 = .ok (.iload 4, 2) := by decide +kernel
theorem d16 : decode yB 16 = .ok (.iload_n 2, 1) := by decide +kernel
theorem d17 : decode yB 17 = .ok (.if_icmp (.eq) 40, 3) := by decide +kernel
theorem d57 : decode yB 57 = .ok (.aload_n 3, 1) := by decide +kernel
theorem d58 : decode yB 58 = .ok (.areturn, 1) := by decide +kernel
def site : List Cond := [.arrayClass .byte, Cmp5.tab] ++ staticW U16 115 Cmp5.yN
def tab : Cond := tabOf yN yB 6 (some (.array .byte)) site
def P (b : Addr) (A : Cell) (o len : Nat) (args : Array Value) (s : State) : Prop := args = #[.ref b, .int (Int32.ofNat o), .int (Int32.ofNat len)] ∧ Ch b A s ∧ o + len ≤ A.slots.size ∧ len ≤ 536870912 ∧ ∀ i, i < len → ¬ 255 < cv A (o + i)
def E (b : Addr) (A : Cell) (o len : Nat) (r : Option Value) (s u : State) : Prop := NewArr .byte "[B" len (fun j => .int (lo8 (cv A (o + j)))) r s u ∧ u.heap.size = s.heap.size + 1
/-- no char of the range above 255: a new byte[] of their low bytes -/
theorem law (l : Launch) (b : Addr) (A : Cell) (o len : Nat) : Law l yN 3 3 1 18 yB 6 (some (.array .byte)) site (P b A o len) (E b A o len) [] 1 len := by
  refine Law.of_walk (plainFor_of_name (by decide +kernel)) (by decide +kernel) (by decide +kernel) (by decide) (fun _ _ h => by rw [h.1]; rfl) (fun _ U U' hal hh h => ⟨h.1, h.2.1.mv hal hh, h.2.2⟩) (fun r U U' V V' h1 hal h2 h => ⟨NewArr.mv r U U' V V' h1 hal h2 h.1, by rw [h1, h2]; exact h.2⟩) ?_
  intro p e s m args below meth c s₁ X0 hexec hbytes hml hret hlk hnm hown hh0 W hP
  obtain ⟨rfl, hA, l1, l2, hp⟩ := hP
  have a31 := hA.1.2.2.2
  have c1 : Steps p.tables e below (s₁.setTop (entryFrame m #[.ref b, .int (Int32.ofNat o), .int (Int32.ofNat len)] 6)) (s₁.setTop (mkF m 0 #[.val (.ref b), .val (.int (Int32.ofNat o)), .val (.int (Int32.ofNat len)), .unset, .unset, .unset] [])) := entry rfl
  have c2 : Steps p.tables e below (s₁.setTop (entryFrame m #[.ref b, .int (Int32.ofNat o), .int (Int32.ofNat len)] 6)) (s₁.setTop (mkF m 1 #[.val (.ref b), .val (.int (Int32.ofNat o)), .val (.int (Int32.ofNat len)), .unset, .unset, .unset] [.int (Int32.ofNat len)])) := c1.trans (by
    refine XS.iloadN X0.here hexec rfl (hb hbytes d0) rfl ?_
    exact Steps.refl _)
  obtain ⟨T3, B3, X3, ba3, bs3, bv3, bh3, bf3, st3⟩ := X0.anew hexec (atype := .byte) (wk W (.arrayClass .byte)) rfl (by show len * 1 ≤ _; omega) (by omega) (g := (mkF m 1 #[.val (.ref b), .val (.int (Int32.ofNat o)), .val (.int (Int32.ofNat len)), .unset, .unset, .unset] [.int (Int32.ofNat len)])) rfl (hb hbytes d1) (rest := []) rfl (Nat.le_refl _) (by show 0 + len ≤ len; omega)
  rw [hh0] at ba3 st3
  have kp3 : XT.Kept s T3 := (XT.Kept.of_eq hh0).push bh3
  have hA3 := hA.keep X3.warmed.alike (kp3 _ _ hA.1.1)
  have hne : b ≠ s.heap.size := hA.1.ne
  have c4 : Steps p.tables e below (s₁.setTop (entryFrame m #[.ref b, .int (Int32.ofNat o), .int (Int32.ofNat len)] 6)) (T3.setTop (mkF m 3 #[.val (.ref b), .val (.int (Int32.ofNat o)), .val (.int (Int32.ofNat len)), .unset, .unset, .unset] [.ref s.heap.size])) := c2.trans (st3 _ (Steps.refl _))
  have c5 : Steps p.tables e below (s₁.setTop (entryFrame m #[.ref b, .int (Int32.ofNat o), .int (Int32.ofNat len)] 6)) (T3.setTop (mkF m 9 #[.val (.ref b), .val (.int (Int32.ofNat o)), .val (.int (Int32.ofNat len)), .val (.ref s.heap.size), .unset, .unset] [.int (Int32.ofNat len), .int 0, .ref s.heap.size, .int (Int32.ofNat o), .ref b])) := c4.trans (by
    refine XS.astoreN X3.here hexec rfl (hb hbytes d3) rfl rfl rfl ?_
    refine XS.aloadN X3.here hexec rfl (hb hbytes d4) rfl rfl ?_
    refine XS.iloadN X3.here hexec rfl (hb hbytes d5) rfl ?_
    refine XS.aloadN X3.here hexec rfl (hb hbytes d6) rfl rfl ?_
    refine iconstV X3.here hexec rfl 0 (hb hbytes d7) (by decide) ?_
    refine XS.iloadN X3.here hexec rfl (hb hbytes d8) rfl ?_
    exact Steps.refl _)
  obtain ⟨v6, T6, X6, E6, g6⟩ := X3.callS hexec (Cmp5.law l b A s.heap.size B3 o 0 len) hown (wks W (staticW U16 115 Cmp5.yN)) (wk W Cmp5.tab) (W := 0) (Nat.le_of_ble_eq_true rfl) (Nat.le_of_ble_eq_true rfl) (Nat.le_refl _) (by show 0 + len + 0 ≤ len; omega) (g := (mkF m 9 #[.val (.ref b), .val (.int (Int32.ofNat o)), .val (.int (Int32.ofNat len)), .val (.ref s.heap.size), .unset, .unset] [.int (Int32.ofNat len), .int (Int32.ofNat 0), .ref s.heap.size, .int (Int32.ofNat o), .ref b])) rfl (by rw [hml]; rfl) c5 (argsL := [.ref b, .int (Int32.ofNat o), .ref s.heap.size, .int (Int32.ofNat 0), .int (Int32.ofNat len)]) (rest := []) rfl rfl (by show 2 * 0 + 0 ≤ _; decide) (hb hbytes d9) (⟨rfl, hA3, ba3, hne, l1, by rw [bs3]; simp, hp⟩)
  obtain ⟨rfl, B6, p6, f6⟩ := E6
  have c7 : Steps p.tables e below (s₁.setTop (entryFrame m #[.ref b, .int (Int32.ofNat o), .int (Int32.ofNat len)] 6)) (T6.setTop (mkF m 12 #[.val (.ref b), .val (.int (Int32.ofNat o)), .val (.int (Int32.ofNat len)), .val (.ref s.heap.size), .unset, .unset] [.int (Int32.ofNat len)])) := g6
  have c8 : Steps p.tables e below (s₁.setTop (entryFrame m #[.ref b, .int (Int32.ofNat o), .int (Int32.ofNat len)] 6)) (T6.setTop (mkF m 58 #[.val (.ref b), .val (.int (Int32.ofNat o)), .val (.int (Int32.ofNat len)), .val (.ref s.heap.size), .val (.int (Int32.ofNat len)), .unset] [.ref s.heap.size])) := c7.trans (by
    refine XS.istore X6.here hexec rfl (hb hbytes d12) rfl rfl ?_
    refine XS.iload X6.here hexec rfl (hb hbytes d14) rfl ?_
    refine XS.iloadN X6.here hexec rfl (hb hbytes d16) rfl ?_
    refine XS.icmpYes X6.here hexec rfl (pc0 := 17) rfl (hb hbytes d17) rfl (ii_eq_t rfl) (by decide) rfl ?_
    refine XS.aloadN X6.here hexec rfl (hb hbytes d57) rfl rfl ?_
    exact Steps.refl _)
  have X8 := X6.wide (L' := []) (cells' := 1) (slots' := len) (fun x hx hlt => by
    simp only [List.nil_append, copyLocs, List.mem_map, List.mem_range] at hx
    obtain ⟨i, -, rfl⟩ := hx
    exact absurd hlt (Nat.lt_irrefl _)) (Nat.le_refl _) (by omega)
  exact ⟨T6, some (.ref s.heap.size), _, _, _, X8, rfl, rfl, rfl, (fun h => by cases h), ⟨⟨rfl, B6, ba3.like (X3.warmed.alike.symm.trans X6.warmed.alike) p6.1 f6.1 f6.2.1 f6.2.2.1, f6.2.1.trans bv3, by rw [X6.warmed.alike.findClass, f6.1]; exact bf3, by rw [f6.2.2.1, bs3]; simp, fun j hj => by rw [f6.2.2.2 j, if_pos (by omega)]; rfl, kp3.put p6 (Nat.le_refl _)⟩, by rw [p6.2.2, bh3, hh0]; simp⟩, fun fs hl => c8.trans (X8.areturnOut hexec rfl hret rfl (hb hbytes d58) hl)⟩
end Cmp3
namespace CodL
def yN : MethodName := ⟨"java/lang/StringUTF16", "coderFromArrayLen", "([BI)B"⟩
abbrev yB : ByteArray := jdk_52_method_15_code
theorem d0 : decode yB 0 = .ok (.iload_n 1, 1) := by decide +kernel
theorem d1 : decode yB 1 = .ok (.aload_n 0, 1) := by decide +kernel
theorem d2 : decode yB 2 = .ok (.arraylength, 1) := by decide +kernel
theorem d3 : decode yB 3 = .ok (.isub, 1) := by decide +kernel
theorem d4 : decode yB 4 = .ok (.bipush 31, 2) := by decide +kernel
theorem d6 : decode yB 6 = .ok (.iushr, 1) := by decide +kernel
theorem d7 : decode yB 7 = .ok (.i2b, 1) := by decide +kernel
theorem d8 : decode yB 8 = .ok (.ireturn, 1) := by decide +kernel
def site : List Cond := []
def tab : Cond := tabOf yN yB 2 (some .byte) site
def P (d : Addr) (B : Cell) (args : Array Value) (s : State) : Prop := args = #[.ref d, .int (Int32.ofNat B.slots.size)] ∧ Arr .byte d B s
def E (r : Option Value) (s u : State) : Prop := XT.PureE (some (.int 0)) r s u
/-- an array as long as the number of chars: LATIN1 -/
theorem law (l : Launch) (d : Addr) (B : Cell) : Law l yN 2 2 0 0 yB 2 (some .byte) site (P d B) E [] 0 0 := by
  refine Law.of_walk (plainFor_of_name (by decide +kernel)) (by decide +kernel) (by decide +kernel) (by decide) (fun _ _ h => by rw [h.1]; rfl) (fun _ U U' hal hh h => ⟨h.1, h.2.mv hal hh⟩) (fun r U U' V V' h1 hal h2 h => XT.PureE.mv r U U' V V' h1 hal h2 h) ?_
  intro p e s m args below meth c s₁ X0 hexec hbytes hml hret hlk hnm hown hh0 W hP
  obtain ⟨rfl, hB⟩ := hP
  have hB0 := hB.mv X0.warmed.alike hh0
  have c1 : Steps p.tables e below (s₁.setTop (entryFrame m #[.ref d, .int (Int32.ofNat B.slots.size)] 2)) (s₁.setTop (mkF m 0 #[.val (.ref d), .val (.int (Int32.ofNat B.slots.size))] [])) := entry rfl
  have c2 : Steps p.tables e below (s₁.setTop (entryFrame m #[.ref d, .int (Int32.ofNat B.slots.size)] 2)) (s₁.setTop (mkF m 2 #[.val (.ref d), .val (.int (Int32.ofNat B.slots.size))] [.ref d, .int (Int32.ofNat B.slots.size)])) := c1.trans (by
    refine XS.iloadN X0.here hexec rfl (hb hbytes d0) rfl ?_
    refine XS.aloadN X0.here hexec rfl (hb hbytes d1) rfl rfl ?_
    exact Steps.refl _)
  have c3 : Steps p.tables e below (s₁.setTop (entryFrame m #[.ref d, .int (Int32.ofNat B.slots.size)] 2)) (s₁.setTop (mkF m 8 #[.val (.ref d), .val (.int (Int32.ofNat B.slots.size))] [.int (lo8 (ushr (Int32.ofNat B.slots.size - Int32.ofNat B.slots.size) 31))])) := c2.trans (by
    refine X0.alen hexec hB0 rfl rfl (hb hbytes d2) ?_
    refine XS.isub X0.here hexec rfl (hb hbytes d3) rfl ?_
    refine bipushV X0.here hexec rfl 31 (hb hbytes d4) (by decide) ?_
    refine iushr X0.here hexec rfl (hb hbytes d6) rfl ?_
    refine i2b X0.here hexec rfl (hb hbytes d7) rfl ?_
    exact Steps.refl _)
  have e0 : lo8 (ushr (Int32.ofNat B.slots.size - Int32.ofNat B.slots.size) 31) = 0 := by rw [Int32.sub_self]; decide
  rw [e0] at c3
  exact ⟨s₁, some (.int 0), _, _, _, X0, rfl, rfl, rfl, (fun h => by cases h), ⟨rfl, hh0⟩, fun fs hl => c3.trans (X0.ireturnOut hexec hret rfl (Or.inr (Or.inr (Or.inl rfl))) (hb hbytes d8) hl)⟩
end CodL
/-- the String at a is Latin-1 over a new byte[] (the heap's one new cell): the low bytes of the len chars of A from o on; every cell but a is kept -/
def Got (a : Addr) (D : Cell) (fV fC : Field) (A : Cell) (o len : Nat) (r : Option Value) (s u : State) : Prop := r = none ∧ ∃ D' V : Cell, Blank "java/lang/String" a D' u ∧ Same D D' [fV.slot, fC.slot] ∧ D'.slots[fV.slot]? = some (.ref s.heap.size) ∧ D'.slots[fC.slot]? = some (.int 0) ∧ Arr .byte s.heap.size V u ∧ V.vm = .none ∧ u.vm.findClass "[B" = some V.cls ∧ V.slots.size = len ∧ (∀ j, j < len → V.slots[j]? = some (.int (lo8 (cv A (o + j))))) ∧ (∀ (y : Addr) (c : Cell), y ≠ a → s.heap[y]? = some c → u.heap[y]? = some c) ∧ u.heap.size = s.heap.size + 1
theorem Got.mv {a : Addr} {D A : Cell} {fV fC : Field} {o len : Nat} : ∀ r (U U' V V' : State), U'.heap = U.heap → V.vm.Alike V'.vm → V'.heap = V.heap → Got a D fV fC A o len r U V → Got a D fV fC A o len r U' V' :=
  fun r U U' V V' h1 hal h2 ⟨e0, D', X, a1, a2, a3, a4, a5, a6, a7, a8, a9, a10, a11⟩ => ⟨e0, D', X, a1.mv hal h2, a2, by rw [h1]; exact a3, a4, by rw [h1]; exact a5.mv hal h2, a6, by rw [hal.findClass]; exact a7, a8, a9, by rw [h1, h2]; exact a10, by rw [h1, h2]; exact a11⟩
namespace New4
def yN : MethodName := ⟨"java/lang/String", "<init>", "([CIILjava/lang/Void;)V"⟩
abbrev yB : ByteArray := jdk_42_method_149_code
theorem d0 : decode yB 0 = .ok (.aload_n 0, 1) := by decide +kernel
theorem d1 : decode yB 1 = .ok (.invokespecial 1, 3) := by decide +kernel
theorem d4 : decode yB 4 = .ok (.iload_n 3, 1) := by decide +kernel
theorem d5 : decode yB 5 = .ok (.ifCond (.ne) 22, 3) := by decide +kernel
theorem d27 : decode yB 27 = .ok (.getstatic 38, 3) := by decide +kernel
theorem d30 : decode yB 30 = .ok (.ifCond (.eq) 28, 3) := by decide +kernel
theorem d33 : decode yB 33 = .ok (.aload_n 1, 1) := by decide +kernel
theorem d34 : decode yB 34 = .ok (.iload_n 2, 1) := by decide +kernel
theorem d35 : decode yB 35 = .ok (.iload_n 3, 1) := by decide +kernel
theorem d36 : decode yB 36 = .ok (.invokestatic 177, 3) := by decide +kernel
theorem d39 : decode yB 39 = .ok (.astore 5, 2) := by decide +kernel
theorem d41 : decode yB 41 = .ok (.aload_n 0, 1) := by decide +kernel
theorem d42 : decode yB 42 = .ok (.aload 5, 2) := by decide +kernel
theorem d44 : decode yB 44 = .ok (.iload_n 3, 1) := by decide +kernel
theorem d45 : decode yB 45 = .ok (.invokestatic 47, 3) := by decide +kernel
theorem d48 : decode yB 48 = .ok (.putfield 15, 3) := by decide +kernel
theorem d51 : decode yB 51 = .ok (.aload_n 0, 1) := by decide +kernel
theorem d52 : decode yB 52 = .ok (.aload 5, 2) := by decide +kernel
theorem d54 : decode yB 54 = .ok (.putfield 9, 3) := by decide +kernel
theorem d57 : decode yB 57 = .ok (.return_, 1) := by decide +kernel
def site : List Cond := [.fieldLink "java/lang/String" 38 "java/lang/String" "COMPACT_STRINGS" "Z", Cmp3.tab, CodL.tab, .laysFinal "java/lang/String" "java/lang/String" "value" "[B", .fieldLink "java/lang/String" 9 "java/lang/String" "value" "[B", .laysFinal "java/lang/String" "java/lang/String" "coder" "B", .fieldLink "java/lang/String" 15 "java/lang/String" "coder" "B"] ++ objW "java/lang/String" 1 ++ staticW "java/lang/String" 177 Cmp3.yN ++ staticW "java/lang/String" 47 CodL.yN
def tab : Cond := tabOf yN yB 6 none site
def P (a : Addr) (D : Cell) (fV fC : Field) (b : Addr) (A : Cell) (z : Int32) (o len : Nat) (args : Array Value) (s : State) : Prop := args = #[.ref a, .ref b, .int (Int32.ofNat o), .int (Int32.ofNat len), .null] ∧ Blank "java/lang/String" a D s ∧ Found "java/lang/String" "value" "[B" fV s ∧ Found "java/lang/String" "coder" "B" fC s ∧ Ch b A s ∧ StaticIs s "java/lang/String" "COMPACT_STRINGS" "Z" (.int z) ∧ ¬ z = 0 ∧ 0 < len ∧ o + len ≤ A.slots.size ∧ len ≤ 536870912 ∧ ∀ i, i < len → ¬ 255 < cv A (o + i)
def E (a : Addr) (D : Cell) (fV fC : Field) (A : Cell) (o len : Nat) (r : Option Value) (s u : State) : Prop := Got a D fV fC A o len r s u
/-- len > 0, no char of the range above 255: a Latin-1 String of their low bytes -/
theorem law (l : Launch) (a : Addr) (D : Cell) (fV fC : Field) (b : Addr) (A : Cell) (z : Int32) (o len : Nat) : Law l yN 5 4 2 35 yB 6 none site (P a D fV fC b A z o len) (E a D fV fC A o len) [⟨a, fC.slot⟩, ⟨a, fV.slot⟩] 1 len := by
  refine Law.of_walk (plainFor_of_name (by decide +kernel)) (by decide +kernel) (by decide +kernel) (by decide) (fun _ _ h => by rw [h.1]; rfl) (fun _ U U' hal hh h => ⟨h.1, h.2.1.mv hal hh, h.2.2.1.al hal, h.2.2.2.1.al hal, h.2.2.2.2.1.mv hal hh, h.2.2.2.2.2.1.there hal hh, h.2.2.2.2.2.2⟩) (fun r U U' V V' h1 hal h2 h => Got.mv r U U' V V' h1 hal h2 h) ?_
  intro p e s m args below meth c s₁ X0 hexec hbytes hml hret hlk hnm hown hh0 W hP
  obtain ⟨rfl, hB, f1, f2, hA, s1, hz, l0, l1, l2, hp⟩ := hP
  have a31 := hA.1.2.2.2
  have c1 : Steps p.tables e below (s₁.setTop (entryFrame m #[.ref a, .ref b, .int (Int32.ofNat o), .int (Int32.ofNat len), .null] 6)) (s₁.setTop (mkF m 0 #[.val (.ref a), .val (.ref b), .val (.int (Int32.ofNat o)), .val (.int (Int32.ofNat len)), .val .null, .unset] [])) := entry rfl
  have c2 : Steps p.tables e below (s₁.setTop (entryFrame m #[.ref a, .ref b, .int (Int32.ofNat o), .int (Int32.ofNat len), .null] 6)) (s₁.setTop (mkF m 1 #[.val (.ref a), .val (.ref b), .val (.int (Int32.ofNat o)), .val (.int (Int32.ofNat len)), .val .null, .unset] [.ref a])) := c1.trans (by
    refine XS.aloadN X0.here hexec rfl (hb hbytes d0) rfl rfl ?_
    exact Steps.refl _)
  obtain ⟨T3, X3, q3, st3⟩ := X0.oinit hexec hown (wks W (objW "java/lang/String" 1)) (g := (mkF m 1 #[.val (.ref a), .val (.ref b), .val (.int (Int32.ofNat o)), .val (.int (Int32.ofNat len)), .val .null, .unset] [.ref a])) rfl (by rw [hml]; rfl) (rest := []) rfl (hb hbytes d1) (W := 0) (by show 2 * 0 + 0 ≤ _; decide) (Nat.le_of_ble_eq_true rfl) (Nat.le_of_ble_eq_true rfl)
  have hh3 := q3.trans hh0
  have c4 : Steps p.tables e below (s₁.setTop (entryFrame m #[.ref a, .ref b, .int (Int32.ofNat o), .int (Int32.ofNat len), .null] 6)) (T3.setTop (mkF m 27 #[.val (.ref a), .val (.ref b), .val (.int (Int32.ofNat o)), .val (.int (Int32.ofNat len)), .val .null, .unset] [])) := (c2.trans (st3 _ (Steps.refl _))).trans (by
    refine XS.iloadN X3.here hexec rfl (hb hbytes d4) rfl ?_
    refine XS.ifYes X3.here hexec rfl (pc0 := 5) rfl (hb hbytes d5) rfl (i0_ne_t (nz32 (by omega) l0)) (by decide) rfl ?_
    exact Steps.refl _)
  obtain ⟨T5, X5, q5, st5⟩ := X3.sget hexec hown (wk W (.fieldLink "java/lang/String" 38 "java/lang/String" "COMPACT_STRINGS" "Z")) s1 (fun _ _ h => by rw [hh3]; exact h) (g := (mkF m 27 #[.val (.ref a), .val (.ref b), .val (.int (Int32.ofNat o)), .val (.int (Int32.ofNat len)), .val .null, .unset] [])) rfl (hb hbytes d27)
  have hh5 := q5.trans hh3
  have c6 : Steps p.tables e below (s₁.setTop (entryFrame m #[.ref a, .ref b, .int (Int32.ofNat o), .int (Int32.ofNat len), .null] 6)) (T5.setTop (mkF m 30 #[.val (.ref a), .val (.ref b), .val (.int (Int32.ofNat o)), .val (.int (Int32.ofNat len)), .val .null, .unset] [.int z])) := c4.trans (st5 _ (Steps.refl _))
  have c7 : Steps p.tables e below (s₁.setTop (entryFrame m #[.ref a, .ref b, .int (Int32.ofNat o), .int (Int32.ofNat len), .null] 6)) (T5.setTop (mkF m 36 #[.val (.ref a), .val (.ref b), .val (.int (Int32.ofNat o)), .val (.int (Int32.ofNat len)), .val .null, .unset] [.int (Int32.ofNat len), .int (Int32.ofNat o), .ref b])) := c6.trans (by
    refine XS.ifNo X5.here hexec rfl (hb hbytes d30) rfl (i0_eq_f hz) ?_
    refine XS.aloadN X5.here hexec rfl (hb hbytes d33) rfl rfl ?_
    refine XS.iloadN X5.here hexec rfl (hb hbytes d34) rfl ?_
    refine XS.iloadN X5.here hexec rfl (hb hbytes d35) rfl ?_
    exact Steps.refl _)
  obtain ⟨v8, T8, X8, E8, g8⟩ := X5.callS hexec (Cmp3.law l b A o len) hown (wks W (staticW "java/lang/String" 177 Cmp3.yN)) (wk W Cmp3.tab) (W := 0) (Nat.le_of_ble_eq_true rfl) (Nat.le_of_ble_eq_true rfl) (Nat.le_refl _) (by show 0 + len ≤ len; omega) (g := (mkF m 36 #[.val (.ref a), .val (.ref b), .val (.int (Int32.ofNat o)), .val (.int (Int32.ofNat len)), .val .null, .unset] [.int (Int32.ofNat len), .int (Int32.ofNat o), .ref b])) rfl (by rw [hml]; rfl) c7 (argsL := [.ref b, .int (Int32.ofNat o), .int (Int32.ofNat len)]) (rest := []) rfl rfl (by show 2 * 0 + 0 ≤ _; decide) (hb hbytes d36) (⟨rfl, hA.mv X5.warmed.alike hh5, l1, l2, hp⟩)
  obtain ⟨e8, z8⟩ := E8
  obtain ⟨rfl, N, n1, n2, n3, n4, n5, n6⟩ := NewArr.mv _ T5 s _ _ hh5.symm (Vm.Alike.refl _) rfl e8
  rw [hh5] at z8
  have hB1 := hB.keep X8.warmed.alike (n6 _ _ hB.1)
  have hne : s.heap.size ≠ a := (Nat.ne_of_lt (Array.getElem?_eq_some_iff.mp hB.1).1).symm
  have c9 : Steps p.tables e below (s₁.setTop (entryFrame m #[.ref a, .ref b, .int (Int32.ofNat o), .int (Int32.ofNat len), .null] 6)) (T8.setTop (mkF m 39 #[.val (.ref a), .val (.ref b), .val (.int (Int32.ofNat o)), .val (.int (Int32.ofNat len)), .val .null, .unset] [.ref s.heap.size])) := g8
  have c10 : Steps p.tables e below (s₁.setTop (entryFrame m #[.ref a, .ref b, .int (Int32.ofNat o), .int (Int32.ofNat len), .null] 6)) (T8.setTop (mkF m 45 #[.val (.ref a), .val (.ref b), .val (.int (Int32.ofNat o)), .val (.int (Int32.ofNat len)), .val .null, .val (.ref s.heap.size)] [.int (Int32.ofNat N.slots.size), .ref s.heap.size, .ref a])) := by
    have hc : Steps p.tables e below (s₁.setTop (entryFrame m #[.ref a, .ref b, .int (Int32.ofNat o), .int (Int32.ofNat len), .null] 6)) (T8.setTop (mkF m 45 #[.val (.ref a), .val (.ref b), .val (.int (Int32.ofNat o)), .val (.int (Int32.ofNat len)), .val .null, .val (.ref s.heap.size)] [.int (Int32.ofNat len), .ref s.heap.size, .ref a])) := c9.trans (by
      refine XS.astore X8.here hexec rfl (hb hbytes d39) rfl rfl rfl ?_
      refine XS.aloadN X8.here hexec rfl (hb hbytes d41) rfl rfl ?_
      refine XS.aload X8.here hexec rfl (hb hbytes d42) rfl rfl ?_
      refine XS.iloadN X8.here hexec rfl (hb hbytes d44) rfl ?_
      exact Steps.refl _)
    rw [n4]; exact hc
  obtain ⟨v11, T11, X11, E11, g11⟩ := X8.callS hexec (CodL.law l s.heap.size N) hown (wks W (staticW "java/lang/String" 47 CodL.yN)) (wk W CodL.tab) (W := 1) (Nat.le_of_ble_eq_true rfl) (Nat.le_of_ble_eq_true rfl) (Nat.le_refl _) (by show 0 + len + 0 ≤ len; omega) (g := (mkF m 45 #[.val (.ref a), .val (.ref b), .val (.int (Int32.ofNat o)), .val (.int (Int32.ofNat len)), .val .null, .val (.ref s.heap.size)] [.int (Int32.ofNat N.slots.size), .ref s.heap.size, .ref a])) rfl (by rw [hml]; rfl) c10 (argsL := [.ref s.heap.size, .int (Int32.ofNat N.slots.size)]) (rest := [.ref a]) rfl rfl (by show 2 * 0 + (1 + 0) ≤ _; decide) (hb hbytes d45) (⟨rfl, n1⟩)
  obtain ⟨rfl, q11⟩ := E11
  have hB11 := hB1.mv (X8.warmed.alike.symm.trans X11.warmed.alike) q11
  have c12 : Steps p.tables e below (s₁.setTop (entryFrame m #[.ref a, .ref b, .int (Int32.ofNat o), .int (Int32.ofNat len), .null] 6)) (T11.setTop (mkF m 48 #[.val (.ref a), .val (.ref b), .val (.int (Int32.ofNat o)), .val (.int (Int32.ofNat len)), .val .null, .val (.ref s.heap.size)] [.int 0, .ref a])) := g11
  obtain ⟨T13, X13, p13, bl13, sl13, st13⟩ := X11.finit hexec hown (wk W (.fieldLink "java/lang/String" 15 "java/lang/String" "coder" "B")) (Or.inr ⟨_, (wk W (.laysFinal "java/lang/String" "java/lang/String" "coder" "B"))⟩) (Or.inl ⟨rfl, hnm⟩) f2 (Or.inl rfl) hB11 (t := .byte) (by decide +kernel) rfl (g := (mkF m 48 #[.val (.ref a), .val (.ref b), .val (.int (Int32.ofNat o)), .val (.int (Int32.ofNat len)), .val .null, .val (.ref s.heap.size)] [.int 0, .ref a])) rfl (rest := []) rfl (hb hbytes d48)
  have c14 : Steps p.tables e below (s₁.setTop (entryFrame m #[.ref a, .ref b, .int (Int32.ofNat o), .int (Int32.ofNat len), .null] 6)) (T13.setTop (mkF m 54 #[.val (.ref a), .val (.ref b), .val (.int (Int32.ofNat o)), .val (.int (Int32.ofNat len)), .val .null, .val (.ref s.heap.size)] [.ref s.heap.size, .ref a])) := (c12.trans (st13 _ (Steps.refl _))).trans (by
    refine XS.aloadN X13.here hexec rfl (hb hbytes d51) rfl rfl ?_
    refine XS.aload X13.here hexec rfl (hb hbytes d52) rfl rfl ?_
    exact Steps.refl _)
  obtain ⟨T15, X15, p15, bl15, sl15, st15⟩ := X13.finit hexec hown (wk W (.fieldLink "java/lang/String" 9 "java/lang/String" "value" "[B")) (Or.inr ⟨_, (wk W (.laysFinal "java/lang/String" "java/lang/String" "value" "[B"))⟩) (Or.inl ⟨rfl, hnm⟩) f1 (Or.inl rfl) bl13 (t := (.array .byte)) (by decide +kernel) rfl (g := (mkF m 54 #[.val (.ref a), .val (.ref b), .val (.int (Int32.ofNat o)), .val (.int (Int32.ofNat len)), .val .null, .val (.ref s.heap.size)] [.ref s.heap.size, .ref a])) rfl (rest := []) rfl (hb hbytes d54)
  have c16 : Steps p.tables e below (s₁.setTop (entryFrame m #[.ref a, .ref b, .int (Int32.ofNat o), .int (Int32.ofNat len), .null] 6)) (T15.setTop (mkF m 57 #[.val (.ref a), .val (.ref b), .val (.int (Int32.ofNat o)), .val (.int (Int32.ofNat len)), .val .null, .val (.ref s.heap.size)] [])) := c14.trans (st15 _ (Steps.refl _))
  have ap := apart (Or.inr ⟨_, (wk W (.laysFinal "java/lang/String" "java/lang/String" "value" "[B"))⟩) (Or.inr ⟨_, (wk W (.laysFinal "java/lang/String" "java/lang/String" "coder" "B"))⟩) f1 f2 (t₁ := .array .byte) (t₂ := .byte) (by decide +kernel) (by decide +kernel) (by decide)
  have al := X8.warmed.alike.symm.trans X15.warmed.alike
  have n7 : T11.heap[s.heap.size]? = some N := by rw [q11]; exact n1.1
  exact ⟨T15, none, _, _, _, X15, by simp, rfl, by omega, (fun _ => rfl), ⟨rfl, _, N, bl15, ((Same.refl D _).set _ (by simp)).set _ (by simp), sl15, (Cell.slots_setSlot_ne _ ap).trans sl13, n1.keep al (p15.other hne (p13.other hne n7)), n2, by rw [al.findClass]; exact n3, n4, n5, fun y c h1 h2 => p15.other h1 (p13.other h1 (by rw [q11]; exact n6 y c h2)), by rw [p15.2.2, p13.2.2, q11]; exact z8⟩, fun fs hl => c16.trans (X15.returnOut hexec hret (hb hbytes d57) hl)⟩
end New4
namespace New1
def yN : MethodName := ⟨"java/lang/String", "<init>", "([C)V"⟩
abbrev yB : ByteArray := jdk_42_method_3_code
theorem d0 : decode yB 0 = .ok (.aload_n 0, 1) := by decide +kernel
theorem d1 : decode yB 1 = .ok (.aload_n 1, 1) := by decide +kernel
theorem d2 : decode yB 2 = .ok (.iconst 0, 1) := by decide +kernel
theorem d3 : decode yB 3 = .ok (.aload_n 1, 1) := by decide +kernel
theorem d4 : decode yB 4 = .ok (.arraylength, 1) := by decide +kernel
theorem d5 : decode yB 5 = .ok (.aconst_null, 1) := by decide +kernel
theorem d6 : decode yB 6 = .ok (.invokespecial 27, 3) := by decide +kernel
theorem d9 : decode yB 9 = .ok (.return_, 1) := by decide +kernel
def site : List Cond := [New4.tab] ++ initW "java/lang/String" 27 New4.yN
def tab : Cond := tabOf yN yB 2 none site
def P (a : Addr) (D : Cell) (fV fC : Field) (b : Addr) (A : Cell) (z : Int32) (args : Array Value) (s : State) : Prop := args = #[.ref a, .ref b] ∧ Blank "java/lang/String" a D s ∧ Found "java/lang/String" "value" "[B" fV s ∧ Found "java/lang/String" "coder" "B" fC s ∧ Ch b A s ∧ StaticIs s "java/lang/String" "COMPACT_STRINGS" "Z" (.int z) ∧ ¬ z = 0 ∧ 0 < A.slots.size ∧ A.slots.size ≤ 536870912 ∧ ∀ i, i < A.slots.size → ¬ 255 < cv A i
def E (a : Addr) (D : Cell) (fV fC : Field) (A : Cell) (r : Option Value) (s u : State) : Prop := Got a D fV fC A 0 A.slots.size r s u
/-- new String(chars), not empty, no char above 255: a Latin-1 String of their low bytes -/
theorem law (l : Launch) (a : Addr) (D : Cell) (fV fC : Field) (b : Addr) (A : Cell) (z : Int32) : Law l yN 2 1 3 52 yB 2 none site (P a D fV fC b A z) (E a D fV fC A) [⟨a, fC.slot⟩, ⟨a, fV.slot⟩] 1 A.slots.size := by
  refine Law.of_walk (plainFor_of_name (by decide +kernel)) (by decide +kernel) (by decide +kernel) (by decide) (fun _ _ h => by rw [h.1]; rfl) (fun _ U U' hal hh h => ⟨h.1, h.2.1.mv hal hh, h.2.2.1.al hal, h.2.2.2.1.al hal, h.2.2.2.2.1.mv hal hh, h.2.2.2.2.2.1.there hal hh, h.2.2.2.2.2.2⟩) (fun r U U' V V' h1 hal h2 h => Got.mv r U U' V V' h1 hal h2 h) ?_
  intro p e s m args below meth c s₁ X0 hexec hbytes hml hret hlk hnm hown hh0 W hP
  obtain ⟨rfl, hB, f1, f2, hA, s1, hz, l0, l2, hp⟩ := hP
  have c1 : Steps p.tables e below (s₁.setTop (entryFrame m #[.ref a, .ref b] 2)) (s₁.setTop (mkF m 0 #[.val (.ref a), .val (.ref b)] [])) := entry rfl
  have c2 : Steps p.tables e below (s₁.setTop (entryFrame m #[.ref a, .ref b] 2)) (s₁.setTop (mkF m 6 #[.val (.ref a), .val (.ref b)] [.null, .int (Int32.ofNat A.slots.size), .int 0, .ref b, .ref a])) := c1.trans (by
    refine XS.aloadN X0.here hexec rfl (hb hbytes d0) rfl rfl ?_
    refine XS.aloadN X0.here hexec rfl (hb hbytes d1) rfl rfl ?_
    refine iconstV X0.here hexec rfl 0 (hb hbytes d2) (by decide) ?_
    refine XS.aloadN X0.here hexec rfl (hb hbytes d3) rfl rfl ?_
    refine X0.alen hexec (hA.1.mv X0.warmed.alike hh0) rfl rfl (hb hbytes d4) ?_
    refine XS.aconstNull X0.here hexec rfl (hb hbytes d5) ?_
    exact Steps.refl _)
  obtain ⟨v3, T3, X3, E3, g3⟩ := X0.callN hexec (New4.law l a D fV fC b A z 0 A.slots.size) rfl hown (wks W (initW "java/lang/String" 27 New4.yN)) (W New4.tab (by simp only [site, List.mem_cons, List.mem_append, true_or, or_true])) (W := 0) (Nat.le_of_ble_eq_true rfl) (Nat.le_of_ble_eq_true rfl) (Nat.le_refl _) (by show 0 + A.slots.size ≤ A.slots.size; omega) (g := (mkF m 6 #[.val (.ref a), .val (.ref b)] [.null, .int (Int32.ofNat A.slots.size), .int (Int32.ofNat 0), .ref b, .ref a])) rfl (by rw [hml]; rfl) c2 (argsL := [.ref b, .int (Int32.ofNat 0), .int (Int32.ofNat A.slots.size), .null]) (rest := []) rfl rfl (by show 2 * 0 + 0 ≤ _; decide) (hb hbytes d6) (⟨rfl, hB.mv X0.warmed.alike hh0, f1.al X0.warmed.alike, f2.al X0.warmed.alike, hA.mv X0.warmed.alike hh0, s1.there X0.warmed.alike hh0, hz, l0, by omega, l2, fun i hi => by rw [Nat.zero_add]; exact hp i hi⟩)
  have e0 := Got.mv _ s₁ s _ _ hh0.symm (Vm.Alike.refl _) rfl E3
  obtain rfl := e0.1
  have c4 : Steps p.tables e below (s₁.setTop (entryFrame m #[.ref a, .ref b] 2)) (T3.setTop (mkF m 9 #[.val (.ref a), .val (.ref b)] [])) := g3
  exact ⟨T3, none, _, _, _, X3, by simp, rfl, by omega, (fun _ => rfl), e0, fun fs hl => c4.trans (X3.returnOut hexec hret (hb hbytes d9) hl)⟩
theorem pays {l : Launch} {R : Room} {p : Program} {e : Env} {below : List Frame} {s : State} {sargs : Array Value} {len W : Nat} (a : Addr) (D : Cell) (fV fC : Field) (b : Addr) (A : Cell) (z : Int32) (htab : tab.before sargs s = true) (hfr : 4 ≤ R.frames) (hlo : W + 65 ≤ R.locals) :
    Back l R p e below s sargs yN len W (fun A₁ a₁ => A₁.cells + 1 ≤ R.cells ∧ A₁.slots + A.slots.size ≤ R.slots ∧ P a D fV fC b A z a₁ A₁.U) (fun A₁ _ v₁ B₁ => E a D fV fC A v₁ A₁.U B₁.U ∧ B₁.locs = A₁.locs ++ [⟨a, fC.slot⟩, ⟨a, fV.slot⟩] ∧ B₁.cells = A₁.cells + 1 ∧ B₁.slots = A₁.slots + A.slots.size) :=
  (law l a D fV fC b A z).pays htab hfr (by omega)
end New1
end StrChars
namespace StrChars.Road
open Jvm Sem ClassFile Op Lib Jvm.Stand Jvm.Free Jvm.Free.XT
open Jvm.Lib.Cold (StaticIs)
abbrev ST : String := "java/lang/String"
/-- every table word that New1's law asks, flat -/
abbrev words : List Jvm.Cond := [.code New1.yN New1.yB 2 none, .initialized ST, .methodLink ST 27 New4.yN, .instanceMethod New4.yN,
  .code New4.yN New4.yB 6 none, .fieldLink ST 38 ST "COMPACT_STRINGS" "Z", .laysFinal ST ST "value" "[B", .fieldLink ST 9 ST "value" "[B", .laysFinal ST ST "coder" "B", .fieldLink ST 15 ST "coder" "B",
  .methodLink ST 1 Lib.objectInit, .instanceMethod Lib.objectInit, .code Lib.objectInit ⟨#[0xb1]⟩ 1 none, .methodLink ST 177 Cmp3.yN, .static Cmp3.yN, .methodLink ST 47 CodL.yN, .static CodL.yN,
  .code Cmp3.yN Cmp3.yB 6 (some (.array .byte)), .initialized U16, .arrayClass .byte, .methodLink U16 115 Cmp5.yN, .static Cmp5.yN, .code Cmp5.yN Cmp5.yB 7 (some .int), .code CodL.yN CodL.yB 2 (some .byte)]
theorem tab_of {a : Array Value} {s : State} (h : ∀ w ∈ words, w.before a s = true) : New1.tab.before a s = true := by
  have h5 : Cmp5.tab.before a s = true := unparts (wk h (.code Cmp5.yN Cmp5.yB 7 (some .int))) (wks h (.initialized Cmp5.yN.cls :: Cmp5.site))
  have hc : CodL.tab.before a s = true := unparts (wk h (.code CodL.yN CodL.yB 2 (some .byte))) (wks h (.initialized CodL.yN.cls :: CodL.site))
  have q5 : ∀ w ∈ Cmp5.tab :: words, w.before a s = true := fun w hw => (List.mem_cons.mp hw).elim (fun e => e ▸ h5) (h w)
  have h3 : Cmp3.tab.before a s = true := unparts (wk q5 (.code Cmp3.yN Cmp3.yB 6 (some (.array .byte)))) (wks q5 (.initialized Cmp3.yN.cls :: Cmp3.site))
  have q3 : ∀ w ∈ Cmp3.tab :: CodL.tab :: words, w.before a s = true := fun w hw => (List.mem_cons.mp hw).elim (fun e => e ▸ h3) fun hw => (List.mem_cons.mp hw).elim (fun e => e ▸ hc) (h w)
  have h4 : New4.tab.before a s = true := unparts (wk q3 (.code New4.yN New4.yB 6 none)) (wks q3 (.initialized New4.yN.cls :: New4.site))
  have q4 : ∀ w ∈ New4.tab :: words, w.before a s = true := fun w hw => (List.mem_cons.mp hw).elim (fun e => e ▸ h4) (h w)
  exact unparts (wk q4 (.code New1.yN New1.yB 2 none)) (wks q4 (.initialized New1.yN.cls :: New1.site))
/-- the words ride from the start Z to the walk's own state -/
theorem moved {Z s : State} {a0 args : Array Value} (hZ : Z.Warmed39 s.vm) (hw : ∀ d ∈ words, d.before a0 Z = true) : ∀ d ∈ words, d.before args s = true := fun d hd => by
  have q := hw d hd
  have t : ∀ d ∈ words, d = .arrayClass .byte ∨ (d.onTables && d.keepsFace) = true := by decide +kernel
  rcases t d hd with rfl | t
  · exact RoadKit.mvA hZ q
  · exact RoadKit.mv hZ q t
/-- WHAT COMES BACK, over the tables of the start Z: h the heap at the call, h' behind it -/
def Q (Z : State) (x : Addr) (A : Cell) (h : Heap) (v : Option Value) (h' : Heap) (L : List Loc) : Prop := v = none ∧ (∀ y ∈ L, y.base = x) ∧ RoadKit.Keep h h' [x] ∧ h'.size = h.size + 1 ∧ RoadKit.Exa Z h' x ST ∧ RoadKit.Fld Z h' x ST "value" "[B" (.ref h.size) ∧ RoadKit.Fld Z h' x ST "coder" "B" (.int 0) ∧
  (∃ V : Cell, RoadKit.Arr Z h' h.size V .byte ∧ V.vm = .none ∧ Z.vm.findClass "[B" = some V.cls ∧ V.slots.size = A.slots.size ∧ ∀ j, j < A.slots.size → V.slots[j]? = some (.int (lo8 (cv A j)))) ∧
  ∀ (O n d : String) (w : Value), RoadKit.Fld Z h x O n d w → RoadKit.slotOf Z O n d ≠ RoadKit.slotOf Z ST "value" "[B" → RoadKit.slotOf Z O n d ≠ RoadKit.slotOf Z ST "coder" "B" → RoadKit.Fld Z h' x O n d w
/-- **new String(chars) AT A CALL, IN THE ROAD'S FORM**: for specialBack behind newO: x the fresh String, b the char[] with the cell A -/
theorem back {p : Program} {l : Launch} {e : Env} {R : Room} {s : State} {args : Array Value} {below : List Frame} {len W : Nat} {Z : State} {a0 : Array Value} {h : Heap} (hZ : Z.Warmed39 s.vm) (hw : ∀ d ∈ words, d.before a0 Z = true) {kI : Nat} (wi : (Jvm.Cond.instantiable ST kI).before a0 Z = true)
    {x b : Addr} {A : Cell} {z : Int32} {v0 c0 : Value} (E : RoadKit.Exa Z h x ST) (V : RoadKit.Fld Z h x ST "value" "[B" v0) (C : RoadKit.Fld Z h x ST "coder" "B" c0) (K : RoadKit.Arr Z h b A .char) (hty : Typed .char A) (S : RoadKit.Sta Z h ST "COMPACT_STRINGS" "Z" (.int z)) (hz : ¬ z = 0)
    (l0 : 0 < A.slots.size) (l2 : A.slots.size ≤ 536870912) (hp : ∀ i, i < A.slots.size → ¬ 255 < cv A i) (hfr : 4 ≤ R.frames) (hlo : W + 65 ≤ R.locals) :
    Back l R p e below s args New1.yN len W (fun P a => a = #[.ref x, .ref b] ∧ P.U.heap = h ∧ P.cells + 1 ≤ R.cells ∧ P.slots + A.slots.size ≤ R.slots)
      (fun P _ v B => ∃ L, Q Z x A h v B.U.heap L ∧ B.locs = P.locs ++ L ∧ B.cells = P.cells + 1 ∧ B.slots = P.slots + A.slots.size) := by
  intro m meth c P g ig mk a X hg hsize hdg hW hn hp'
  obtain ⟨rfl, rfl, r1, r2⟩ := hp'
  have al : Z.vm.Alike P.U.vm := hZ.alike.trans X.warmed.alike
  obtain ⟨D, cfV, kV, iV, fV, hD, gV, stV, knV, obV, asV, slV⟩ := id V
  obtain ⟨D', cfC, kC, iC, fC, hD', gC, stC, -, -, asC, slC⟩ := id C
  cases hD.symm.trans hD'
  obtain ⟨D2, kD, e1, e2, e3, e4, e5⟩ := id E
  cases hD.symm.trans e1
  obtain ⟨c2, k2, i1, i2, i3, -⟩ := Cond.instantiable_spec wi
  cases e2.symm.trans i1
  cases e3.symm.trans i2
  obtain ⟨kU, u1, u2⟩ := al.2.2 _ _ e3
  have hB : Blank ST x D P.U := ⟨hD, ⟨knV, fun q hq => by rw [hq] at obV; cases obV⟩, by rw [al.findClass]; exact e2, kU, u1, by rw [u2]; exact i3, by rw [u2]; exact e5 i3⟩
  have F1 : Found ST "value" "[B" fV P.U := ⟨SBG.found_only al ⟨cfV, kV, iV, gV⟩, stV⟩
  have F2 : Found ST "coder" "B" fC P.U := ⟨SBG.found_only al ⟨cfC, kC, iC, gC⟩, stC⟩
  have hA : Ch b A P.U := ⟨⟨K.1, State.isArrayOf_alike al K.2.1, K.2.2, by omega⟩, hty⟩
  have hS : StaticIs P.U ST "COMPACT_STRINGS" "Z" (.int z) := by
    obtain ⟨cfS, iS, kS, fS, st, cS, t1, t2, t3, t4, t5, t6, t7⟩ := S
    exact StaticIs.there (s := { Z with heap := P.U.heap }) ⟨cfS, iS, kS, fS, st, cS, t1, t2, t3, t4, t5, (fun q => by rw [q] at t6; cases t6), t7⟩ al rfl
  obtain ⟨v, B, X', ⟨⟨hv, E', V', q1, q2, q3, q4, q5, q6, q7, q8, q9, q10, q11⟩, hl, hc, hs⟩, st⟩ := New1.pays x D fV fC b A z (tab_of (moved hZ hw)) hfr hlo m meth c P g ig mk _ X hg hsize hdg hW hn ⟨r1, r2, rfl, hB, F1, F2, hA, hS, hz, l0, l2, hp⟩
  have al' : Z.vm.Alike B.U.vm := hZ.alike.trans X'.warmed.alike
  have hsz : E'.slots.size = D.slots.size := by
    obtain ⟨-, -, -, kB, w1, w2, w3⟩ := q1
    obtain ⟨kB', y1, y2⟩ := al'.2.2 _ _ e3
    rw [q2.2.1] at w1
    cases w1.symm.trans y1
    rw [w3, e5 i3, y2]
  refine ⟨v, B, X', ⟨_, ⟨hv, ?_, ⟨by omega, fun y cy hy hn' => q10 y cy (by simpa using hn') hy, fun y cy hy => ?_⟩, q11, ⟨E', _, q1.1, by rw [q2.2.1]; exact e2, by rw [q2.2.1]; exact e3, by rw [q2.1]; exact obV, fun _ => by rw [hsz]; exact e5 i3⟩,
    ⟨E', cfV, kV, iV, fV, q1.1, gV, stV, by rw [q2.1]; exact knV, by rw [q2.1]; exact obV, by rw [q2.2.1]; exact asV, q3⟩, ⟨E', cfC, kC, iC, fC, q1.1, gC, stC, by rw [q2.1]; exact knV, by rw [q2.1]; exact obV, by rw [q2.2.1]; exact asC, q4⟩,
    ⟨V', ⟨q5.1, State.isArrayOf_alike al'.symm q5.2.1, q5.2.2.1⟩, q6, by rw [← al'.findClass]; exact q7, q8, fun j hj => by have := q9 j hj; rwa [Nat.zero_add] at this⟩, fun O n d w F n1 n2 => ?_⟩, hl, hc, hs⟩, st⟩
  · intro y hy
    simp only [List.mem_cons, List.not_mem_nil, or_false] at hy
    rcases hy with rfl | rfl <;> rfl
  · by_cases q : y = x
    · subst q
      cases hD.symm.trans hy
      exact ⟨E', q1.1, q2.2.1, q2.1, hsz⟩
    · exact ⟨cy, q10 y cy q hy, rfl, rfl, rfl⟩
  · obtain ⟨D3, cf, k, i, f, g1, g2, g3, g4, g5, g6, g7⟩ := F
    cases hD.symm.trans g1
    simp only [RoadKit.slotOf, g2, gV, gC, Option.map_some, Option.getD_some] at n1 n2
    exact ⟨E', cf, k, i, f, q1.1, g2, g3, by rw [q2.1]; exact g4, by rw [q2.1]; exact g5, by rw [q2.2.1]; exact g6, by rw [q2.2.2 f.slot (by simp [n1, n2])]; exact g7⟩
end StrChars.Road
namespace StrChars.Road
open Jvm Sem ClassFile Op Lib Jvm.Stand Jvm.Free Jvm.Free.XT
/-- WHAT COMES BACK, the byte[] as a list of values -/
def QA (Z : State) (x : Addr) (zn : Int32) (cs : List Int32) (h : Heap) (v : Option Value) (h' : Heap) (L : List Loc) : Prop := v = none ∧ (∀ y ∈ L, y.base = x) ∧ RoadKit.Keep h h' [x] ∧ h'.size = h.size + 1 ∧ RoadKit.Exa Z h' x ST ∧ RoadKit.Fld Z h' x ST "value" "[B" (.ref h.size) ∧ RoadKit.Fld Z h' x ST "coder" "B" (.int 0) ∧
  (∃ kb, Z.vm.findClass "[B" = some kb ∧ RoadKit.Arv Z h' h.size kb .byte zn (cs.map fun c => .int (lo8 c)) (.int 0)) ∧
  ∀ (O n d : String) (w : Value), RoadKit.Fld Z h x O n d w → RoadKit.slotOf Z O n d ≠ RoadKit.slotOf Z ST "value" "[B" → RoadKit.slotOf Z O n d ≠ RoadKit.slotOf Z ST "coder" "B" → RoadKit.Fld Z h' x O n d w
/-- **new String(chars) AT A CALL, THE ARRAYS AS LISTS**: the char[] at b holds cs, not empty, no char above 255 -/
theorem backArv {p : Program} {l : Launch} {e : Env} {R : Room} {s : State} {args : Array Value} {below : List Frame} {len W : Nat} {Z : State} {a0 : Array Value} {h : Heap} (hZ : Z.Warmed39 s.vm) (hw : ∀ d ∈ words, d.before a0 Z = true) {kI : Nat} (wi : (Jvm.Cond.instantiable ST kI).before a0 Z = true)
    {x b : Addr} {k : ClassId} {zn z : Int32} {cs : List Int32} {dv v0 c0 : Value} (E : RoadKit.Exa Z h x ST) (V : RoadKit.Fld Z h x ST "value" "[B" v0) (C : RoadKit.Fld Z h x ST "coder" "B" c0) (K : RoadKit.Arv Z h b k .char zn (cs.map Value.int) dv) (S : RoadKit.Sta Z h ST "COMPACT_STRINGS" "Z" (.int z)) (hz : ¬ z = 0)
    (hlen : zn.toNatClampNeg = cs.length) (h0 : 0 < cs.length) (hbig : cs.length ≤ 536870912) (hall : ∀ c ∈ cs, ¬ 255 < c) (hfr : 4 ≤ R.frames) (hlo : W + 65 ≤ R.locals) :
    Back l R p e below s args New1.yN len W (fun P a => a = #[.ref x, .ref b] ∧ P.U.heap = h ∧ P.cells + 1 ≤ R.cells ∧ P.slots + cs.length ≤ R.slots)
      (fun P _ v B => ∃ L, QA Z x zn cs h v B.U.heap L ∧ B.locs = P.locs ++ L ∧ B.cells = P.cells + 1 ∧ B.slots = P.slots + cs.length) := by
  obtain ⟨A, K1, K2, K3, K4, K5, K6⟩ := K
  have e : A.slots.size = cs.length := K3.trans hlen
  have hat : ∀ (i : Nat) (hi : i < cs.length), A.slots[i]? = some (.int cs[i]) := fun i hi => by rw [K5 i (by omega)]; simp [List.getD_eq_getElem?_getD, hi]
  have hcv : ∀ (i : Nat) (hi : i < cs.length), cv A i = cs[i] := fun i hi => by unfold cv; rw [hat i hi]
  have hty : Typed .char A := fun i v hv => by
    have hi : i < A.slots.size := (Array.getElem?_eq_some_iff.mp hv).1
    have q := K5 i hi
    rw [hv] at q
    rw [Option.some.inj q]
    exact K6 i hi
  refine Back.mono (back hZ hw wi E V C K1 hty S hz (by omega) (by omega) (fun i hi => by rw [hcv i (by omega)]; exact hall _ (List.getElem_mem _)) hfr hlo) (fun P a hp => ⟨hp.1, hp.2.1, hp.2.2.1, by rw [e]; exact hp.2.2.2⟩) (fun P a v B hp hq => ?_)
  obtain ⟨L, ⟨q1, q2, q3, q4, q5, q6, q7, ⟨V', v1, v2, v3, v4, v5⟩, q9⟩, hl, hc, hs⟩ := hq
  refine ⟨L, ⟨q1, q2, q3, q4, q5, q6, q7, ⟨V'.cls, v3, V', v1, rfl, by rw [v4, e, hlen], K4, fun i hi => ?_, fun i hi => ?_⟩, q9⟩, hl, hc, by rw [hs, e]⟩
  · have hi' : i < cs.length := by omega
    rw [v5 i (by omega), hcv i hi']; simp [List.getD_eq_getElem?_getD, hi']
  · have hi' : i < cs.length := by omega
    simp only [List.getD_eq_getElem?_getD, List.getElem?_map, List.getElem?_eq_getElem hi', Option.map_some, Option.getD_some]
    exact fits_lo8 _
end StrChars.Road
namespace StrChars.Road
open Jvm Sem ClassFile Op Lib Jvm.Stand Jvm.Free Jvm.Free.XT
/-- WHAT COMES BACK, in the writer's own shape -/
def QV (Z : State) (x : Addr) (N : Int32) (bs : List Int32) (h : Heap) (n0 : Nat) (v : Option Value) (h' : Heap) (L : List Loc) : Prop := v = none ∧ RoadKit.Fr n0 L ∧ RoadKit.Keep h h' [x] ∧ RoadKit.Exa Z h' x ST ∧ RoadKit.Fld Z h' x ST "coder" "B" (.int 0) ∧
  ∃ (t : Addr) (kb : ClassId), n0 ≤ t ∧ h.size ≤ t ∧ ¬ t = x ∧ RoadKit.Fld Z h' x ST "value" "[B" (.ref t) ∧ RoadKit.Arv Z h' t kb .byte N (bs.map Value.int) (.int 0)
/-- **new String(chars) AT A CALL, FOR THE WRITER**: a char[] of n known ints, each 0 to 255 -/
theorem backV {p : Program} {l : Launch} {e : Env} {R : Room} {s : State} {args : Array Value} {below : List Frame} {len W : Nat} {Z : State} {a0 : Array Value} {h : Heap} (hZ : Z.Warmed39 s.vm) (hw : ∀ d ∈ words, d.before a0 Z = true) {kI : Nat} (wi : (Jvm.Cond.instantiable ST kI).before a0 Z = true)
    {x b : Addr} {kC : ClassId} {cs bs : List Int32} {d v0 c0 : Value} {z N : Int32} {n n0 : Nat} (hx0 : n0 ≤ x) (hh0 : n0 ≤ h.size) (E : RoadKit.Exa Z h x ST) (V : RoadKit.Fld Z h x ST "value" "[B" v0) (C : RoadKit.Fld Z h x ST "coder" "B" c0) (K : RoadKit.Arv Z h b kC .char N (cs.map Value.int) d) (S : RoadKit.Sta Z h ST "COMPACT_STRINGS" "Z" (.int z)) (hz : ¬ z = 0)
    (hn : cs.length = n) (hN : N = Int32.ofNat n) (l0 : 0 < n) (l2 : n ≤ 4000) (hp : ∀ c ∈ cs, ¬ c < 0 ∧ ¬ (255 : Int32) < c) (hb : bs = cs.map (fun c => c.toInt8.toInt32)) (hfr : 4 ≤ R.frames) (hlo : W + 65 ≤ R.locals) :
    Back l R p e below s args (⟨"java/lang/String", "<init>", "([C)V"⟩ : MethodName) len W (fun P a => a = #[.ref x, .ref b] ∧ P.U.heap = h ∧ P.cells + 1 ≤ R.cells ∧ P.slots + n ≤ R.slots)
      (fun P _ v B => ∃ L, QV Z x N bs h n0 v B.U.heap L ∧ B.locs = P.locs ++ L ∧ B.cells = P.cells + 1 ∧ B.slots = P.slots + n) := by
  subst hn hN hb
  refine Back.mono (backArv hZ hw wi E V C K S hz (n32 (by omega)) l0 (by omega) (fun c hc => (hp c hc).2) hfr hlo) (fun P a hp => hp) (fun P a v B hp hq => ?_)
  obtain ⟨L, ⟨q1, q2, q3, q4, q5, q6, q7, ⟨kb, v1, v2⟩, q9⟩, hl, hc, hs⟩ := hq
  exact ⟨L, ⟨q1, fun y hy => by rw [q2 y hy]; exact hx0, q3, q5, q7, h.size, kb, hh0, Nat.le_refl _, Nat.ne_of_gt E.lt, q6, by rw [List.map_map]; exact v2⟩, hl, hc, hs⟩
end StrChars.Road
end Jvm.Pilot.@@N@@
namespace Jvm.Pilot.@@N@@
open Jvm Jvm.ClassFile Sem Op Lib Jvm.Free Jvm.Stand Jvm.LawKit Jvm.RoadKit Bundle Jvm.Pilot.@@N@@.Jvm.D
theorem own_mvMN {Z s : State} {a0 args : Array Value} {own host : String} {index : Nat} {y : MethodName} (hZ : Z.Warmed39 s.vm) (w : (Jvm.Cond.methodLinkNest own index y host).before a0 Z = true) : (Jvm.Cond.methodLinkNest own index y host).before args s = true := (Cond.methodLinkNest_wide hZ w :)
theorem own_cat1 {v : Value} (h : v.isRef = true) : v.category = 1 := by cases v <;> simp [Value.isRef] at h <;> rfl
theorem own_fit {v : Value} {t : FieldType} (h : v.isRef = true) (ht : t.isReference = true) : fits t v = true := by
  cases t <;> first | (cases ht; done) | (cases v <;> simp [Value.isRef] at h <;> rfl)
theorem own_nar {v : Value} {t : FieldType} (h : v.isRef = true) (ht : t.isReference = true) : narrow t v = v := by
  cases t <;> first | (cases ht; done) | (cases v <;> simp [Value.isRef] at h <;> rfl)
theorem own_c255 (x : Int32) : ¬ nar .char ((x &&& (255 : Int32)).toUInt32.toUInt16.toUInt32.toInt32) < 0 ∧ ¬ (255 : Int32) < nar .char ((x &&& (255 : Int32)).toUInt32.toUInt16.toUInt32.toInt32) := by
  have e : nar .char ((x &&& (255 : Int32)).toUInt32.toUInt16.toUInt32.toInt32) = x &&& (255 : Int32) := by
    simp only [nar, UInt32.toUInt32_toInt32, UInt16.toUInt16_toUInt32]
    exact i2c_mask x
  have h := c_mask x (255 : Int32) 8 (by decide) (by decide)
  rw [e]
  rw [Int32.lt_iff_toInt_lt, Int32.lt_iff_toInt_lt]
  have e1 : (0 : Int32).toInt = 0 := by decide
  have e2 : (255 : Int32).toInt = 255 := by decide
  have e3 : ((2 ^ 8 : Nat) : Int) = 256 := by decide
  rw [e3] at h
  omega
theorem pn_0 : plainName "java/lang/Record" = true := by first | (simp [plainName, overriddenIn]; done) | decide +kernel
theorem dRC_0 : decode jdk_30_method_1_code 0 = .ok (.aload_n 0, 1) := by decide +kernel
theorem dRC_1 : decode jdk_30_method_1_code 1 = .ok (.invokespecial 1, 3) := by decide +kernel
theorem dRC_4 : decode jdk_30_method_1_code 4 = .ok (.return_, 1) := by decide +kernel
theorem ef_RC (m : MethodId) (x0 : Addr) : entryFrame m #[(.ref x0)] 1 = mkF m 0 #[.val (.ref x0)] [] := by first | (simp [entryFrame, mkF, argsToLocals, Value.category, maxLocals]; done) | rfl
def QRC (Z : State) (a : Addr) (h0 : Heap) (n0 : Nat) (v : Option Value) (h : Heap) (L : List Loc) : Prop := v = none ∧ Fr n0 L ∧ h = h0
set_option maxRecDepth 65536 in
set_option maxHeartbeats 40000000 in
theorem rmRC (l : Launch) (Z : State) (a0 : Array Value) (hw : ∀ d ∈ tables_1, d.before a0 Z = true) (ws : List Jvm.Cond) (a : Addr) (h0 : Heap) (n0 : Nat) (Z0 : n0 ≤ h0.size) :
    MetFree l (⟨"java/lang/Record", "<init>", "()V"⟩ : MethodName) (head1 (Jvm.Cond.code (⟨"java/lang/Record", "<init>", "()V"⟩ : MethodName) jdk_30_method_1_code 1 none :: ws) ({ frames := 1, cells := 0, slots := 0, locals := 12 } : Room)) (fun as_ U => as_ = #[(.ref a)] ∧ Z.Warmed39 U.vm ∧ U.heap = h0) (fun _ _ _ _ _ => True) (fun _ U o U' => ∃ v L, o = .returned v ∧ QRC Z a h0 n0 v U'.heap L ∧ FrameEnd U o U' L ({ frames := 1, cells := 0, slots := 0, locals := 12 } : Room).cells ({ frames := 1, cells := 0, slots := 0, locals := 12 } : Room).slots) := by
  refine MetFree.of_bodySF (plainFor_of_name pn_0) hisR ?_
  intro p e s m args below meth c s₁ Bd hml0 hP hK
  obtain ⟨rfl, hZ, hh⟩ := hP
  have hx := Bd.exec
  have hby := Bd.bytes
  have hml : c.maxLocals = 1 := hml0
  have hown : s.vm.findClass "java/lang/Record" = some m.cls := findClass_of_methodNamed Bd.named
  have hnm := (name_of_methodNamed Bd.named Bd.method).1
  have X0 : Stand p l e ({ frames := 1, cells := 0, slots := 0, locals := 12 } : Room) s m #[(.ref a)] below meth c s₁ [] 0 0 := Stand.of_body Bd
  have e0 : s₁.heap = h0 := by rw [← hh, Bd.state]; rfl
  have N0 := Fr.nil n0
  obtain ⟨E0, hE0⟩ : ∃ z, z = s₁.setTop (entryFrame m #[(.ref a)] 1) := ⟨_, rfl⟩
  rw [← hE0]
  have go0 : ∀ tgt, Steps p.tables e below (s₁.setTop (mkF m 0 #[.val (.ref a)] [])) tgt → Steps p.tables e below E0 tgt := fun tgt kont => by rw [hE0]; exact castTop (ef_RC m a) kont
  have go1 : ∀ tgt, Steps p.tables e below (s₁.setTop (mkF m 1 #[.val (.ref a)] [(.ref a)])) tgt → Steps p.tables e below E0 tgt := fun tgt kont => go0 tgt (by
    show Steps p.tables e below (s₁.setTop (mkF m 0 #[.val (.ref a)] [])) tgt
    refine XS.aloadN X0.here hx rfl (hb hby dRC_0) rfl rfl ?_
    exact kont)
  obtain ⟨T2, X2, e2, st2⟩ := initO X0 hx hZ hown (hw _ (List.mem_of_getElem? (i := 48) rfl)) (hw _ (List.mem_of_getElem? (i := 16) rfl)) (hw _ (List.mem_of_getElem? (i := 17) rfl)) e0 (g := (mkF m 1 #[.val (.ref a)] [(.ref a)])) rfl (by rw [hml]; rfl) rfl (hb hby dRC_1) (by decide) (W := 0) (by show 2 * 0 + _ ≤ _; exact Nat.le_of_eq rfl) (by decide)
  have go2 : ∀ tgt, Steps p.tables e below (T2.setTop (mkF m 4 #[.val (.ref a)] [])) tgt → Steps p.tables e below E0 tgt := fun tgt kont => go1 tgt (st2 tgt kont)
  obtain ⟨fs, hr, hrun, hended, hW, hsame⟩ := X2.leave (v := none) (fun _ => rfl)
  refine ⟨_, _, go2 _ ?_, hrun, hended, _, _, rfl, ?_, ⟨_, rfl⟩, hW, hsame.mono (by decide) (by decide)⟩
  · show Steps p.tables e below (T2.setTop (mkF m 4 #[.val (.ref a)] [])) _
    exact X2.returnOut hx Bd.returns (hb hby dRC_4) hr
  · show QRC Z a h0 n0 _ T2.heap _
    rw [e2]
    exact ⟨rfl, N0, rfl⟩
/-- the empty constant: not loaded since the start, or booked, with what it holds -/
def own_J (Z : State) (h : Heap) (vm : Vm) : Prop := IB Z vm [] ∨ ∃ (a b : Addr) (k : ClassId), Jvm.RoadKit.Lit (Z.setVm vm) "java/lang/String" 7 a ∧ Exa Z h a "java/lang/String" ∧ Fld Z h a "java/lang/String" "coder" "B" (.int (0 : Int32)) ∧ Fld Z h a "java/lang/String" "value" "[B" (.ref b) ∧ Arv Z h b k .byte (0 : Int32) [] (.int (0 : Int32))
theorem own_Jkeep {Z : State} {h h' : Heap} {vm : Vm} (J : own_J Z h vm) (K : Keep h h' []) : own_J Z h' vm := J.imp id fun ⟨a, b, k, L, E, C, F, A⟩ => ⟨a, b, k, L, E.keep K, C.keep K nin0, F.keep K nin0, A.keep K nin0⟩
theorem own_Jwarm {Z s : State} {h : Heap} {vm' : Vm} (J : own_J Z h s.vm) (hW : s.WarmedH vm') : own_J Z h vm' := by
  rcases J with ⟨more, e, q⟩ | ⟨a, b, k, L, r⟩
  · exact Or.inl ⟨more, hW.interned_eq.trans e, q⟩
  · exact Or.inr ⟨a, b, k, Jvm.RoadKit.Lit.stays (s := s) (vm0 := s.vm) L hW.wide, r⟩
theorem own_backJ {p : Program} {l : Launch} {e : Env} {R : Room} {s : State} {args : Array Value} {below : List Frame} {Z : State} {a0 : Array Value} {h : Heap} {y : MethodName} {bytes : ByteArray} {maxL : Nat} {ret : Option FieldType} {rm : Room} {len W : Nat} {as' : Array Value} {J : Vm → Prop} {Q : Option Value → Heap → List Loc → Vm → Prop}
    (hM : MetFree l y (head1 [Jvm.Cond.code y bytes maxL ret] rm) (fun a U => a = as' ∧ Z.Warmed39 U.vm ∧ U.heap = h ∧ J U.vm) (fun _ _ _ _ _ => True) (fun _ U o U' => ∃ v L, o = .returned v ∧ Q v U'.heap L U'.vm ∧ ReturnedEndW U o U' L rm.cells rm.slots))
    (hZ : Z.Warmed39 s.vm) (wc : (Jvm.Cond.code y bytes maxL ret).before a0 Z = true) (wz : (Jvm.Cond.initialized y.cls).before a0 Z = true) (hf : rm.frames + 1 ≤ R.frames) (hl : W + (maxL + 11) + rm.locals ≤ R.locals) :
    BackS l R p e below s args y len W (fun A a => a = as' ∧ A.U.heap = h ∧ J A.U.vm ∧ A.cells + rm.cells ≤ R.cells ∧ A.slots + rm.slots ≤ R.slots)
      (fun A _ v B => ∃ L, Q v B.U.heap L B.U.vm ∧ B.locs = A.locs ++ L ∧ B.cells = A.cells + rm.cells ∧ B.slots = A.slots + rm.slots) := by
  refine BackS.of_freeW (bytes := bytes) (maxL := maxL) (ret := ret) (E := fun _ _ o t L k n => k = rm.cells ∧ n = rm.slots ∧ ∃ v, o = .returned v ∧ Q v t.heap L t.vm) hM hf hl ?_ ?_ ?_ ?_ ?_
  · intro m meth c A a Y hp
    have hU : Z.Warmed39 A.U.vm := wtrans hZ Y.warmed
    refine ⟨?_, mv hU wc, mv hU wz, hp.2.2.2.1, hp.2.2.2.2⟩
    show (Jvm.Cond.and _ .tt).before a A.U = true
    rw [Cond.before_and, mv hU wc]; rfl
  · exact fun m meth c A a g mk Y hp => ⟨hp.1, wtrans hZ Y.warmed, hp.2.1, hp.2.2.1⟩
  · exact fun _ _ _ _ _ _ _ _ _ => trivial
  · rintro _ _ _ _ ⟨v, L, h1, h2, h3⟩
    exact ⟨L, _, _, h3, rfl, rfl, v, h1, h2⟩
  · rintro m meth c A a g mk v t L k n Y hp _ _ ⟨e1, e2, v', e3, e4⟩
    cases e3; subst e1 e2
    exact ⟨L, e4, rfl, rfl, rfl⟩

theorem pn_1 : plainName "java/lang/String" = true := by first | (simp [plainName, overriddenIn]; done) | decide +kernel
theorem dV0_0 : decode jdk_42_method_149_code 0 = .ok (.aload_n 0, 1) := by decide +kernel
theorem dV0_1 : decode jdk_42_method_149_code 1 = .ok (.invokespecial 1, 3) := by decide +kernel
theorem dV0_4 : decode jdk_42_method_149_code 4 = .ok (.iload_n 3, 1) := by decide +kernel
theorem dV0_5 : decode jdk_42_method_149_code 5 = .ok (.ifCond .ne 22, 3) := by decide +kernel
theorem dV0_8 : decode jdk_42_method_149_code 8 = .ok (.aload_n 0, 1) := by decide +kernel
theorem dV0_9 : decode jdk_42_method_149_code 9 = .ok (.ldc 7, 2) := by decide +kernel
theorem dV0_11 : decode jdk_42_method_149_code 11 = .ok (.getfield 9, 3) := by decide +kernel
theorem dV0_14 : decode jdk_42_method_149_code 14 = .ok (.putfield 9, 3) := by decide +kernel
theorem dV0_17 : decode jdk_42_method_149_code 17 = .ok (.aload_n 0, 1) := by decide +kernel
theorem dV0_18 : decode jdk_42_method_149_code 18 = .ok (.ldc 7, 2) := by decide +kernel
theorem dV0_20 : decode jdk_42_method_149_code 20 = .ok (.getfield 15, 3) := by decide +kernel
theorem dV0_23 : decode jdk_42_method_149_code 23 = .ok (.putfield 15, 3) := by decide +kernel
theorem dV0_26 : decode jdk_42_method_149_code 26 = .ok (.return_, 1) := by decide +kernel
theorem ef_V0 (m : MethodId) (x0 : Addr) (x1 : Addr) (x2 : Int32) (x3 : Int32) : entryFrame m #[(.ref x0), (.ref x1), (.int x2), (.int x3), .null] 6 = mkF m 0 #[.val (.ref x0), .val (.ref x1), .val (.int x2), .val (.int x3), .val .null, .unset] [] := by first | (simp [entryFrame, mkF, argsToLocals, Value.category, maxLocals]; done) | rfl
def QV0 (Z : State) (x : Addr) (ca : Addr) (h0 : Heap) (n0 : Nat) (v : Option Value) (h : Heap) (L : List Loc) (vm : Vm) : Prop := v = none ∧ Fr n0 L ∧ Keep h0 h [x] ∧ Exa Z h x "java/lang/String" ∧ Fld Z h x "java/lang/String" "coder" "B" (.int (0 : Int32)) ∧ ∃ (t : Addr) (kb : ClassId), Fld Z h x "java/lang/String" "value" "[B" (.ref t) ∧ Arv Z h t kb .byte (0 : Int32) [] (.int (0 : Int32)) ∧ own_J Z h vm
set_option maxRecDepth 65536 in
set_option maxHeartbeats 40000000 in
theorem rmV0 (l : Launch) (Z : State) (a0 : Array Value) (hw : ∀ d ∈ tables_1, d.before a0 Z = true) (ws : List Jvm.Cond) (x : Addr) (ca : Addr) (h0 : Heap) (n0 : Nat) (Z0 : n0 ≤ h0.size) (Ex : Exa Z h0 x "java/lang/String") (gx : n0 ≤ x) (Fv : Fld Z h0 x "java/lang/String" "value" "[B" .null) (Fc : Fld Z h0 x "java/lang/String" "coder" "B" (.int (0 : Int32))) (O0 : Old Z n0 h0) (hH : Jvm.Lit.constHeld Z "java/lang/String" 7) (hCW : Jvm.Lit.compactW.before a0 Z = true) :
    MetFree l (⟨"java/lang/String", "<init>", "([CIILjava/lang/Void;)V"⟩ : MethodName) (head1 (Jvm.Cond.code (⟨"java/lang/String", "<init>", "([CIILjava/lang/Void;)V"⟩ : MethodName) jdk_42_method_149_code 6 none :: ws) ({ frames := 1, cells := 2, slots := 4, locals := 12 } : Room)) (fun as_ U => as_ = #[(.ref x), (.ref ca), (.int (0 : Int32)), (.int (0 : Int32)), .null] ∧ Z.Warmed39 U.vm ∧ U.heap = h0 ∧ (own_J Z h0) U.vm) (fun _ _ _ _ _ => True) (fun _ U o U' => ∃ v L, o = .returned v ∧ QV0 Z x ca h0 n0 v U'.heap L U'.vm ∧ ReturnedEndW U o U' L ({ frames := 1, cells := 2, slots := 4, locals := 12 } : Room).cells ({ frames := 1, cells := 2, slots := 4, locals := 12 } : Room).slots) := by
  refine MetFree.of_bodySF (plainFor_of_name pn_1) hisR ?_
  intro p e s m args below meth c s₁ Bd hml0 hP hK
  obtain ⟨rfl, hZ, hh, hJ0⟩ := hP
  have hx := Bd.exec
  have hby := Bd.bytes
  have hml : c.maxLocals = 6 := hml0
  have hown : s.vm.findClass "java/lang/String" = some m.cls := findClass_of_methodNamed Bd.named
  have hnm := (name_of_methodNamed Bd.named Bd.method).1
  have X0 : Stand p l e ({ frames := 1, cells := 2, slots := 4, locals := 12 } : Room) (s.setVm s.vm) m #[(.ref x), (.ref ca), (.int (0 : Int32)), (.int (0 : Int32)), .null] below meth c s₁ [] 0 0 := Stand.of_body Bd
  have e0 : s₁.heap = h0 := by rw [← hh, Bd.state]; rfl
  have N0 := Fr.nil n0
  obtain ⟨E0, hE0⟩ : ∃ z, z = s₁.setTop (entryFrame m #[(.ref x), (.ref ca), (.int (0 : Int32)), (.int (0 : Int32)), .null] 6) := ⟨_, rfl⟩
  rw [← hE0]
  have go0 : ∀ tgt, Steps p.tables e below (s₁.setTop (mkF m 0 #[.val (.ref x), .val (.ref ca), .val (.int (0 : Int32)), .val (.int (0 : Int32)), .val .null, .unset] [])) tgt → Steps p.tables e below E0 tgt := fun tgt kont => by rw [hE0]; exact castTop (ef_V0 m x ca (0 : Int32) (0 : Int32)) kont
  have hS0 : s.Since s.vm h0.size := (State.WarmedH.refl s).since _
  have hk0 : h0.size ≤ h0.size := Nat.le_refl _
  have hwS : ∀ a ∈ Bundle.stringAtoms, a.before a0 Z = true := fun d hd => hw d ((by decide +kernel : ∀ d ∈ Bundle.stringAtoms, d ∈ tables_1) d hd)
  have go1 : ∀ tgt, Steps p.tables e below (s₁.setTop (mkF m 1 #[.val (.ref x), .val (.ref ca), .val (.int (0 : Int32)), .val (.int (0 : Int32)), .val .null, .unset] [(.ref x)])) tgt → Steps p.tables e below E0 tgt := fun tgt kont => go0 tgt (by
    show Steps p.tables e below (s₁.setTop (mkF m 0 #[.val (.ref x), .val (.ref ca), .val (.int (0 : Int32)), .val (.int (0 : Int32)), .val .null, .unset] [])) tgt
    refine XS.aloadN X0.here hx rfl (hb hby dV0_0) rfl rfl ?_
    exact kont)
  obtain ⟨T2, X2, e2, st2⟩ := initO X0 hx hZ hown (hw _ (List.mem_of_getElem? (i := 15) rfl)) (hw _ (List.mem_of_getElem? (i := 16) rfl)) (hw _ (List.mem_of_getElem? (i := 17) rfl)) e0 (g := (mkF m 1 #[.val (.ref x), .val (.ref ca), .val (.int (0 : Int32)), .val (.int (0 : Int32)), .val .null, .unset] [(.ref x)])) rfl (by rw [hml]; rfl) rfl (hb hby dV0_1) (by decide) (W := 0) (by show 2 * 0 + _ ≤ _; exact Nat.le_of_eq rfl) (by decide)
  have go2 : ∀ tgt, Steps p.tables e below (T2.setTop (mkF m 4 #[.val (.ref x), .val (.ref ca), .val (.int (0 : Int32)), .val (.int (0 : Int32)), .val .null, .unset] [])) tgt → Steps p.tables e below E0 tgt := fun tgt kont => go1 tgt (st2 tgt kont)
  have go3 : ∀ tgt, Steps p.tables e below (T2.setTop (mkF m 9 #[.val (.ref x), .val (.ref ca), .val (.int (0 : Int32)), .val (.int (0 : Int32)), .val .null, .unset] [(.ref x)])) tgt → Steps p.tables e below E0 tgt := fun tgt kont => go2 tgt (by
    show Steps p.tables e below (T2.setTop (mkF m 4 #[.val (.ref x), .val (.ref ca), .val (.int (0 : Int32)), .val (.int (0 : Int32)), .val .null, .unset] [])) tgt
    refine XS.iloadN X2.here hx rfl (hb hby dV0_4) rfl ?_
    show Steps p.tables e below (T2.setTop (mkF m 5 #[.val (.ref x), .val (.ref ca), .val (.int (0 : Int32)), .val (.int (0 : Int32)), .val .null, .unset] [(.int (0 : Int32))])) tgt
    refine XS.ifNo X2.here hx rfl (hb hby dV0_5) rfl ((if0 _ _).trans (teq rfl).2) ?_
    show Steps p.tables e below (T2.setTop (mkF m 8 #[.val (.ref x), .val (.ref ca), .val (.int (0 : Int32)), .val (.int (0 : Int32)), .val .null, .unset] [])) tgt
    refine XS.aloadN X2.here hx rfl (hb hby dV0_8) rfl rfl ?_
    exact kont)
  have hkeep0 : ∀ (b : Addr) (cl : Cell), Z.heap[b]? = some cl → s.heap[b]? = some cl := fun b cl q => by rw [hh]; exact O0.2.2 b cl q
  obtain ⟨la, lb, lk, vm4, T4, h4, k4, X4, e4, E4, hS4, hk4, hZ4, hown4, Ela, Cla, Vla, Ala, Lt, go4⟩ : ∃ (la lb : Addr) (lk : ClassId) (vm4 : Vm) (T4 : State) (h4 : Heap) (k4 : Nat), Stand p l e ({ frames := 1, cells := 2, slots := 4, locals := 12 } : Room) (s.setVm vm4) m #[(.ref x), (.ref ca), (.int (0 : Int32)), (.int (0 : Int32)), .null] below meth c T4 [] 2 4 ∧ T4.heap = h4 ∧ Ext h0 h4 ∧ s.Since vm4 k4 ∧ k4 ≤ h4.size ∧ Z.Warmed39 (s.setVm vm4).vm ∧ (s.setVm vm4).vm.findClass "java/lang/String" = some m.cls ∧ Exa Z h4 la "java/lang/String" ∧ Fld Z h4 la "java/lang/String" "coder" "B" (.int (0 : Int32)) ∧ Fld Z h4 la "java/lang/String" "value" "[B" (.ref lb) ∧ Arv Z h4 lb lk .byte (0 : Int32) [] (.int (0 : Int32)) ∧ Jvm.RoadKit.Lit (s.setVm vm4) "java/lang/String" 7 la ∧ ∀ tgt, Steps p.tables e below (T4.setTop (mkF m 11 #[.val (.ref x), .val (.ref ca), .val (.int (0 : Int32)), .val (.int (0 : Int32)), .val .null, .unset] [(.ref la), (.ref x)])) tgt → Steps p.tables e below E0 tgt := by
    rcases hJ0 with I | ⟨a, b, k, Lt, Ea, Ca, Va, Aa⟩
    · obtain ⟨a, T', h', k1, b, k, r1, r2, r3, r4, r5, r6, r7, r8, r9, r10, r11, -, -, -, r15, r16⟩ := ldcSVL X2 hx hZ hown (hw _ (List.mem_of_getElem? (i := 34) rfl)) hwS e2 hS0 hk0 (Fr.nil _) hkeep0 I (by simp) hH hCW (vs := []) (z := 0) ⟨by decide, by decide⟩ (by decide) (by decide) (g := (mkF m 9 #[.val (.ref x), .val (.ref ca), .val (.int (0 : Int32)), .val (.int (0 : Int32)), .val .null, .unset] [(.ref x)])) rfl (hb hby dV0_9) (n := 0) (by decide) (by decide) (by decide) (by decide)
      exact ⟨a, b, k, _, T', h', k1, r1, r2, r3, r4, r5, r6, r7, r8, r9, r10, r11, r15, fun tgt kont => go3 tgt (r16 tgt kont)⟩
    · exact ⟨a, b, k, s.vm, T2, h0, h0.size, X2.more (by decide) (by decide), e2, ⟨Nat.le_refl _, fun _ _ q => q⟩, hS0, hk0, hZ, hown, Ea, Ca, Va, Aa, Lt, fun tgt kont => go3 tgt (ldcAgain X2 hx hZ hown (hw _ (List.mem_of_getElem? (i := 34) rfl)) Lt (g := (mkF m 9 #[.val (.ref x), .val (.ref ca), .val (.int (0 : Int32)), .val (.int (0 : Int32)), .val .null, .unset] [(.ref x)])) rfl (hb hby dV0_9) tgt kont)⟩
  have z5 : n0 ≤ h4.size := Nat.le_trans Z0 E4.1
  have K6 : Keep h0 h4 [x] := (Keep.refl h0 [x]).ext E4
  have f7 : Fld Z h4 x "java/lang/String" "value" "[B" .null := (Fv.ext E4)
  have ne_la_x : la ≠ x := Vla.ne f7 (by simp)
  have f8 : Exa Z h4 x "java/lang/String" := (Ex.ext E4)
  have ne_x_lb : x ≠ lb := Exa.neArv f8 Ala (hw _ (List.mem_of_getElem? (i := 6) rfl))
  obtain ⟨T9, X9, e9, st9⟩ := getF X4 hx hZ4 hown4 (host := "") (Or.inl (hw _ (List.mem_of_getElem? (i := 32) rfl))) Via.refl e4 Vla (g := (mkF m 11 #[.val (.ref x), .val (.ref ca), .val (.int (0 : Int32)), .val (.int (0 : Int32)), .val .null, .unset] [(.ref la), (.ref x)])) rfl rfl (hb hby dV0_11)
  have go9 : ∀ tgt, Steps p.tables e below (T9.setTop (mkF m 14 #[.val (.ref x), .val (.ref ca), .val (.int (0 : Int32)), .val (.int (0 : Int32)), .val .null, .unset] [(.ref lb), (.ref x)])) tgt → Steps p.tables e below E0 tgt := fun tgt kont => go4 tgt (st9 tgt kont)
  obtain ⟨T10, h10, X10, e10, W10, st10⟩ := putF X9 hx hZ4 hown4 (host := "") (Or.inl (hw _ (List.mem_of_getElem? (i := 32) rfl))) Via.refl e9 f7 f8 (Or.inr ⟨(hw _ (List.mem_of_getElem? (i := 33) rfl)), rfl, hnm⟩) (hw _ (List.mem_of_getElem? (i := 6) rfl)) (ty := (.array .byte)) (by decide) rfl rfl (g := (mkF m 14 #[.val (.ref x), .val (.ref ca), .val (.int (0 : Int32)), .val (.int (0 : Int32)), .val .null, .unset] [(.ref lb), (.ref x)])) rfl rfl (hb hby dV0_14)
  have z11 : n0 ≤ h10.size := Nat.le_trans z5 (Keep.of_wr W10).1
  have K12 : Keep h0 h10 [x] := K6.wr W10 (Or.inl (List.mem_of_getElem? (i := 0) rfl))
  have N10 := Fr.snoc X10 N0 gx
  have f13 : Fld Z h10 x "java/lang/String" "value" "[B" (.ref lb) := (f7.same W10)
  have go10 : ∀ tgt, Steps p.tables e below (T10.setTop (mkF m 17 #[.val (.ref x), .val (.ref ca), .val (.int (0 : Int32)), .val (.int (0 : Int32)), .val .null, .unset] [])) tgt → Steps p.tables e below E0 tgt := fun tgt kont => go9 tgt (st10 tgt kont)
  have go14 : ∀ tgt, Steps p.tables e below (T10.setTop (mkF m 18 #[.val (.ref x), .val (.ref ca), .val (.int (0 : Int32)), .val (.int (0 : Int32)), .val .null, .unset] [(.ref x)])) tgt → Steps p.tables e below E0 tgt := fun tgt kont => go10 tgt (by
    show Steps p.tables e below (T10.setTop (mkF m 17 #[.val (.ref x), .val (.ref ca), .val (.int (0 : Int32)), .val (.int (0 : Int32)), .val .null, .unset] [])) tgt
    refine XS.aloadN X10.here hx rfl (hb hby dV0_17) rfl rfl ?_
    exact kont)
  have go15 : ∀ tgt, Steps p.tables e below (T10.setTop (mkF m 20 #[.val (.ref x), .val (.ref ca), .val (.int (0 : Int32)), .val (.int (0 : Int32)), .val .null, .unset] [(.ref la), (.ref x)])) tgt → Steps p.tables e below E0 tgt := fun tgt kont => go14 tgt (ldcAgain X10 hx hZ4 hown4 (hw _ (List.mem_of_getElem? (i := 34) rfl)) Lt (g := (mkF m 18 #[.val (.ref x), .val (.ref ca), .val (.int (0 : Int32)), .val (.int (0 : Int32)), .val .null, .unset] [(.ref x)])) rfl (hb hby dV0_18) tgt kont)
  have f16 : Fld Z h10 la "java/lang/String" "coder" "B" (.int (0 : Int32)) := (Cla.other W10 (Or.inl ne_la_x))
  obtain ⟨T17, X17, e17, st17⟩ := getF X10 hx hZ4 hown4 (host := "") (Or.inl (hw _ (List.mem_of_getElem? (i := 30) rfl))) Via.refl e10 f16 (g := (mkF m 20 #[.val (.ref x), .val (.ref ca), .val (.int (0 : Int32)), .val (.int (0 : Int32)), .val .null, .unset] [(.ref la), (.ref x)])) rfl rfl (hb hby dV0_20)
  have go17 : ∀ tgt, Steps p.tables e below (T17.setTop (mkF m 23 #[.val (.ref x), .val (.ref ca), .val (.int (0 : Int32)), .val (.int (0 : Int32)), .val .null, .unset] [(.int (0 : Int32)), (.ref x)])) tgt → Steps p.tables e below E0 tgt := fun tgt kont => go15 tgt (st17 tgt kont)
  have f18 : Fld Z h10 x "java/lang/String" "coder" "B" (.int (0 : Int32)) := ((Fc.ext E4).other W10 (Or.inr (slot_ne (Or.inr (hw _ (List.mem_of_getElem? (i := 31) rfl))) (Or.inr (hw _ (List.mem_of_getElem? (i := 33) rfl))) (by decide) (t := .byte) (t' := (.array .byte)) (by decide) (by decide))))
  have f19 : Exa Z h10 x "java/lang/String" := (f8.wr W10)
  obtain ⟨T20, h20, X20, e20, W20, st20⟩ := putF X17 hx hZ4 hown4 (host := "") (Or.inl (hw _ (List.mem_of_getElem? (i := 30) rfl))) Via.refl e17 f18 f19 (Or.inr ⟨(hw _ (List.mem_of_getElem? (i := 31) rfl)), rfl, hnm⟩) (hw _ (List.mem_of_getElem? (i := 6) rfl)) (ty := .byte) (by decide) rfl rfl (g := (mkF m 23 #[.val (.ref x), .val (.ref ca), .val (.int (0 : Int32)), .val (.int (0 : Int32)), .val .null, .unset] [(.int (0 : Int32)), (.ref x)])) rfl rfl (hb hby dV0_23)
  have z21 : n0 ≤ h20.size := Nat.le_trans z11 (Keep.of_wr W20).1
  have K22 : Keep h0 h20 [x] := K12.wr W20 (Or.inl (List.mem_of_getElem? (i := 0) rfl))
  have N20 := Fr.snoc X20 N10 gx
  have f23 : Fld Z h20 x "java/lang/String" "coder" "B" (.int (0 : Int32)) := (f18.same W20)
  have go20 : ∀ tgt, Steps p.tables e below (T20.setTop (mkF m 26 #[.val (.ref x), .val (.ref ca), .val (.int (0 : Int32)), .val (.int (0 : Int32)), .val .null, .unset] [])) tgt → Steps p.tables e below E0 tgt := fun tgt kont => go17 tgt (st20 tgt kont)
  have f24 : Exa Z h20 la "java/lang/String" := ((Ela.wr W10).wr W20)
  have f25 : Fld Z h20 la "java/lang/String" "coder" "B" (.int (0 : Int32)) := (f16.other W20 (Or.inl ne_la_x))
  have f26 : Fld Z h20 la "java/lang/String" "value" "[B" (.ref lb) := ((Vla.other W10 (Or.inl ne_la_x)).other W20 (Or.inl ne_la_x))
  have f27 : Arv Z h20 lb lk .byte (0 : Int32) [] (.int (0 : Int32)) := ((Ala.other W10 (Ne.symm ne_x_lb)).other W20 (Ne.symm ne_x_lb))
  have f28 : Exa Z h20 x "java/lang/String" := (f19.wr W20)
  have f29 : Fld Z h20 x "java/lang/String" "value" "[B" (.ref lb) := (f13.other W20 (Or.inr (slot_ne (Or.inr (hw _ (List.mem_of_getElem? (i := 33) rfl))) (Or.inr (hw _ (List.mem_of_getElem? (i := 31) rfl))) (by decide) (t := (.array .byte)) (t' := .byte) (by decide) (by decide))))
  obtain ⟨fs, hr, hrun, hended, hW⟩ := X20.leaveW hS4 (by rw [e20]; exact (Nat.le_trans hk4 (Nat.le_trans (Keep.of_wr W10).1 (Keep.of_wr W20).1))) (v := none) (fun _ => rfl)
  refine ⟨_, _, go20 _ ?_, hrun, hended, _, _, rfl, ?_, hW.1, hW.2.1, hW.2.2.1, hW.2.2.2.mono (by decide) (by decide)⟩
  · show Steps p.tables e below (T20.setTop (mkF m 26 #[.val (.ref x), .val (.ref ca), .val (.int (0 : Int32)), .val (.int (0 : Int32)), .val .null, .unset] [])) _
    exact X20.returnOut hx Bd.returns (hb hby dV0_26) hr
  · show QV0 Z x ca h0 n0 _ T20.heap _ T20.vm
    rw [e20]
    exact ⟨rfl, N20, K22, f28, f23, lb, lk, f29, f27, (own_Jwarm (s := s.setVm vm4) (Or.inr ⟨la, lb, lk, Lt, f24, f25, f26, f27⟩) X20.warmed)⟩
theorem pd_2 : parseMethodDescriptor "([CIILjava/lang/Void;)V" = some ⟨[(.array .char), .int, .int, (.object "java/lang/Void")], none⟩ := by decide +kernel
theorem dI0_0 : decode jdk_42_method_3_code 0 = .ok (.aload_n 0, 1) := by decide +kernel
theorem dI0_1 : decode jdk_42_method_3_code 1 = .ok (.aload_n 1, 1) := by decide +kernel
theorem dI0_2 : decode jdk_42_method_3_code 2 = .ok (.iconst 0, 1) := by decide +kernel
theorem dI0_3 : decode jdk_42_method_3_code 3 = .ok (.aload_n 1, 1) := by decide +kernel
theorem dI0_4 : decode jdk_42_method_3_code 4 = .ok (.arraylength, 1) := by decide +kernel
theorem dI0_5 : decode jdk_42_method_3_code 5 = .ok (.aconst_null, 1) := by decide +kernel
theorem dI0_6 : decode jdk_42_method_3_code 6 = .ok (.invokespecial 27, 3) := by decide +kernel
theorem dI0_9 : decode jdk_42_method_3_code 9 = .ok (.return_, 1) := by decide +kernel
theorem ef_I0 (m : MethodId) (x0 : Addr) (x1 : Addr) : entryFrame m #[(.ref x0), (.ref x1)] 2 = mkF m 0 #[.val (.ref x0), .val (.ref x1)] [] := by first | (simp [entryFrame, mkF, argsToLocals, Value.category, maxLocals]; done) | rfl
def QI0 (Z : State) (x : Addr) (ca : Addr) (kc : ClassId) (h0 : Heap) (n0 : Nat) (v : Option Value) (h : Heap) (L : List Loc) (vm : Vm) : Prop := v = none ∧ Fr n0 L ∧ Keep h0 h [x] ∧ Exa Z h x "java/lang/String" ∧ Fld Z h x "java/lang/String" "coder" "B" (.int (0 : Int32)) ∧ ∃ (t : Addr) (kb : ClassId), Fld Z h x "java/lang/String" "value" "[B" (.ref t) ∧ Arv Z h t kb .byte (0 : Int32) [] (.int (0 : Int32)) ∧ own_J Z h vm
set_option maxRecDepth 65536 in
set_option maxHeartbeats 40000000 in
theorem rmI0 (l : Launch) (Z : State) (a0 : Array Value) (hw : ∀ d ∈ tables_1, d.before a0 Z = true) (ws : List Jvm.Cond) (x : Addr) (ca : Addr) (kc : ClassId) (h0 : Heap) (n0 : Nat) (Z0 : n0 ≤ h0.size) (Ex : Exa Z h0 x "java/lang/String") (gx : n0 ≤ x) (Fv : Fld Z h0 x "java/lang/String" "value" "[B" .null) (Fc : Fld Z h0 x "java/lang/String" "coder" "B" (.int (0 : Int32))) (O0 : Old Z n0 h0) (hH : Jvm.Lit.constHeld Z "java/lang/String" 7) (hCW : Jvm.Lit.compactW.before a0 Z = true) (Ac : Arv Z h0 ca kc .char (0 : Int32) [] (.int (0 : Int32))) :
    MetFree l (⟨"java/lang/String", "<init>", "([C)V"⟩ : MethodName) (head1 (Jvm.Cond.code (⟨"java/lang/String", "<init>", "([C)V"⟩ : MethodName) jdk_42_method_3_code 2 none :: ws) ({ frames := 2, cells := 2, slots := 4, locals := 29 } : Room)) (fun as_ U => as_ = #[(.ref x), (.ref ca)] ∧ Z.Warmed39 U.vm ∧ U.heap = h0 ∧ (own_J Z h0) U.vm) (fun _ _ _ _ _ => True) (fun _ U o U' => ∃ v L, o = .returned v ∧ QI0 Z x ca kc h0 n0 v U'.heap L U'.vm ∧ ReturnedEndW U o U' L ({ frames := 2, cells := 2, slots := 4, locals := 29 } : Room).cells ({ frames := 2, cells := 2, slots := 4, locals := 29 } : Room).slots) := by
  refine MetFree.of_bodySF (plainFor_of_name pn_1) hisR ?_
  intro p e s m args below meth c s₁ Bd hml0 hP hK
  obtain ⟨rfl, hZ, hh, hJ0⟩ := hP
  have hx := Bd.exec
  have hby := Bd.bytes
  have hml : c.maxLocals = 2 := hml0
  have hown : s.vm.findClass "java/lang/String" = some m.cls := findClass_of_methodNamed Bd.named
  have hnm := (name_of_methodNamed Bd.named Bd.method).1
  have X0 : Stand p l e ({ frames := 2, cells := 2, slots := 4, locals := 29 } : Room) (s.setVm s.vm) m #[(.ref x), (.ref ca)] below meth c s₁ [] 0 0 := Stand.of_body Bd
  have e0 : s₁.heap = h0 := by rw [← hh, Bd.state]; rfl
  have N0 := Fr.nil n0
  obtain ⟨E0, hE0⟩ : ∃ z, z = s₁.setTop (entryFrame m #[(.ref x), (.ref ca)] 2) := ⟨_, rfl⟩
  rw [← hE0]
  have go0 : ∀ tgt, Steps p.tables e below (s₁.setTop (mkF m 0 #[.val (.ref x), .val (.ref ca)] [])) tgt → Steps p.tables e below E0 tgt := fun tgt kont => by rw [hE0]; exact castTop (ef_I0 m x ca) kont
  have hS0 : s.Since s.vm h0.size := (State.WarmedH.refl s).since _
  have hk0 : h0.size ≤ h0.size := Nat.le_refl _
  have hwS : ∀ a ∈ Bundle.stringAtoms, a.before a0 Z = true := fun d hd => hw d ((by decide +kernel : ∀ d ∈ Bundle.stringAtoms, d ∈ tables_1) d hd)
  have go1 : ∀ tgt, Steps p.tables e below (s₁.setTop (mkF m 4 #[.val (.ref x), .val (.ref ca)] [(.ref ca), (.int (0 : Int32)), (.ref ca), (.ref x)])) tgt → Steps p.tables e below E0 tgt := fun tgt kont => go0 tgt (by
    show Steps p.tables e below (s₁.setTop (mkF m 0 #[.val (.ref x), .val (.ref ca)] [])) tgt
    refine XS.aloadN X0.here hx rfl (hb hby dI0_0) rfl rfl ?_
    show Steps p.tables e below (s₁.setTop (mkF m 1 #[.val (.ref x), .val (.ref ca)] [(.ref x)])) tgt
    refine XS.aloadN X0.here hx rfl (hb hby dI0_1) rfl rfl ?_
    show Steps p.tables e below (s₁.setTop (mkF m 2 #[.val (.ref x), .val (.ref ca)] [(.ref ca), (.ref x)])) tgt
    refine XS.iconst X0.here hx rfl (hb hby dI0_2) ?_
    show Steps p.tables e below (s₁.setTop (mkF m 3 #[.val (.ref x), .val (.ref ca)] [(.int (0 : Int32)), (.ref ca), (.ref x)])) tgt
    refine XS.aloadN X0.here hx rfl (hb hby dI0_3) rfl rfl ?_
    exact kont)
  obtain ⟨c2, Ar2, q2, S2, M2, -, -⟩ := id Ac
  have go3 : ∀ tgt, Steps p.tables e below (s₁.setTop (mkF m 6 #[.val (.ref x), .val (.ref ca)] [.null, (.int (0 : Int32)), (.int (0 : Int32)), (.ref ca), (.ref x)])) tgt → Steps p.tables e below E0 tgt := fun tgt kont => go1 tgt (by
    show Steps p.tables e below (s₁.setTop (mkF m 4 #[.val (.ref x), .val (.ref ca)] [(.ref ca), (.int (0 : Int32)), (.ref ca), (.ref x)])) tgt
    refine X0.arraylength hx (by rw [e0]; exact Ar2.1) (State.isArrayOf_alike hZ.alike Ar2.2.1) (g := (mkF m 4 #[.val (.ref x), .val (.ref ca)] [(.ref ca), (.int (0 : Int32)), (.ref ca), (.ref x)])) rfl rfl (hb hby dI0_4) _ ?_
    rw [len_of S2 M2]
    show Steps p.tables e below (s₁.setTop (mkF m 5 #[.val (.ref x), .val (.ref ca)] [(.int (0 : Int32)), (.int (0 : Int32)), (.ref ca), (.ref x)])) tgt
    refine XS.aconstNull X0.here hx rfl (hb hby dI0_5) ?_
    exact kont)
  obtain ⟨_, _, ⟨T4, L4, k4, n4⟩, -, Xp4, hSp4, hgp4, ⟨Lc4, hQ4, l4, y4, z4⟩, st4⟩ := X0.specialBackS hx (y := (⟨"java/lang/String", "<init>", "([CIILjava/lang/Void;)V"⟩ : MethodName)) rfl hown (mvT hZ (hw _ (List.mem_of_getElem? (i := 11) rfl))) (mvT hZ (hw _ (List.mem_of_getElem? (i := 12) rfl))) (mvT hZ (hw _ (List.mem_of_getElem? (i := 14) rfl))) (by decide) (own_backJ (W := 0) (rmV0 l Z a0 hw [] x ca h0 n0 Z0 Ex gx Fv Fc O0 hH hCW) hZ (hw _ (List.mem_of_getElem? (i := 14) rfl)) (hw _ (List.mem_of_getElem? (i := 7) rfl)) (by decide) (by decide)) (g := (mkF m 6 #[.val (.ref x), .val (.ref ca)] [.null, (.int (0 : Int32)), (.int (0 : Int32)), (.ref ca), (.ref x)])) rfl (by rw [hml]; rfl) (Steps.refl _) (a := x) (argsL := [(.ref ca), (.int (0 : Int32)), (.int (0 : Int32)), .null]) (rest := []) (lenOf pd_2 rfl) rfl (by show 2 * 0 + _ ≤ _; exact Nat.le_of_eq rfl) (hb hby dI0_6) (fun _ hwm => ⟨rfl, e0, (own_Jwarm hJ0 hwm), (by decide : 0 + 2 ≤ _), (by decide : 0 + 4 ≤ _)⟩)
  dsimp only [Pt.U, Pt.locs, Pt.cells, Pt.slots] at Xp4 hSp4 hgp4 l4 y4 z4 st4 hQ4
  subst l4 y4 z4
  obtain ⟨X4, hS4, hZ4, hown4⟩ := rebS hS0 (by rw [e0]; exact hk0) Xp4 hSp4 hgp4 hZ hown
  obtain ⟨rfl, N4q, K1, E1, C1, t1, kb1, V1, A1, J1⟩ := hQ4
  have N4 := Fr.app N0 N4q
  have z5 : n0 ≤ T4.heap.size := Nat.le_trans Z0 K1.1
  have K6 : Keep h0 T4.heap [x] := (Keep.refl h0 [x]).trans K1 (allS (Or.inl (List.mem_of_getElem? (i := 0) rfl)) all0)
  have go4 : ∀ tgt, Steps p.tables e below (T4.setTop (mkF m 9 #[.val (.ref x), .val (.ref ca)] [])) tgt → Steps p.tables e below E0 tgt := fun tgt kont => go3 tgt (st4.trans kont)
  obtain ⟨fs, hr, hrun, hended, hW⟩ := X4.leaveW hS4 (Nat.le_refl _) (v := none) (fun _ => rfl)
  refine ⟨_, _, go4 _ ?_, hrun, hended, _, _, rfl, ?_, hW.1, hW.2.1, hW.2.2.1, hW.2.2.2.mono (by decide) (by decide)⟩
  · show Steps p.tables e below (T4.setTop (mkF m 9 #[.val (.ref x), .val (.ref ca)] [])) _
    exact X4.returnOut hx Bd.returns (hb hby dI0_9) hr
  · show QI0 Z x ca kc h0 n0 _ T4.heap _ T4.vm
    exact ⟨rfl, N4, K6, E1, C1, t1, kb1, V1, A1, own_Jwarm (s := s.setVm T4.vm) J1 X4.warmed⟩
theorem pd_3 : parseMethodDescriptor "([C)V" = some ⟨[(.array .char)], none⟩ := by decide +kernel
theorem pn_4 : plainName "com/example/fiddlehead/fiddlehead/check/MisorderedWithPathPinLaw" = true := by first | (simp [plainName, overriddenIn]; done) | decide +kernel
theorem dSR_0 : decode method_2_code 0 = .ok (.iload_n 0, 1) := by decide +kernel
theorem dSR_1 : decode method_2_code 1 = .ok (.iconst 3, 1) := by decide +kernel
theorem dSR_2 : decode method_2_code 2 = .ok (.iand, 1) := by decide +kernel
theorem dSR_3 : decode method_2_code 3 = .ok (.istore_n 1, 1) := by decide +kernel
theorem dSR_4 : decode method_2_code 4 = .ok (.iload_n 0, 1) := by decide +kernel
theorem dSR_5 : decode method_2_code 5 = .ok (.iconst 2, 1) := by decide +kernel
theorem dSR_6 : decode method_2_code 6 = .ok (.iushr, 1) := by decide +kernel
theorem dSR_7 : decode method_2_code 7 = .ok (.sipush 255, 3) := by decide +kernel
theorem dSR_10 : decode method_2_code 10 = .ok (.iand, 1) := by decide +kernel
theorem dSR_11 : decode method_2_code 11 = .ok (.i2c, 1) := by decide +kernel
theorem dSR_12 : decode method_2_code 12 = .ok (.istore_n 2, 1) := by decide +kernel
theorem dSR_13 : decode method_2_code 13 = .ok (.iload_n 0, 1) := by decide +kernel
theorem dSR_14 : decode method_2_code 14 = .ok (.bipush 10, 2) := by decide +kernel
theorem dSR_16 : decode method_2_code 16 = .ok (.iushr, 1) := by decide +kernel
theorem dSR_17 : decode method_2_code 17 = .ok (.sipush 255, 3) := by decide +kernel
theorem dSR_20 : decode method_2_code 20 = .ok (.iand, 1) := by decide +kernel
theorem dSR_21 : decode method_2_code 21 = .ok (.i2c, 1) := by decide +kernel
theorem dSR_22 : decode method_2_code 22 = .ok (.istore_n 3, 1) := by decide +kernel
theorem dSR_23 : decode method_2_code 23 = .ok (.iload_n 0, 1) := by decide +kernel
theorem dSR_24 : decode method_2_code 24 = .ok (.bipush 18, 2) := by decide +kernel
theorem dSR_26 : decode method_2_code 26 = .ok (.iushr, 1) := by decide +kernel
theorem dSR_27 : decode method_2_code 27 = .ok (.sipush 255, 3) := by decide +kernel
theorem dSR_30 : decode method_2_code 30 = .ok (.iand, 1) := by decide +kernel
theorem dSR_31 : decode method_2_code 31 = .ok (.i2c, 1) := by decide +kernel
theorem dSR_32 : decode method_2_code 32 = .ok (.istore 4, 2) := by decide +kernel
theorem dSR_34 : decode method_2_code 34 = .ok (.iload_n 1, 1) := by decide +kernel
theorem dSR_35 : decode method_2_code 35 = .ok (.ifCond .ne 11, 3) := by decide +kernel
theorem dSR_38 : decode method_2_code 38 = .ok (.iconst 0, 1) := by decide +kernel
theorem dSR_39 : decode method_2_code 39 = .ok (.newarray .char, 2) := by decide +kernel
theorem dSR_41 : decode method_2_code 41 = .ok (.astore 5, 2) := by decide +kernel
theorem dSR_43 : decode method_2_code 43 = .ok (.goto 65, 3) := by decide +kernel
theorem dSR_46 : decode method_2_code 46 = .ok (.iload_n 1, 1) := by decide +kernel
theorem dSR_47 : decode method_2_code 47 = .ok (.iconst 1, 1) := by decide +kernel
theorem dSR_48 : decode method_2_code 48 = .ok (.if_icmp .ne 16, 3) := by decide +kernel
theorem dSR_51 : decode method_2_code 51 = .ok (.iconst 1, 1) := by decide +kernel
theorem dSR_52 : decode method_2_code 52 = .ok (.newarray .char, 2) := by decide +kernel
theorem dSR_54 : decode method_2_code 54 = .ok (.astore 5, 2) := by decide +kernel
theorem dSR_56 : decode method_2_code 56 = .ok (.aload 5, 2) := by decide +kernel
theorem dSR_58 : decode method_2_code 58 = .ok (.iconst 0, 1) := by decide +kernel
theorem dSR_59 : decode method_2_code 59 = .ok (.iload_n 2, 1) := by decide +kernel
theorem dSR_60 : decode method_2_code 60 = .ok (.castore, 1) := by decide +kernel
theorem dSR_61 : decode method_2_code 61 = .ok (.goto 47, 3) := by decide +kernel
theorem dSR_64 : decode method_2_code 64 = .ok (.iload_n 1, 1) := by decide +kernel
theorem dSR_65 : decode method_2_code 65 = .ok (.iconst 2, 1) := by decide +kernel
theorem dSR_66 : decode method_2_code 66 = .ok (.if_icmp .ne 21, 3) := by decide +kernel
theorem dSR_69 : decode method_2_code 69 = .ok (.iconst 2, 1) := by decide +kernel
theorem dSR_70 : decode method_2_code 70 = .ok (.newarray .char, 2) := by decide +kernel
theorem dSR_72 : decode method_2_code 72 = .ok (.astore 5, 2) := by decide +kernel
theorem dSR_74 : decode method_2_code 74 = .ok (.aload 5, 2) := by decide +kernel
theorem dSR_76 : decode method_2_code 76 = .ok (.iconst 0, 1) := by decide +kernel
theorem dSR_77 : decode method_2_code 77 = .ok (.iload_n 2, 1) := by decide +kernel
theorem dSR_78 : decode method_2_code 78 = .ok (.castore, 1) := by decide +kernel
theorem dSR_79 : decode method_2_code 79 = .ok (.aload 5, 2) := by decide +kernel
theorem dSR_81 : decode method_2_code 81 = .ok (.iconst 1, 1) := by decide +kernel
theorem dSR_82 : decode method_2_code 82 = .ok (.iload_n 3, 1) := by decide +kernel
theorem dSR_83 : decode method_2_code 83 = .ok (.castore, 1) := by decide +kernel
theorem dSR_84 : decode method_2_code 84 = .ok (.goto 24, 3) := by decide +kernel
theorem dSR_87 : decode method_2_code 87 = .ok (.iconst 3, 1) := by decide +kernel
theorem dSR_88 : decode method_2_code 88 = .ok (.newarray .char, 2) := by decide +kernel
theorem dSR_90 : decode method_2_code 90 = .ok (.astore 5, 2) := by decide +kernel
theorem dSR_92 : decode method_2_code 92 = .ok (.aload 5, 2) := by decide +kernel
theorem dSR_94 : decode method_2_code 94 = .ok (.iconst 0, 1) := by decide +kernel
theorem dSR_95 : decode method_2_code 95 = .ok (.iload_n 2, 1) := by decide +kernel
theorem dSR_96 : decode method_2_code 96 = .ok (.castore, 1) := by decide +kernel
theorem dSR_97 : decode method_2_code 97 = .ok (.aload 5, 2) := by decide +kernel
theorem dSR_99 : decode method_2_code 99 = .ok (.iconst 1, 1) := by decide +kernel
theorem dSR_100 : decode method_2_code 100 = .ok (.iload_n 3, 1) := by decide +kernel
theorem dSR_101 : decode method_2_code 101 = .ok (.castore, 1) := by decide +kernel
theorem dSR_102 : decode method_2_code 102 = .ok (.aload 5, 2) := by decide +kernel
theorem dSR_104 : decode method_2_code 104 = .ok (.iconst 2, 1) := by decide +kernel
theorem dSR_105 : decode method_2_code 105 = .ok (.iload 4, 2) := by decide +kernel
theorem dSR_107 : decode method_2_code 107 = .ok (.castore, 1) := by decide +kernel
theorem dSR_108 : decode method_2_code 108 = .ok (.new 7, 3) := by decide +kernel
theorem dSR_111 : decode method_2_code 111 = .ok (.dup, 1) := by decide +kernel
theorem dSR_112 : decode method_2_code 112 = .ok (.aload 5, 2) := by decide +kernel
theorem dSR_114 : decode method_2_code 114 = .ok (.invokespecial 9, 3) := by decide +kernel
theorem dSR_117 : decode method_2_code 117 = .ok (.areturn, 1) := by decide +kernel
theorem ef_SR (m : MethodId) (x0 : Int32) : entryFrame m #[(.int x0)] 6 = mkF m 0 #[.val (.int x0), .unset, .unset, .unset, .unset, .unset] [] := by first | (simp [entryFrame, mkF, argsToLocals, Value.category, maxLocals]; done) | rfl
def QSR (Z : State) (pp : Int32) (G : Int32) (h0 : Heap) (n0 : Nat) (v : Option Value) (h : Heap) (L : List Loc) (vm : Vm) : Prop := ∃ r : Addr, v = some (.ref r) ∧ Fr n0 L ∧ Keep h0 h [] ∧ n0 ≤ r ∧ h0.size ≤ r ∧ Exa Z h r "java/lang/String" ∧ own_J Z h vm
set_option maxRecDepth 65536 in
set_option maxHeartbeats 40000000 in
theorem rmSR (l : Launch) (Z : State) (a0 : Array Value) (hw : ∀ d ∈ tables_1, d.before a0 Z = true) (ws : List Jvm.Cond) (pp : Int32) (G : Int32) (h0 : Heap) (n0 : Nat) (Z0 : n0 ≤ h0.size) (SC : Sta Z Z.heap "java/lang/String" "COMPACT_STRINGS" "Z" (.int G)) (hG : ¬ (G = (0 : Int32))) (O0 : Old Z n0 h0) (hH : Jvm.Lit.constHeld Z "java/lang/String" 7) (hCW : Jvm.Lit.compactW.before a0 Z = true) :
    MetFree l (⟨"com/example/fiddlehead/fiddlehead/check/MisorderedWithPathPinLaw", "str", "(I)Ljava/lang/String;"⟩ : MethodName) (head1 (Jvm.Cond.code (⟨"com/example/fiddlehead/fiddlehead/check/MisorderedWithPathPinLaw", "str", "(I)Ljava/lang/String;"⟩ : MethodName) method_2_code 6 (some (.object "java/lang/String")) :: ws) ({ frames := 4, cells := 4, slots := 10, locals := 66 } : Room)) (fun as_ U => as_ = #[(.int pp)] ∧ Z.Warmed39 U.vm ∧ U.heap = h0 ∧ (own_J Z h0) U.vm) (fun _ _ _ _ _ => True) (fun _ U o U' => ∃ v L, o = .returned v ∧ QSR Z pp G h0 n0 v U'.heap L U'.vm ∧ ReturnedEndW U o U' L ({ frames := 4, cells := 4, slots := 10, locals := 66 } : Room).cells ({ frames := 4, cells := 4, slots := 10, locals := 66 } : Room).slots) := by
  refine MetFree.of_bodySF (plainFor_of_name pn_4) hisR ?_
  intro p e s m args below meth c s₁ Bd hml0 hP hK
  obtain ⟨rfl, hZ, hh, hJ0⟩ := hP
  have hx := Bd.exec
  have hby := Bd.bytes
  have hml : c.maxLocals = 6 := hml0
  have hown : s.vm.findClass "com/example/fiddlehead/fiddlehead/check/MisorderedWithPathPinLaw" = some m.cls := findClass_of_methodNamed Bd.named
  have hnm := (name_of_methodNamed Bd.named Bd.method).1
  have X0 : Stand p l e ({ frames := 4, cells := 4, slots := 10, locals := 66 } : Room) (s.setVm s.vm) m #[(.int pp)] below meth c s₁ [] 0 0 := Stand.of_body Bd
  have e0 : s₁.heap = h0 := by rw [← hh, Bd.state]; rfl
  have N0 := Fr.nil n0
  obtain ⟨E0, hE0⟩ : ∃ z, z = s₁.setTop (entryFrame m #[(.int pp)] 6) := ⟨_, rfl⟩
  rw [← hE0]
  have go0 : ∀ tgt, Steps p.tables e below (s₁.setTop (mkF m 0 #[.val (.int pp), .unset, .unset, .unset, .unset, .unset] [])) tgt → Steps p.tables e below E0 tgt := fun tgt kont => by rw [hE0]; exact castTop (ef_SR m pp) kont
  have hS0 : s.Since s.vm h0.size := (State.WarmedH.refl s).since _
  have hk0 : h0.size ≤ h0.size := Nat.le_refl _
  have hwS : ∀ a ∈ Bundle.stringAtoms, a.before a0 Z = true := fun d hd => hw d ((by decide +kernel : ∀ d ∈ Bundle.stringAtoms, d ∈ tables_1) d hd)
  have hws : ∀ d ∈ StrChars.Road.words, d.before a0 Z = true := fun d hd => hw d ((by decide +kernel : ∀ d ∈ StrChars.Road.words, d ∈ tables_1) d hd)
  obtain ⟨v1, hv1⟩ : ∃ z : Int32, z = (pp &&& (3 : Int32)) := ⟨_, rfl⟩
  have go1 : ∀ tgt, Steps p.tables e below (s₁.setTop (mkF m 34 #[.val (.int pp), .val (.int v1), .val (.int ((((pp.toUInt32 >>> ((2 : Int32) &&& 31).toUInt32).toInt32) &&& (255 : Int32)).toUInt32.toUInt16.toUInt32.toInt32)), .val (.int ((((pp.toUInt32 >>> ((10 : Int32) &&& 31).toUInt32).toInt32) &&& (255 : Int32)).toUInt32.toUInt16.toUInt32.toInt32)), .val (.int ((((pp.toUInt32 >>> ((18 : Int32) &&& 31).toUInt32).toInt32) &&& (255 : Int32)).toUInt32.toUInt16.toUInt32.toInt32)), .unset] [])) tgt → Steps p.tables e below E0 tgt := fun tgt kont => go0 tgt (by
    rw [hv1] at kont
    show Steps p.tables e below (s₁.setTop (mkF m 0 #[.val (.int pp), .unset, .unset, .unset, .unset, .unset] [])) tgt
    refine XS.iloadN X0.here hx rfl (hb hby dSR_0) rfl ?_
    show Steps p.tables e below (s₁.setTop (mkF m 1 #[.val (.int pp), .unset, .unset, .unset, .unset, .unset] [(.int pp)])) tgt
    refine XS.iconst X0.here hx rfl (hb hby dSR_1) ?_
    show Steps p.tables e below (s₁.setTop (mkF m 2 #[.val (.int pp), .unset, .unset, .unset, .unset, .unset] [(.int (3 : Int32)), (.int pp)])) tgt
    refine XS.iand X0.here hx rfl (hb hby dSR_2) rfl ?_
    show Steps p.tables e below (s₁.setTop (mkF m 3 #[.val (.int pp), .unset, .unset, .unset, .unset, .unset] [(.int (pp &&& (3 : Int32)))])) tgt
    refine XS.istoreN X0.here hx rfl (hb hby dSR_3) rfl (l' := #[.val (.int pp), .val (.int (pp &&& (3 : Int32))), .unset, .unset, .unset, .unset]) rfl ?_
    show Steps p.tables e below (s₁.setTop (mkF m 4 #[.val (.int pp), .val (.int (pp &&& (3 : Int32))), .unset, .unset, .unset, .unset] [])) tgt
    refine XS.iloadN X0.here hx rfl (hb hby dSR_4) rfl ?_
    show Steps p.tables e below (s₁.setTop (mkF m 5 #[.val (.int pp), .val (.int (pp &&& (3 : Int32))), .unset, .unset, .unset, .unset] [(.int pp)])) tgt
    refine XS.iconst X0.here hx rfl (hb hby dSR_5) ?_
    show Steps p.tables e below (s₁.setTop (mkF m 6 #[.val (.int pp), .val (.int (pp &&& (3 : Int32))), .unset, .unset, .unset, .unset] [(.int (2 : Int32)), (.int pp)])) tgt
    refine XS.iushr X0.here hx rfl (hb hby dSR_6) rfl ?_
    show Steps p.tables e below (s₁.setTop (mkF m 7 #[.val (.int pp), .val (.int (pp &&& (3 : Int32))), .unset, .unset, .unset, .unset] [(.int ((pp.toUInt32 >>> ((2 : Int32) &&& 31).toUInt32).toInt32))])) tgt
    refine XS.sipush X0.here hx rfl (hb hby dSR_7) ?_
    show Steps p.tables e below (s₁.setTop (mkF m 10 #[.val (.int pp), .val (.int (pp &&& (3 : Int32))), .unset, .unset, .unset, .unset] [(.int (255 : Int32)), (.int ((pp.toUInt32 >>> ((2 : Int32) &&& 31).toUInt32).toInt32))])) tgt
    refine XS.iand X0.here hx rfl (hb hby dSR_10) rfl ?_
    show Steps p.tables e below (s₁.setTop (mkF m 11 #[.val (.int pp), .val (.int (pp &&& (3 : Int32))), .unset, .unset, .unset, .unset] [(.int (((pp.toUInt32 >>> ((2 : Int32) &&& 31).toUInt32).toInt32) &&& (255 : Int32)))])) tgt
    refine XS.i2c X0.here hx rfl (hb hby dSR_11) rfl ?_
    show Steps p.tables e below (s₁.setTop (mkF m 12 #[.val (.int pp), .val (.int (pp &&& (3 : Int32))), .unset, .unset, .unset, .unset] [(.int ((((pp.toUInt32 >>> ((2 : Int32) &&& 31).toUInt32).toInt32) &&& (255 : Int32)).toUInt32.toUInt16.toUInt32.toInt32))])) tgt
    refine XS.istoreN X0.here hx rfl (hb hby dSR_12) rfl (l' := #[.val (.int pp), .val (.int (pp &&& (3 : Int32))), .val (.int ((((pp.toUInt32 >>> ((2 : Int32) &&& 31).toUInt32).toInt32) &&& (255 : Int32)).toUInt32.toUInt16.toUInt32.toInt32)), .unset, .unset, .unset]) rfl ?_
    show Steps p.tables e below (s₁.setTop (mkF m 13 #[.val (.int pp), .val (.int (pp &&& (3 : Int32))), .val (.int ((((pp.toUInt32 >>> ((2 : Int32) &&& 31).toUInt32).toInt32) &&& (255 : Int32)).toUInt32.toUInt16.toUInt32.toInt32)), .unset, .unset, .unset] [])) tgt
    refine XS.iloadN X0.here hx rfl (hb hby dSR_13) rfl ?_
    show Steps p.tables e below (s₁.setTop (mkF m 14 #[.val (.int pp), .val (.int (pp &&& (3 : Int32))), .val (.int ((((pp.toUInt32 >>> ((2 : Int32) &&& 31).toUInt32).toInt32) &&& (255 : Int32)).toUInt32.toUInt16.toUInt32.toInt32)), .unset, .unset, .unset] [(.int pp)])) tgt
    refine XS.bipush X0.here hx rfl (hb hby dSR_14) ?_
    show Steps p.tables e below (s₁.setTop (mkF m 16 #[.val (.int pp), .val (.int (pp &&& (3 : Int32))), .val (.int ((((pp.toUInt32 >>> ((2 : Int32) &&& 31).toUInt32).toInt32) &&& (255 : Int32)).toUInt32.toUInt16.toUInt32.toInt32)), .unset, .unset, .unset] [(.int (10 : Int32)), (.int pp)])) tgt
    refine XS.iushr X0.here hx rfl (hb hby dSR_16) rfl ?_
    show Steps p.tables e below (s₁.setTop (mkF m 17 #[.val (.int pp), .val (.int (pp &&& (3 : Int32))), .val (.int ((((pp.toUInt32 >>> ((2 : Int32) &&& 31).toUInt32).toInt32) &&& (255 : Int32)).toUInt32.toUInt16.toUInt32.toInt32)), .unset, .unset, .unset] [(.int ((pp.toUInt32 >>> ((10 : Int32) &&& 31).toUInt32).toInt32))])) tgt
    refine XS.sipush X0.here hx rfl (hb hby dSR_17) ?_
    show Steps p.tables e below (s₁.setTop (mkF m 20 #[.val (.int pp), .val (.int (pp &&& (3 : Int32))), .val (.int ((((pp.toUInt32 >>> ((2 : Int32) &&& 31).toUInt32).toInt32) &&& (255 : Int32)).toUInt32.toUInt16.toUInt32.toInt32)), .unset, .unset, .unset] [(.int (255 : Int32)), (.int ((pp.toUInt32 >>> ((10 : Int32) &&& 31).toUInt32).toInt32))])) tgt
    refine XS.iand X0.here hx rfl (hb hby dSR_20) rfl ?_
    show Steps p.tables e below (s₁.setTop (mkF m 21 #[.val (.int pp), .val (.int (pp &&& (3 : Int32))), .val (.int ((((pp.toUInt32 >>> ((2 : Int32) &&& 31).toUInt32).toInt32) &&& (255 : Int32)).toUInt32.toUInt16.toUInt32.toInt32)), .unset, .unset, .unset] [(.int (((pp.toUInt32 >>> ((10 : Int32) &&& 31).toUInt32).toInt32) &&& (255 : Int32)))])) tgt
    refine XS.i2c X0.here hx rfl (hb hby dSR_21) rfl ?_
    show Steps p.tables e below (s₁.setTop (mkF m 22 #[.val (.int pp), .val (.int (pp &&& (3 : Int32))), .val (.int ((((pp.toUInt32 >>> ((2 : Int32) &&& 31).toUInt32).toInt32) &&& (255 : Int32)).toUInt32.toUInt16.toUInt32.toInt32)), .unset, .unset, .unset] [(.int ((((pp.toUInt32 >>> ((10 : Int32) &&& 31).toUInt32).toInt32) &&& (255 : Int32)).toUInt32.toUInt16.toUInt32.toInt32))])) tgt
    refine XS.istoreN X0.here hx rfl (hb hby dSR_22) rfl (l' := #[.val (.int pp), .val (.int (pp &&& (3 : Int32))), .val (.int ((((pp.toUInt32 >>> ((2 : Int32) &&& 31).toUInt32).toInt32) &&& (255 : Int32)).toUInt32.toUInt16.toUInt32.toInt32)), .val (.int ((((pp.toUInt32 >>> ((10 : Int32) &&& 31).toUInt32).toInt32) &&& (255 : Int32)).toUInt32.toUInt16.toUInt32.toInt32)), .unset, .unset]) rfl ?_
    show Steps p.tables e below (s₁.setTop (mkF m 23 #[.val (.int pp), .val (.int (pp &&& (3 : Int32))), .val (.int ((((pp.toUInt32 >>> ((2 : Int32) &&& 31).toUInt32).toInt32) &&& (255 : Int32)).toUInt32.toUInt16.toUInt32.toInt32)), .val (.int ((((pp.toUInt32 >>> ((10 : Int32) &&& 31).toUInt32).toInt32) &&& (255 : Int32)).toUInt32.toUInt16.toUInt32.toInt32)), .unset, .unset] [])) tgt
    refine XS.iloadN X0.here hx rfl (hb hby dSR_23) rfl ?_
    show Steps p.tables e below (s₁.setTop (mkF m 24 #[.val (.int pp), .val (.int (pp &&& (3 : Int32))), .val (.int ((((pp.toUInt32 >>> ((2 : Int32) &&& 31).toUInt32).toInt32) &&& (255 : Int32)).toUInt32.toUInt16.toUInt32.toInt32)), .val (.int ((((pp.toUInt32 >>> ((10 : Int32) &&& 31).toUInt32).toInt32) &&& (255 : Int32)).toUInt32.toUInt16.toUInt32.toInt32)), .unset, .unset] [(.int pp)])) tgt
    refine XS.bipush X0.here hx rfl (hb hby dSR_24) ?_
    show Steps p.tables e below (s₁.setTop (mkF m 26 #[.val (.int pp), .val (.int (pp &&& (3 : Int32))), .val (.int ((((pp.toUInt32 >>> ((2 : Int32) &&& 31).toUInt32).toInt32) &&& (255 : Int32)).toUInt32.toUInt16.toUInt32.toInt32)), .val (.int ((((pp.toUInt32 >>> ((10 : Int32) &&& 31).toUInt32).toInt32) &&& (255 : Int32)).toUInt32.toUInt16.toUInt32.toInt32)), .unset, .unset] [(.int (18 : Int32)), (.int pp)])) tgt
    refine XS.iushr X0.here hx rfl (hb hby dSR_26) rfl ?_
    show Steps p.tables e below (s₁.setTop (mkF m 27 #[.val (.int pp), .val (.int (pp &&& (3 : Int32))), .val (.int ((((pp.toUInt32 >>> ((2 : Int32) &&& 31).toUInt32).toInt32) &&& (255 : Int32)).toUInt32.toUInt16.toUInt32.toInt32)), .val (.int ((((pp.toUInt32 >>> ((10 : Int32) &&& 31).toUInt32).toInt32) &&& (255 : Int32)).toUInt32.toUInt16.toUInt32.toInt32)), .unset, .unset] [(.int ((pp.toUInt32 >>> ((18 : Int32) &&& 31).toUInt32).toInt32))])) tgt
    refine XS.sipush X0.here hx rfl (hb hby dSR_27) ?_
    show Steps p.tables e below (s₁.setTop (mkF m 30 #[.val (.int pp), .val (.int (pp &&& (3 : Int32))), .val (.int ((((pp.toUInt32 >>> ((2 : Int32) &&& 31).toUInt32).toInt32) &&& (255 : Int32)).toUInt32.toUInt16.toUInt32.toInt32)), .val (.int ((((pp.toUInt32 >>> ((10 : Int32) &&& 31).toUInt32).toInt32) &&& (255 : Int32)).toUInt32.toUInt16.toUInt32.toInt32)), .unset, .unset] [(.int (255 : Int32)), (.int ((pp.toUInt32 >>> ((18 : Int32) &&& 31).toUInt32).toInt32))])) tgt
    refine XS.iand X0.here hx rfl (hb hby dSR_30) rfl ?_
    show Steps p.tables e below (s₁.setTop (mkF m 31 #[.val (.int pp), .val (.int (pp &&& (3 : Int32))), .val (.int ((((pp.toUInt32 >>> ((2 : Int32) &&& 31).toUInt32).toInt32) &&& (255 : Int32)).toUInt32.toUInt16.toUInt32.toInt32)), .val (.int ((((pp.toUInt32 >>> ((10 : Int32) &&& 31).toUInt32).toInt32) &&& (255 : Int32)).toUInt32.toUInt16.toUInt32.toInt32)), .unset, .unset] [(.int (((pp.toUInt32 >>> ((18 : Int32) &&& 31).toUInt32).toInt32) &&& (255 : Int32)))])) tgt
    refine XS.i2c X0.here hx rfl (hb hby dSR_31) rfl ?_
    show Steps p.tables e below (s₁.setTop (mkF m 32 #[.val (.int pp), .val (.int (pp &&& (3 : Int32))), .val (.int ((((pp.toUInt32 >>> ((2 : Int32) &&& 31).toUInt32).toInt32) &&& (255 : Int32)).toUInt32.toUInt16.toUInt32.toInt32)), .val (.int ((((pp.toUInt32 >>> ((10 : Int32) &&& 31).toUInt32).toInt32) &&& (255 : Int32)).toUInt32.toUInt16.toUInt32.toInt32)), .unset, .unset] [(.int ((((pp.toUInt32 >>> ((18 : Int32) &&& 31).toUInt32).toInt32) &&& (255 : Int32)).toUInt32.toUInt16.toUInt32.toInt32))])) tgt
    refine XS.istore X0.here hx rfl (hb hby dSR_32) rfl (l' := #[.val (.int pp), .val (.int (pp &&& (3 : Int32))), .val (.int ((((pp.toUInt32 >>> ((2 : Int32) &&& 31).toUInt32).toInt32) &&& (255 : Int32)).toUInt32.toUInt16.toUInt32.toInt32)), .val (.int ((((pp.toUInt32 >>> ((10 : Int32) &&& 31).toUInt32).toInt32) &&& (255 : Int32)).toUInt32.toUInt16.toUInt32.toInt32)), .val (.int ((((pp.toUInt32 >>> ((18 : Int32) &&& 31).toUInt32).toInt32) &&& (255 : Int32)).toUInt32.toUInt16.toUInt32.toInt32)), .unset]) rfl ?_
    exact kont)
  obtain ⟨v2, hv2⟩ : ∃ z : Int32, z = ((((pp.toUInt32 >>> ((2 : Int32) &&& 31).toUInt32).toInt32) &&& (255 : Int32)).toUInt32.toUInt16.toUInt32.toInt32) := ⟨_, rfl⟩
  have go2 : ∀ tgt, Steps p.tables e below (s₁.setTop (mkF m 34 #[.val (.int pp), .val (.int v1), .val (.int v2), .val (.int ((((pp.toUInt32 >>> ((10 : Int32) &&& 31).toUInt32).toInt32) &&& (255 : Int32)).toUInt32.toUInt16.toUInt32.toInt32)), .val (.int ((((pp.toUInt32 >>> ((18 : Int32) &&& 31).toUInt32).toInt32) &&& (255 : Int32)).toUInt32.toUInt16.toUInt32.toInt32)), .unset] [])) tgt → Steps p.tables e below E0 tgt := fun tgt kont => go1 tgt (by
    rw [hv2] at kont
    exact kont)
  obtain ⟨v3, hv3⟩ : ∃ z : Int32, z = ((((pp.toUInt32 >>> ((10 : Int32) &&& 31).toUInt32).toInt32) &&& (255 : Int32)).toUInt32.toUInt16.toUInt32.toInt32) := ⟨_, rfl⟩
  have go3 : ∀ tgt, Steps p.tables e below (s₁.setTop (mkF m 34 #[.val (.int pp), .val (.int v1), .val (.int v2), .val (.int v3), .val (.int ((((pp.toUInt32 >>> ((18 : Int32) &&& 31).toUInt32).toInt32) &&& (255 : Int32)).toUInt32.toUInt16.toUInt32.toInt32)), .unset] [])) tgt → Steps p.tables e below E0 tgt := fun tgt kont => go2 tgt (by
    rw [hv3] at kont
    exact kont)
  obtain ⟨v4, hv4⟩ : ∃ z : Int32, z = ((((pp.toUInt32 >>> ((18 : Int32) &&& 31).toUInt32).toInt32) &&& (255 : Int32)).toUInt32.toUInt16.toUInt32.toInt32) := ⟨_, rfl⟩
  have go4 : ∀ tgt, Steps p.tables e below (s₁.setTop (mkF m 34 #[.val (.int pp), .val (.int v1), .val (.int v2), .val (.int v3), .val (.int v4), .unset] [])) tgt → Steps p.tables e below E0 tgt := fun tgt kont => go3 tgt (by
    rw [hv4] at kont
    exact kont)
  have r2 : ¬ nar .char v2 < 0 ∧ ¬ (255 : Int32) < nar .char v2 := by rw [hv2]; exact own_c255 _
  have r3 : ¬ nar .char v3 < 0 ∧ ¬ (255 : Int32) < nar .char v3 := by rw [hv3]; exact own_c255 _
  have r4 : ¬ nar .char v4 < 0 ∧ ¬ (255 : Int32) < nar .char v4 := by rw [hv4]; exact own_c255 _
  have go5 : ∀ tgt, Steps p.tables e below (s₁.setTop (mkF m 35 #[.val (.int pp), .val (.int v1), .val (.int v2), .val (.int v3), .val (.int v4), .unset] [(.int v1)])) tgt → Steps p.tables e below E0 tgt := fun tgt kont => go4 tgt (by
    show Steps p.tables e below (s₁.setTop (mkF m 34 #[.val (.int pp), .val (.int v1), .val (.int v2), .val (.int v3), .val (.int v4), .unset] [])) tgt
    refine XS.iloadN X0.here hx rfl (hb hby dSR_34) rfl ?_
    exact kont)
  by_cases u0 : v1 = (0 : Int32)
  · have go6 : ∀ tgt, Steps p.tables e below (s₁.setTop (mkF m 39 #[.val (.int pp), .val (.int v1), .val (.int v2), .val (.int v3), .val (.int v4), .unset] [(.int (0 : Int32))])) tgt → Steps p.tables e below E0 tgt := fun tgt kont => go5 tgt (by
      show Steps p.tables e below (s₁.setTop (mkF m 35 #[.val (.int pp), .val (.int v1), .val (.int v2), .val (.int v3), .val (.int v4), .unset] [(.int v1)])) tgt
      refine XS.ifNo X0.here hx rfl (hb hby dSR_35) rfl ((if0 _ _).trans (teq u0).2) ?_
      show Steps p.tables e below (s₁.setTop (mkF m 38 #[.val (.int pp), .val (.int v1), .val (.int v2), .val (.int v3), .val (.int v4), .unset] [])) tgt
      refine XS.iconst X0.here hx rfl (hb hby dSR_38) ?_
      exact kont)
    obtain ⟨T7, h7, k7, X7, e7, E7, A7, st7⟩ := newP X0 hx hZ (hw _ (List.mem_of_getElem? (i := 4) rfl)) e0 (g := (mkF m 39 #[.val (.int pp), .val (.int v1), .val (.int v2), .val (.int v3), .val (.int v4), .unset] [(.int (0 : Int32))])) rfl (hb hby dSR_39) rfl (by decide) (cap := 0) (by decide) (by decide) (by decide) (by decide)
    obtain ⟨ca, g7⟩ : ∃ z, z = h0.size := ⟨_, rfl⟩
    rw [← g7] at A7 st7
    have ge_ca : n0 ≤ ca := Nat.le_trans Z0 (Nat.le_of_eq g7.symm)
    have hz_ca : h0.size ≤ ca := Nat.le_trans (Keep.refl h0 []).1 (Nat.le_of_eq g7.symm)
    have z8 : n0 ≤ h7.size := Nat.le_trans Z0 E7.1
    have K9 : Keep h0 h7 [] := (Keep.refl h0 []).ext E7
    have V7 : Arv Z h7 ca k7 .char (0 : Int32) [] (.int (0 : Int32)) := Arv.new A7 (by decide)
    have go7 : ∀ tgt, Steps p.tables e below (T7.setTop (mkF m 41 #[.val (.int pp), .val (.int v1), .val (.int v2), .val (.int v3), .val (.int v4), .unset] [(.ref ca)])) tgt → Steps p.tables e below E0 tgt := fun tgt kont => go6 tgt (st7 tgt kont)
    have go10 : ∀ tgt, Steps p.tables e below (T7.setTop (mkF m 108 #[.val (.int pp), .val (.int v1), .val (.int v2), .val (.int v3), .val (.int v4), .val (.ref ca)] [])) tgt → Steps p.tables e below E0 tgt := fun tgt kont => go7 tgt (by
      show Steps p.tables e below (T7.setTop (mkF m 41 #[.val (.int pp), .val (.int v1), .val (.int v2), .val (.int v3), .val (.int v4), .unset] [(.ref ca)])) tgt
      refine XS.astore X7.here hx rfl (hb hby dSR_41) rfl rfl (l' := #[.val (.int pp), .val (.int v1), .val (.int v2), .val (.int v3), .val (.int v4), .val (.ref ca)]) rfl ?_
      show Steps p.tables e below (T7.setTop (mkF m 43 #[.val (.int pp), .val (.int v1), .val (.int v2), .val (.int v3), .val (.int v4), .val (.ref ca)] [])) tgt
      refine XS.goto X7.here hx rfl (pc0 := 43) (pc' := 108) rfl (hb hby dSR_43) (by decide) (by decide) ?_
      exact kont)
    obtain ⟨T11, h11, X11, e11, E11, A11, D11, -, st11⟩ := newO X7 hx hZ hown (hw _ (List.mem_of_getElem? (i := 5) rfl)) (hw _ (List.mem_of_getElem? (i := 6) rfl)) (hw _ (List.mem_of_getElem? (i := 7) rfl)) e7 (g := (mkF m 108 #[.val (.int pp), .val (.int v1), .val (.int v2), .val (.int v3), .val (.int v4), .val (.ref ca)] [])) rfl (hb hby dSR_108) (by decide) (by decide)
    obtain ⟨st, g11⟩ : ∃ z, z = h7.size := ⟨_, rfl⟩
    rw [← g11] at A11 D11 st11
    have ne_ca_st : ca ≠ st := Nat.ne_of_lt (Nat.lt_of_lt_of_le V7.lt (Nat.le_of_eq g11.symm))
    have ge_st : n0 ≤ st := Nat.le_trans z8 (Nat.le_of_eq g11.symm)
    have hz_st : h0.size ≤ st := Nat.le_trans K9.1 (Nat.le_of_eq g11.symm)
    have z12 : n0 ≤ h11.size := Nat.le_trans z8 E11.1
    have K13 : Keep h0 h11 [] := K9.ext E11
    have Fcoder_st : Fld Z h11 st "java/lang/String" "coder" "B" (.int (0 : Int32)) := D11 (Or.inr (hw _ (List.mem_of_getElem? (i := 31) rfl))) (ty := .byte) (by decide)
    have Fvalue_st : Fld Z h11 st "java/lang/String" "value" "[B" .null := D11 (Or.inr (hw _ (List.mem_of_getElem? (i := 33) rfl))) (ty := (.array .byte)) (by decide)
    have go11 : ∀ tgt, Steps p.tables e below (T11.setTop (mkF m 111 #[.val (.int pp), .val (.int v1), .val (.int v2), .val (.int v3), .val (.int v4), .val (.ref ca)] [(.ref st)])) tgt → Steps p.tables e below E0 tgt := fun tgt kont => go10 tgt (st11 tgt kont)
    have f14 : Old Z n0 h11 := ((O0.ext E7).ext E11)
    have f15 : Arv Z h11 ca k7 .char (0 : Int32) [] (.int (0 : Int32)) := (V7.ext E11)
    have go16 : ∀ tgt, Steps p.tables e below (T11.setTop (mkF m 114 #[.val (.int pp), .val (.int v1), .val (.int v2), .val (.int v3), .val (.int v4), .val (.ref ca)] [(.ref ca), (.ref st), (.ref st)])) tgt → Steps p.tables e below E0 tgt := fun tgt kont => go11 tgt (by
      show Steps p.tables e below (T11.setTop (mkF m 111 #[.val (.int pp), .val (.int v1), .val (.int v2), .val (.int v3), .val (.int v4), .val (.ref ca)] [(.ref st)])) tgt
      refine XS.dup X11.here hx rfl (hb hby dSR_111) rfl rfl ?_
      show Steps p.tables e below (T11.setTop (mkF m 112 #[.val (.int pp), .val (.int v1), .val (.int v2), .val (.int v3), .val (.int v4), .val (.ref ca)] [(.ref st), (.ref st)])) tgt
      refine XS.aload X11.here hx rfl (hb hby dSR_112) rfl rfl ?_
      exact kont)
    obtain ⟨_, _, ⟨T17, L17, k17, n17⟩, -, Xp17, hSp17, hgp17, ⟨Lc17, hQ17, l17, y17, z17⟩, st17⟩ := X11.specialBackS hx (y := (⟨"java/lang/String", "<init>", "([C)V"⟩ : MethodName)) rfl hown (mvT hZ (hw _ (List.mem_of_getElem? (i := 8) rfl))) (mvT hZ (hw _ (List.mem_of_getElem? (i := 9) rfl))) (mvT hZ (hw _ (List.mem_of_getElem? (i := 10) rfl))) (by decide) (own_backJ (W := 1) (rmI0 l Z a0 hw [] st ca k7 h11 n0 z12 A11 ge_st Fvalue_st Fcoder_st f14 hH hCW f15) hZ (hw _ (List.mem_of_getElem? (i := 10) rfl)) (hw _ (List.mem_of_getElem? (i := 7) rfl)) (by decide) (by decide)) (g := (mkF m 114 #[.val (.int pp), .val (.int v1), .val (.int v2), .val (.int v3), .val (.int v4), .val (.ref ca)] [(.ref ca), (.ref st), (.ref st)])) rfl (by rw [hml]; rfl) (Steps.refl _) (a := st) (argsL := [(.ref ca)]) (rest := [(.ref st)]) (lenOf pd_3 rfl) rfl (by show 2 * 0 + _ ≤ _; exact Nat.le_of_eq rfl) (hb hby dSR_114) (fun _ hwm => ⟨rfl, e11, (own_Jwarm (own_Jkeep hJ0 K13) hwm), (by decide : 2 + 2 ≤ _), (by decide : 4 + 4 ≤ _)⟩)
    dsimp only [Pt.U, Pt.locs, Pt.cells, Pt.slots] at Xp17 hSp17 hgp17 l17 y17 z17 st17 hQ17
    subst l17 y17 z17
    obtain ⟨X17, hS17, hZ17, hown17⟩ := rebS hS0 (by rw [e11]; exact (Nat.le_trans hk0 (Nat.le_trans E7.1 E11.1))) Xp17 hSp17 hgp17 hZ hown
    obtain ⟨rfl, N17q, K1, E1, C1, t1, kb1, V1, A1, J1⟩ := hQ17
    have N17 := Fr.app N0 N17q
    have z18 : n0 ≤ T17.heap.size := Nat.le_trans z12 K1.1
    have K19 : Keep h0 T17.heap [] := K13.trans K1 (allS (Or.inr hz_st) all0)
    have go17 : ∀ tgt, Steps p.tables e below (T17.setTop (mkF m 117 #[.val (.int pp), .val (.int v1), .val (.int v2), .val (.int v3), .val (.int v4), .val (.ref ca)] [(.ref st)])) tgt → Steps p.tables e below E0 tgt := fun tgt kont => go16 tgt (st17.trans kont)
    obtain ⟨fs, hr, hrun, hended, hW⟩ := X17.leaveW hS17 (Nat.le_refl _) (v := some (.ref st)) (fun h => by rw [Bd.returns] at h; cases h)
    refine ⟨_, _, go17 _ ?_, hrun, hended, _, _, rfl, ?_, hW.1, hW.2.1, hW.2.2.1, hW.2.2.2.mono (by decide) (by decide)⟩
    · show Steps p.tables e below (T17.setTop (mkF m 117 #[.val (.int pp), .val (.int v1), .val (.int v2), .val (.int v3), .val (.int v4), .val (.ref ca)] [(.ref st)])) _
      exact retOut X17 hx Bd.returns rfl (Or.inr (Or.inr (Or.inr (Or.inr ⟨rfl, rfl, rfl⟩)))) (hb hby dSR_117) hr
    · show QSR Z pp G h0 n0 _ T17.heap _ T17.vm
      exact ⟨st, rfl, N17, K19, ge_st, hz_st, E1, own_Jwarm (s := s.setVm T17.vm) J1 X17.warmed⟩
  · have go20 : ∀ tgt, Steps p.tables e below (s₁.setTop (mkF m 48 #[.val (.int pp), .val (.int v1), .val (.int v2), .val (.int v3), .val (.int v4), .unset] [(.int (1 : Int32)), (.int v1)])) tgt → Steps p.tables e below E0 tgt := fun tgt kont => go5 tgt (by
      show Steps p.tables e below (s₁.setTop (mkF m 35 #[.val (.int pp), .val (.int v1), .val (.int v2), .val (.int v3), .val (.int v4), .unset] [(.int v1)])) tgt
      refine XS.ifYes X0.here hx rfl (pc0 := 35) (pc' := 46) rfl (hb hby dSR_35) rfl ((if0 _ _).trans (feq u0).2) (by decide) (by decide) ?_
      show Steps p.tables e below (s₁.setTop (mkF m 46 #[.val (.int pp), .val (.int v1), .val (.int v2), .val (.int v3), .val (.int v4), .unset] [])) tgt
      refine XS.iloadN X0.here hx rfl (hb hby dSR_46) rfl ?_
      show Steps p.tables e below (s₁.setTop (mkF m 47 #[.val (.int pp), .val (.int v1), .val (.int v2), .val (.int v3), .val (.int v4), .unset] [(.int v1)])) tgt
      refine XS.iconst X0.here hx rfl (hb hby dSR_47) ?_
      exact kont)
    by_cases u1 : v1 = (1 : Int32)
    · have go21 : ∀ tgt, Steps p.tables e below (s₁.setTop (mkF m 52 #[.val (.int pp), .val (.int v1), .val (.int v2), .val (.int v3), .val (.int v4), .unset] [(.int (1 : Int32))])) tgt → Steps p.tables e below E0 tgt := fun tgt kont => go20 tgt (by
        show Steps p.tables e below (s₁.setTop (mkF m 48 #[.val (.int pp), .val (.int v1), .val (.int v2), .val (.int v3), .val (.int v4), .unset] [(.int (1 : Int32)), (.int v1)])) tgt
        refine XS.icmpNo X0.here hx rfl (hb hby dSR_48) rfl (teq u1).2 ?_
        show Steps p.tables e below (s₁.setTop (mkF m 51 #[.val (.int pp), .val (.int v1), .val (.int v2), .val (.int v3), .val (.int v4), .unset] [])) tgt
        refine XS.iconst X0.here hx rfl (hb hby dSR_51) ?_
        exact kont)
      obtain ⟨T22, h22, k22, X22, e22, E22, A22, st22⟩ := newP X0 hx hZ (hw _ (List.mem_of_getElem? (i := 4) rfl)) e0 (g := (mkF m 52 #[.val (.int pp), .val (.int v1), .val (.int v2), .val (.int v3), .val (.int v4), .unset] [(.int (1 : Int32))])) rfl (hb hby dSR_52) rfl (by decide) (cap := 1) (by decide) (by decide) (by decide) (by decide)
      obtain ⟨ca, g22⟩ : ∃ z, z = h0.size := ⟨_, rfl⟩
      rw [← g22] at A22 st22
      have ge_ca : n0 ≤ ca := Nat.le_trans Z0 (Nat.le_of_eq g22.symm)
      have hz_ca : h0.size ≤ ca := Nat.le_trans (Keep.refl h0 []).1 (Nat.le_of_eq g22.symm)
      have z23 : n0 ≤ h22.size := Nat.le_trans Z0 E22.1
      have K24 : Keep h0 h22 [] := (Keep.refl h0 []).ext E22
      have V22 : Arv Z h22 ca k22 .char (1 : Int32) [] (.int (0 : Int32)) := Arv.new A22 (by decide)
      have go22 : ∀ tgt, Steps p.tables e below (T22.setTop (mkF m 54 #[.val (.int pp), .val (.int v1), .val (.int v2), .val (.int v3), .val (.int v4), .unset] [(.ref ca)])) tgt → Steps p.tables e below E0 tgt := fun tgt kont => go21 tgt (st22 tgt kont)
      have go25 : ∀ tgt, Steps p.tables e below (T22.setTop (mkF m 60 #[.val (.int pp), .val (.int v1), .val (.int v2), .val (.int v3), .val (.int v4), .val (.ref ca)] [(.int v2), (.int (0 : Int32)), (.ref ca)])) tgt → Steps p.tables e below E0 tgt := fun tgt kont => go22 tgt (by
        show Steps p.tables e below (T22.setTop (mkF m 54 #[.val (.int pp), .val (.int v1), .val (.int v2), .val (.int v3), .val (.int v4), .unset] [(.ref ca)])) tgt
        refine XS.astore X22.here hx rfl (hb hby dSR_54) rfl rfl (l' := #[.val (.int pp), .val (.int v1), .val (.int v2), .val (.int v3), .val (.int v4), .val (.ref ca)]) rfl ?_
        show Steps p.tables e below (T22.setTop (mkF m 56 #[.val (.int pp), .val (.int v1), .val (.int v2), .val (.int v3), .val (.int v4), .val (.ref ca)] [])) tgt
        refine XS.aload X22.here hx rfl (hb hby dSR_56) rfl rfl ?_
        show Steps p.tables e below (T22.setTop (mkF m 58 #[.val (.int pp), .val (.int v1), .val (.int v2), .val (.int v3), .val (.int v4), .val (.ref ca)] [(.ref ca)])) tgt
        refine XS.iconst X22.here hx rfl (hb hby dSR_58) ?_
        show Steps p.tables e below (T22.setTop (mkF m 59 #[.val (.int pp), .val (.int v1), .val (.int v2), .val (.int v3), .val (.int v4), .val (.ref ca)] [(.int (0 : Int32)), (.ref ca)])) tgt
        refine XS.iloadN X22.here hx rfl (hb hby dSR_59) rfl ?_
        exact kont)
      have p26 : Arv Z h22 ca k22 .char (1 : Int32) [(.int (0 : Int32))] (.int (0 : Int32)) := V22.pad (pad_rep [] (.int (0 : Int32)) 1)
      obtain ⟨c27, Ar27, q27, S27, M27, Hh27, G27⟩ := id p26
      obtain ⟨T27, h27, X27, e27, W27, st27⟩ := stC X22 hx hZ e22 Ar27 (j := (0 : Int32)) (inb_of S27 ⟨by decide, by decide⟩) (g := (mkF m 60 #[.val (.int pp), .val (.int v1), .val (.int v2), .val (.int v3), .val (.int v4), .val (.ref ca)] [(.int v2), (.int (0 : Int32)), (.ref ca)])) rfl rfl (hb hby dSR_60)
      have z28 : n0 ≤ h27.size := Nat.le_trans z23 (Keep.of_wr W27).1
      have K29 : Keep h0 h27 [] := K24.wr W27 (Or.inr hz_ca)
      have N27 := Fr.snoc X27 N0 ge_ca
      have f30 : Arv Z h27 ca k22 .char (1 : Int32) [(.int (nar .char v2))] (.int (0 : Int32)) := Arv.set Ar27 q27 S27 M27 Hh27 G27 (fits_nar_char _) W27 0 rfl (Nat.le_of_ble_eq_true rfl)
      have go27 : ∀ tgt, Steps p.tables e below (T27.setTop (mkF m 61 #[.val (.int pp), .val (.int v1), .val (.int v2), .val (.int v3), .val (.int v4), .val (.ref ca)] [])) tgt → Steps p.tables e below E0 tgt := fun tgt kont => go25 tgt (st27 tgt kont)
      have go31 : ∀ tgt, Steps p.tables e below (T27.setTop (mkF m 108 #[.val (.int pp), .val (.int v1), .val (.int v2), .val (.int v3), .val (.int v4), .val (.ref ca)] [])) tgt → Steps p.tables e below E0 tgt := fun tgt kont => go27 tgt (by
        show Steps p.tables e below (T27.setTop (mkF m 61 #[.val (.int pp), .val (.int v1), .val (.int v2), .val (.int v3), .val (.int v4), .val (.ref ca)] [])) tgt
        refine XS.goto X27.here hx rfl (pc0 := 61) (pc' := 108) rfl (hb hby dSR_61) (by decide) (by decide) ?_
        exact kont)
      obtain ⟨T32, h32, X32, e32, E32, A32, D32, -, st32⟩ := newO X27 hx hZ hown (hw _ (List.mem_of_getElem? (i := 5) rfl)) (hw _ (List.mem_of_getElem? (i := 6) rfl)) (hw _ (List.mem_of_getElem? (i := 7) rfl)) e27 (g := (mkF m 108 #[.val (.int pp), .val (.int v1), .val (.int v2), .val (.int v3), .val (.int v4), .val (.ref ca)] [])) rfl (hb hby dSR_108) (by decide) (by decide)
      obtain ⟨st, g32⟩ : ∃ z, z = h27.size := ⟨_, rfl⟩
      rw [← g32] at A32 D32 st32
      have ne_ca_st : ca ≠ st := Nat.ne_of_lt (Nat.lt_of_lt_of_le (Nat.lt_of_lt_of_le V22.lt (Keep.of_wr W27).1) (Nat.le_of_eq g32.symm))
      have ge_st : n0 ≤ st := Nat.le_trans z28 (Nat.le_of_eq g32.symm)
      have hz_st : h0.size ≤ st := Nat.le_trans K29.1 (Nat.le_of_eq g32.symm)
      have z33 : n0 ≤ h32.size := Nat.le_trans z28 E32.1
      have K34 : Keep h0 h32 [] := K29.ext E32
      have Fcoder_st : Fld Z h32 st "java/lang/String" "coder" "B" (.int (0 : Int32)) := D32 (Or.inr (hw _ (List.mem_of_getElem? (i := 31) rfl))) (ty := .byte) (by decide)
      have Fvalue_st : Fld Z h32 st "java/lang/String" "value" "[B" .null := D32 (Or.inr (hw _ (List.mem_of_getElem? (i := 33) rfl))) (ty := (.array .byte)) (by decide)
      have go32 : ∀ tgt, Steps p.tables e below (T32.setTop (mkF m 111 #[.val (.int pp), .val (.int v1), .val (.int v2), .val (.int v3), .val (.int v4), .val (.ref ca)] [(.ref st)])) tgt → Steps p.tables e below E0 tgt := fun tgt kont => go31 tgt (st32 tgt kont)
      have hp : ∀ c ∈ ([(nar .char v2)] : List Int32), ¬ c < 0 ∧ ¬ (255 : Int32) < c := by
        intro c hc
        simp only [List.mem_cons, List.not_mem_nil, or_false] at hc
        rcases hc with rfl
        · exact r2
      have f35 : Old Z n0 h32 := (((O0.ext E22).wr W27 ge_ca).ext E32)
      have go36 : ∀ tgt, Steps p.tables e below (T32.setTop (mkF m 114 #[.val (.int pp), .val (.int v1), .val (.int v2), .val (.int v3), .val (.int v4), .val (.ref ca)] [(.ref ca), (.ref st), (.ref st)])) tgt → Steps p.tables e below E0 tgt := fun tgt kont => go32 tgt (by
        show Steps p.tables e below (T32.setTop (mkF m 111 #[.val (.int pp), .val (.int v1), .val (.int v2), .val (.int v3), .val (.int v4), .val (.ref ca)] [(.ref st)])) tgt
        refine XS.dup X32.here hx rfl (hb hby dSR_111) rfl rfl ?_
        show Steps p.tables e below (T32.setTop (mkF m 112 #[.val (.int pp), .val (.int v1), .val (.int v2), .val (.int v3), .val (.int v4), .val (.ref ca)] [(.ref st), (.ref st)])) tgt
        refine XS.aload X32.here hx rfl (hb hby dSR_112) rfl rfl ?_
        exact kont)
      have f37 : Arv Z h32 ca k22 .char (1 : Int32) [(.int (nar .char v2))] (.int (0 : Int32)) := (f30.ext E32)
      obtain ⟨_, _, ⟨T38, L38, k38, n38⟩, -, X38, ⟨Lc38, hQ38, l38, y38, z38⟩, st38⟩ := X32.specialBack hx (y := (⟨"java/lang/String", "<init>", "([C)V"⟩ : MethodName)) rfl hown (mvT hZ (hw _ (List.mem_of_getElem? (i := 8) rfl))) (mvT hZ (hw _ (List.mem_of_getElem? (i := 9) rfl))) (mvT hZ (hw _ (List.mem_of_getElem? (i := 10) rfl))) (by decide) (StrChars.Road.backV (W := 1) hZ hws (kI := 4) (hw _ (List.mem_of_getElem? (i := 6) rfl)) (cs := ([(nar .char v2)] : List Int32)) (bs := ([(nar .char v2)] : List Int32).map (fun c => c.toInt8.toInt32)) (n := 1) ge_st z33 A32 Fvalue_st Fcoder_st f37 (SC.ext f35.2) hG rfl rfl (by decide) (by decide) hp rfl (by decide) (by decide)) (g := (mkF m 114 #[.val (.int pp), .val (.int v1), .val (.int v2), .val (.int v3), .val (.int v4), .val (.ref ca)] [(.ref ca), (.ref st), (.ref st)])) rfl (by rw [hml]; rfl) (Steps.refl _) (a := st) (argsL := [(.ref ca)]) (rest := [(.ref st)]) (lenOf pd_3 rfl) rfl (by show 2 * 0 + _ ≤ _; exact Nat.le_of_eq rfl) (hb hby dSR_114) (fun _ _ => ⟨rfl, e32, (by decide : 2 + 1 ≤ _), (by decide : 5 + 1 ≤ _)⟩)
      dsimp only [Pt.U, Pt.locs, Pt.cells, Pt.slots] at X38 l38 y38 z38 st38 hQ38
      subst l38 y38 z38
      obtain ⟨rfl, N38q, KS, ES, FcS, tS, kbS, gtS, ztS, ntS, FvS, AvS⟩ := hQ38
      have N38 := Fr.app N27 N38q
      have z39 : n0 ≤ T38.heap.size := Nat.le_trans z33 KS.1
      have K40 : Keep h0 T38.heap [] := K34.trans KS (allS (Or.inr hz_st) all0)
      have go38 : ∀ tgt, Steps p.tables e below (T38.setTop (mkF m 117 #[.val (.int pp), .val (.int v1), .val (.int v2), .val (.int v3), .val (.int v4), .val (.ref ca)] [(.ref st)])) tgt → Steps p.tables e below E0 tgt := fun tgt kont => go36 tgt (st38.trans kont)
      have ne_ca_tS : ca ≠ tS := Nat.ne_of_lt (Nat.lt_of_lt_of_le (Nat.lt_of_lt_of_le V22.lt (Nat.le_trans (Keep.of_wr W27).1 E32.1)) ztS)
      have lt_st_tS : st < tS := Nat.lt_of_lt_of_le A32.lt ztS
      obtain ⟨fs, hr, hrun, hended, hW⟩ := X38.leaveW hS0 (Nat.le_trans hk0 (Nat.le_trans (Nat.le_trans (Nat.le_trans E22.1 (Keep.of_wr W27).1) E32.1) KS.1)) (v := some (.ref st)) (fun h => by rw [Bd.returns] at h; cases h)
      refine ⟨_, _, go38 _ ?_, hrun, hended, _, _, rfl, ?_, hW.1, hW.2.1, hW.2.2.1, hW.2.2.2.mono (by decide) (by decide)⟩
      · show Steps p.tables e below (T38.setTop (mkF m 117 #[.val (.int pp), .val (.int v1), .val (.int v2), .val (.int v3), .val (.int v4), .val (.ref ca)] [(.ref st)])) _
        exact retOut X38 hx Bd.returns rfl (Or.inr (Or.inr (Or.inr (Or.inr ⟨rfl, rfl, rfl⟩)))) (hb hby dSR_117) hr
      · show QSR Z pp G h0 n0 _ T38.heap _ T38.vm
        exact ⟨st, rfl, N38, K40, ge_st, hz_st, ES, own_Jwarm (own_Jkeep hJ0 K40) X38.warmed⟩
    · have go41 : ∀ tgt, Steps p.tables e below (s₁.setTop (mkF m 66 #[.val (.int pp), .val (.int v1), .val (.int v2), .val (.int v3), .val (.int v4), .unset] [(.int (2 : Int32)), (.int v1)])) tgt → Steps p.tables e below E0 tgt := fun tgt kont => go20 tgt (by
        show Steps p.tables e below (s₁.setTop (mkF m 48 #[.val (.int pp), .val (.int v1), .val (.int v2), .val (.int v3), .val (.int v4), .unset] [(.int (1 : Int32)), (.int v1)])) tgt
        refine XS.icmpYes X0.here hx rfl (pc0 := 48) (pc' := 64) rfl (hb hby dSR_48) rfl (feq u1).2 (by decide) (by decide) ?_
        show Steps p.tables e below (s₁.setTop (mkF m 64 #[.val (.int pp), .val (.int v1), .val (.int v2), .val (.int v3), .val (.int v4), .unset] [])) tgt
        refine XS.iloadN X0.here hx rfl (hb hby dSR_64) rfl ?_
        show Steps p.tables e below (s₁.setTop (mkF m 65 #[.val (.int pp), .val (.int v1), .val (.int v2), .val (.int v3), .val (.int v4), .unset] [(.int v1)])) tgt
        refine XS.iconst X0.here hx rfl (hb hby dSR_65) ?_
        exact kont)
      by_cases u2 : v1 = (2 : Int32)
      · have go42 : ∀ tgt, Steps p.tables e below (s₁.setTop (mkF m 70 #[.val (.int pp), .val (.int v1), .val (.int v2), .val (.int v3), .val (.int v4), .unset] [(.int (2 : Int32))])) tgt → Steps p.tables e below E0 tgt := fun tgt kont => go41 tgt (by
          show Steps p.tables e below (s₁.setTop (mkF m 66 #[.val (.int pp), .val (.int v1), .val (.int v2), .val (.int v3), .val (.int v4), .unset] [(.int (2 : Int32)), (.int v1)])) tgt
          refine XS.icmpNo X0.here hx rfl (hb hby dSR_66) rfl (teq u2).2 ?_
          show Steps p.tables e below (s₁.setTop (mkF m 69 #[.val (.int pp), .val (.int v1), .val (.int v2), .val (.int v3), .val (.int v4), .unset] [])) tgt
          refine XS.iconst X0.here hx rfl (hb hby dSR_69) ?_
          exact kont)
        obtain ⟨T43, h43, k43, X43, e43, E43, A43, st43⟩ := newP X0 hx hZ (hw _ (List.mem_of_getElem? (i := 4) rfl)) e0 (g := (mkF m 70 #[.val (.int pp), .val (.int v1), .val (.int v2), .val (.int v3), .val (.int v4), .unset] [(.int (2 : Int32))])) rfl (hb hby dSR_70) rfl (by decide) (cap := 2) (by decide) (by decide) (by decide) (by decide)
        obtain ⟨ca, g43⟩ : ∃ z, z = h0.size := ⟨_, rfl⟩
        rw [← g43] at A43 st43
        have ge_ca : n0 ≤ ca := Nat.le_trans Z0 (Nat.le_of_eq g43.symm)
        have hz_ca : h0.size ≤ ca := Nat.le_trans (Keep.refl h0 []).1 (Nat.le_of_eq g43.symm)
        have z44 : n0 ≤ h43.size := Nat.le_trans Z0 E43.1
        have K45 : Keep h0 h43 [] := (Keep.refl h0 []).ext E43
        have V43 : Arv Z h43 ca k43 .char (2 : Int32) [] (.int (0 : Int32)) := Arv.new A43 (by decide)
        have go43 : ∀ tgt, Steps p.tables e below (T43.setTop (mkF m 72 #[.val (.int pp), .val (.int v1), .val (.int v2), .val (.int v3), .val (.int v4), .unset] [(.ref ca)])) tgt → Steps p.tables e below E0 tgt := fun tgt kont => go42 tgt (st43 tgt kont)
        have go46 : ∀ tgt, Steps p.tables e below (T43.setTop (mkF m 78 #[.val (.int pp), .val (.int v1), .val (.int v2), .val (.int v3), .val (.int v4), .val (.ref ca)] [(.int v2), (.int (0 : Int32)), (.ref ca)])) tgt → Steps p.tables e below E0 tgt := fun tgt kont => go43 tgt (by
          show Steps p.tables e below (T43.setTop (mkF m 72 #[.val (.int pp), .val (.int v1), .val (.int v2), .val (.int v3), .val (.int v4), .unset] [(.ref ca)])) tgt
          refine XS.astore X43.here hx rfl (hb hby dSR_72) rfl rfl (l' := #[.val (.int pp), .val (.int v1), .val (.int v2), .val (.int v3), .val (.int v4), .val (.ref ca)]) rfl ?_
          show Steps p.tables e below (T43.setTop (mkF m 74 #[.val (.int pp), .val (.int v1), .val (.int v2), .val (.int v3), .val (.int v4), .val (.ref ca)] [])) tgt
          refine XS.aload X43.here hx rfl (hb hby dSR_74) rfl rfl ?_
          show Steps p.tables e below (T43.setTop (mkF m 76 #[.val (.int pp), .val (.int v1), .val (.int v2), .val (.int v3), .val (.int v4), .val (.ref ca)] [(.ref ca)])) tgt
          refine XS.iconst X43.here hx rfl (hb hby dSR_76) ?_
          show Steps p.tables e below (T43.setTop (mkF m 77 #[.val (.int pp), .val (.int v1), .val (.int v2), .val (.int v3), .val (.int v4), .val (.ref ca)] [(.int (0 : Int32)), (.ref ca)])) tgt
          refine XS.iloadN X43.here hx rfl (hb hby dSR_77) rfl ?_
          exact kont)
        have p47 : Arv Z h43 ca k43 .char (2 : Int32) [(.int (0 : Int32))] (.int (0 : Int32)) := V43.pad (pad_rep [] (.int (0 : Int32)) 1)
        obtain ⟨c48, Ar48, q48, S48, M48, Hh48, G48⟩ := id p47
        obtain ⟨T48, h48, X48, e48, W48, st48⟩ := stC X43 hx hZ e43 Ar48 (j := (0 : Int32)) (inb_of S48 ⟨by decide, by decide⟩) (g := (mkF m 78 #[.val (.int pp), .val (.int v1), .val (.int v2), .val (.int v3), .val (.int v4), .val (.ref ca)] [(.int v2), (.int (0 : Int32)), (.ref ca)])) rfl rfl (hb hby dSR_78)
        have z49 : n0 ≤ h48.size := Nat.le_trans z44 (Keep.of_wr W48).1
        have K50 : Keep h0 h48 [] := K45.wr W48 (Or.inr hz_ca)
        have N48 := Fr.snoc X48 N0 ge_ca
        have f51 : Arv Z h48 ca k43 .char (2 : Int32) [(.int (nar .char v2))] (.int (0 : Int32)) := Arv.set Ar48 q48 S48 M48 Hh48 G48 (fits_nar_char _) W48 0 rfl (Nat.le_of_ble_eq_true rfl)
        have go48 : ∀ tgt, Steps p.tables e below (T48.setTop (mkF m 79 #[.val (.int pp), .val (.int v1), .val (.int v2), .val (.int v3), .val (.int v4), .val (.ref ca)] [])) tgt → Steps p.tables e below E0 tgt := fun tgt kont => go46 tgt (st48 tgt kont)
        have go52 : ∀ tgt, Steps p.tables e below (T48.setTop (mkF m 83 #[.val (.int pp), .val (.int v1), .val (.int v2), .val (.int v3), .val (.int v4), .val (.ref ca)] [(.int v3), (.int (1 : Int32)), (.ref ca)])) tgt → Steps p.tables e below E0 tgt := fun tgt kont => go48 tgt (by
          show Steps p.tables e below (T48.setTop (mkF m 79 #[.val (.int pp), .val (.int v1), .val (.int v2), .val (.int v3), .val (.int v4), .val (.ref ca)] [])) tgt
          refine XS.aload X48.here hx rfl (hb hby dSR_79) rfl rfl ?_
          show Steps p.tables e below (T48.setTop (mkF m 81 #[.val (.int pp), .val (.int v1), .val (.int v2), .val (.int v3), .val (.int v4), .val (.ref ca)] [(.ref ca)])) tgt
          refine XS.iconst X48.here hx rfl (hb hby dSR_81) ?_
          show Steps p.tables e below (T48.setTop (mkF m 82 #[.val (.int pp), .val (.int v1), .val (.int v2), .val (.int v3), .val (.int v4), .val (.ref ca)] [(.int (1 : Int32)), (.ref ca)])) tgt
          refine XS.iloadN X48.here hx rfl (hb hby dSR_82) rfl ?_
          exact kont)
        have p53 : Arv Z h48 ca k43 .char (2 : Int32) [(.int (nar .char v2)), (.int (0 : Int32))] (.int (0 : Int32)) := f51.pad (pad_rep [(.int (nar .char v2))] (.int (0 : Int32)) 1)
        obtain ⟨c54, Ar54, q54, S54, M54, Hh54, G54⟩ := id p53
        obtain ⟨T54, h54, X54, e54, W54, st54⟩ := stC X48 hx hZ e48 Ar54 (j := (1 : Int32)) (inb_of S54 ⟨by decide, by decide⟩) (g := (mkF m 83 #[.val (.int pp), .val (.int v1), .val (.int v2), .val (.int v3), .val (.int v4), .val (.ref ca)] [(.int v3), (.int (1 : Int32)), (.ref ca)])) rfl rfl (hb hby dSR_83)
        have z55 : n0 ≤ h54.size := Nat.le_trans z49 (Keep.of_wr W54).1
        have K56 : Keep h0 h54 [] := K50.wr W54 (Or.inr hz_ca)
        have N54 := Fr.snoc X54 N48 ge_ca
        have f57 : Arv Z h54 ca k43 .char (2 : Int32) [(.int (nar .char v2)), (.int (nar .char v3))] (.int (0 : Int32)) := Arv.set Ar54 q54 S54 M54 Hh54 G54 (fits_nar_char _) W54 1 rfl (Nat.le_of_ble_eq_true rfl)
        have go54 : ∀ tgt, Steps p.tables e below (T54.setTop (mkF m 84 #[.val (.int pp), .val (.int v1), .val (.int v2), .val (.int v3), .val (.int v4), .val (.ref ca)] [])) tgt → Steps p.tables e below E0 tgt := fun tgt kont => go52 tgt (st54 tgt kont)
        have go58 : ∀ tgt, Steps p.tables e below (T54.setTop (mkF m 108 #[.val (.int pp), .val (.int v1), .val (.int v2), .val (.int v3), .val (.int v4), .val (.ref ca)] [])) tgt → Steps p.tables e below E0 tgt := fun tgt kont => go54 tgt (by
          show Steps p.tables e below (T54.setTop (mkF m 84 #[.val (.int pp), .val (.int v1), .val (.int v2), .val (.int v3), .val (.int v4), .val (.ref ca)] [])) tgt
          refine XS.goto X54.here hx rfl (pc0 := 84) (pc' := 108) rfl (hb hby dSR_84) (by decide) (by decide) ?_
          exact kont)
        obtain ⟨T59, h59, X59, e59, E59, A59, D59, -, st59⟩ := newO X54 hx hZ hown (hw _ (List.mem_of_getElem? (i := 5) rfl)) (hw _ (List.mem_of_getElem? (i := 6) rfl)) (hw _ (List.mem_of_getElem? (i := 7) rfl)) e54 (g := (mkF m 108 #[.val (.int pp), .val (.int v1), .val (.int v2), .val (.int v3), .val (.int v4), .val (.ref ca)] [])) rfl (hb hby dSR_108) (by decide) (by decide)
        obtain ⟨st, g59⟩ : ∃ z, z = h54.size := ⟨_, rfl⟩
        rw [← g59] at A59 D59 st59
        have ne_ca_st : ca ≠ st := Nat.ne_of_lt (Nat.lt_of_lt_of_le (Nat.lt_of_lt_of_le V43.lt (Nat.le_trans (Keep.of_wr W48).1 (Keep.of_wr W54).1)) (Nat.le_of_eq g59.symm))
        have ge_st : n0 ≤ st := Nat.le_trans z55 (Nat.le_of_eq g59.symm)
        have hz_st : h0.size ≤ st := Nat.le_trans K56.1 (Nat.le_of_eq g59.symm)
        have z60 : n0 ≤ h59.size := Nat.le_trans z55 E59.1
        have K61 : Keep h0 h59 [] := K56.ext E59
        have Fcoder_st : Fld Z h59 st "java/lang/String" "coder" "B" (.int (0 : Int32)) := D59 (Or.inr (hw _ (List.mem_of_getElem? (i := 31) rfl))) (ty := .byte) (by decide)
        have Fvalue_st : Fld Z h59 st "java/lang/String" "value" "[B" .null := D59 (Or.inr (hw _ (List.mem_of_getElem? (i := 33) rfl))) (ty := (.array .byte)) (by decide)
        have go59 : ∀ tgt, Steps p.tables e below (T59.setTop (mkF m 111 #[.val (.int pp), .val (.int v1), .val (.int v2), .val (.int v3), .val (.int v4), .val (.ref ca)] [(.ref st)])) tgt → Steps p.tables e below E0 tgt := fun tgt kont => go58 tgt (st59 tgt kont)
        have hp : ∀ c ∈ ([(nar .char v2), (nar .char v3)] : List Int32), ¬ c < 0 ∧ ¬ (255 : Int32) < c := by
          intro c hc
          simp only [List.mem_cons, List.not_mem_nil, or_false] at hc
          rcases hc with rfl | rfl
          · exact r2
          · exact r3
        have f62 : Old Z n0 h59 := ((((O0.ext E43).wr W48 ge_ca).wr W54 ge_ca).ext E59)
        have go63 : ∀ tgt, Steps p.tables e below (T59.setTop (mkF m 114 #[.val (.int pp), .val (.int v1), .val (.int v2), .val (.int v3), .val (.int v4), .val (.ref ca)] [(.ref ca), (.ref st), (.ref st)])) tgt → Steps p.tables e below E0 tgt := fun tgt kont => go59 tgt (by
          show Steps p.tables e below (T59.setTop (mkF m 111 #[.val (.int pp), .val (.int v1), .val (.int v2), .val (.int v3), .val (.int v4), .val (.ref ca)] [(.ref st)])) tgt
          refine XS.dup X59.here hx rfl (hb hby dSR_111) rfl rfl ?_
          show Steps p.tables e below (T59.setTop (mkF m 112 #[.val (.int pp), .val (.int v1), .val (.int v2), .val (.int v3), .val (.int v4), .val (.ref ca)] [(.ref st), (.ref st)])) tgt
          refine XS.aload X59.here hx rfl (hb hby dSR_112) rfl rfl ?_
          exact kont)
        have f64 : Arv Z h59 ca k43 .char (2 : Int32) [(.int (nar .char v2)), (.int (nar .char v3))] (.int (0 : Int32)) := (f57.ext E59)
        obtain ⟨_, _, ⟨T65, L65, k65, n65⟩, -, X65, ⟨Lc65, hQ65, l65, y65, z65⟩, st65⟩ := X59.specialBack hx (y := (⟨"java/lang/String", "<init>", "([C)V"⟩ : MethodName)) rfl hown (mvT hZ (hw _ (List.mem_of_getElem? (i := 8) rfl))) (mvT hZ (hw _ (List.mem_of_getElem? (i := 9) rfl))) (mvT hZ (hw _ (List.mem_of_getElem? (i := 10) rfl))) (by decide) (StrChars.Road.backV (W := 1) hZ hws (kI := 4) (hw _ (List.mem_of_getElem? (i := 6) rfl)) (cs := ([(nar .char v2), (nar .char v3)] : List Int32)) (bs := ([(nar .char v2), (nar .char v3)] : List Int32).map (fun c => c.toInt8.toInt32)) (n := 2) ge_st z60 A59 Fvalue_st Fcoder_st f64 (SC.ext f62.2) hG rfl rfl (by decide) (by decide) hp rfl (by decide) (by decide)) (g := (mkF m 114 #[.val (.int pp), .val (.int v1), .val (.int v2), .val (.int v3), .val (.int v4), .val (.ref ca)] [(.ref ca), (.ref st), (.ref st)])) rfl (by rw [hml]; rfl) (Steps.refl _) (a := st) (argsL := [(.ref ca)]) (rest := [(.ref st)]) (lenOf pd_3 rfl) rfl (by show 2 * 0 + _ ≤ _; exact Nat.le_of_eq rfl) (hb hby dSR_114) (fun _ _ => ⟨rfl, e59, (by decide : 2 + 1 ≤ _), (by decide : 6 + 2 ≤ _)⟩)
        dsimp only [Pt.U, Pt.locs, Pt.cells, Pt.slots] at X65 l65 y65 z65 st65 hQ65
        subst l65 y65 z65
        obtain ⟨rfl, N65q, KS, ES, FcS, tS, kbS, gtS, ztS, ntS, FvS, AvS⟩ := hQ65
        have N65 := Fr.app N54 N65q
        have z66 : n0 ≤ T65.heap.size := Nat.le_trans z60 KS.1
        have K67 : Keep h0 T65.heap [] := K61.trans KS (allS (Or.inr hz_st) all0)
        have go65 : ∀ tgt, Steps p.tables e below (T65.setTop (mkF m 117 #[.val (.int pp), .val (.int v1), .val (.int v2), .val (.int v3), .val (.int v4), .val (.ref ca)] [(.ref st)])) tgt → Steps p.tables e below E0 tgt := fun tgt kont => go63 tgt (st65.trans kont)
        have ne_ca_tS : ca ≠ tS := Nat.ne_of_lt (Nat.lt_of_lt_of_le (Nat.lt_of_lt_of_le V43.lt (Nat.le_trans (Nat.le_trans (Keep.of_wr W48).1 (Keep.of_wr W54).1) E59.1)) ztS)
        have lt_st_tS : st < tS := Nat.lt_of_lt_of_le A59.lt ztS
        obtain ⟨fs, hr, hrun, hended, hW⟩ := X65.leaveW hS0 (Nat.le_trans hk0 (Nat.le_trans (Nat.le_trans (Nat.le_trans (Nat.le_trans E43.1 (Keep.of_wr W48).1) (Keep.of_wr W54).1) E59.1) KS.1)) (v := some (.ref st)) (fun h => by rw [Bd.returns] at h; cases h)
        refine ⟨_, _, go65 _ ?_, hrun, hended, _, _, rfl, ?_, hW.1, hW.2.1, hW.2.2.1, hW.2.2.2.mono (by decide) (by decide)⟩
        · show Steps p.tables e below (T65.setTop (mkF m 117 #[.val (.int pp), .val (.int v1), .val (.int v2), .val (.int v3), .val (.int v4), .val (.ref ca)] [(.ref st)])) _
          exact retOut X65 hx Bd.returns rfl (Or.inr (Or.inr (Or.inr (Or.inr ⟨rfl, rfl, rfl⟩)))) (hb hby dSR_117) hr
        · show QSR Z pp G h0 n0 _ T65.heap _ T65.vm
          exact ⟨st, rfl, N65, K67, ge_st, hz_st, ES, own_Jwarm (own_Jkeep hJ0 K67) X65.warmed⟩
      · have go68 : ∀ tgt, Steps p.tables e below (s₁.setTop (mkF m 88 #[.val (.int pp), .val (.int v1), .val (.int v2), .val (.int v3), .val (.int v4), .unset] [(.int (3 : Int32))])) tgt → Steps p.tables e below E0 tgt := fun tgt kont => go41 tgt (by
          show Steps p.tables e below (s₁.setTop (mkF m 66 #[.val (.int pp), .val (.int v1), .val (.int v2), .val (.int v3), .val (.int v4), .unset] [(.int (2 : Int32)), (.int v1)])) tgt
          refine XS.icmpYes X0.here hx rfl (pc0 := 66) (pc' := 87) rfl (hb hby dSR_66) rfl (feq u2).2 (by decide) (by decide) ?_
          show Steps p.tables e below (s₁.setTop (mkF m 87 #[.val (.int pp), .val (.int v1), .val (.int v2), .val (.int v3), .val (.int v4), .unset] [])) tgt
          refine XS.iconst X0.here hx rfl (hb hby dSR_87) ?_
          exact kont)
        obtain ⟨T69, h69, k69, X69, e69, E69, A69, st69⟩ := newP X0 hx hZ (hw _ (List.mem_of_getElem? (i := 4) rfl)) e0 (g := (mkF m 88 #[.val (.int pp), .val (.int v1), .val (.int v2), .val (.int v3), .val (.int v4), .unset] [(.int (3 : Int32))])) rfl (hb hby dSR_88) rfl (by decide) (cap := 3) (by decide) (by decide) (by decide) (by decide)
        obtain ⟨ca, g69⟩ : ∃ z, z = h0.size := ⟨_, rfl⟩
        rw [← g69] at A69 st69
        have ge_ca : n0 ≤ ca := Nat.le_trans Z0 (Nat.le_of_eq g69.symm)
        have hz_ca : h0.size ≤ ca := Nat.le_trans (Keep.refl h0 []).1 (Nat.le_of_eq g69.symm)
        have z70 : n0 ≤ h69.size := Nat.le_trans Z0 E69.1
        have K71 : Keep h0 h69 [] := (Keep.refl h0 []).ext E69
        have V69 : Arv Z h69 ca k69 .char (3 : Int32) [] (.int (0 : Int32)) := Arv.new A69 (by decide)
        have go69 : ∀ tgt, Steps p.tables e below (T69.setTop (mkF m 90 #[.val (.int pp), .val (.int v1), .val (.int v2), .val (.int v3), .val (.int v4), .unset] [(.ref ca)])) tgt → Steps p.tables e below E0 tgt := fun tgt kont => go68 tgt (st69 tgt kont)
        have go72 : ∀ tgt, Steps p.tables e below (T69.setTop (mkF m 96 #[.val (.int pp), .val (.int v1), .val (.int v2), .val (.int v3), .val (.int v4), .val (.ref ca)] [(.int v2), (.int (0 : Int32)), (.ref ca)])) tgt → Steps p.tables e below E0 tgt := fun tgt kont => go69 tgt (by
          show Steps p.tables e below (T69.setTop (mkF m 90 #[.val (.int pp), .val (.int v1), .val (.int v2), .val (.int v3), .val (.int v4), .unset] [(.ref ca)])) tgt
          refine XS.astore X69.here hx rfl (hb hby dSR_90) rfl rfl (l' := #[.val (.int pp), .val (.int v1), .val (.int v2), .val (.int v3), .val (.int v4), .val (.ref ca)]) rfl ?_
          show Steps p.tables e below (T69.setTop (mkF m 92 #[.val (.int pp), .val (.int v1), .val (.int v2), .val (.int v3), .val (.int v4), .val (.ref ca)] [])) tgt
          refine XS.aload X69.here hx rfl (hb hby dSR_92) rfl rfl ?_
          show Steps p.tables e below (T69.setTop (mkF m 94 #[.val (.int pp), .val (.int v1), .val (.int v2), .val (.int v3), .val (.int v4), .val (.ref ca)] [(.ref ca)])) tgt
          refine XS.iconst X69.here hx rfl (hb hby dSR_94) ?_
          show Steps p.tables e below (T69.setTop (mkF m 95 #[.val (.int pp), .val (.int v1), .val (.int v2), .val (.int v3), .val (.int v4), .val (.ref ca)] [(.int (0 : Int32)), (.ref ca)])) tgt
          refine XS.iloadN X69.here hx rfl (hb hby dSR_95) rfl ?_
          exact kont)
        have p73 : Arv Z h69 ca k69 .char (3 : Int32) [(.int (0 : Int32))] (.int (0 : Int32)) := V69.pad (pad_rep [] (.int (0 : Int32)) 1)
        obtain ⟨c74, Ar74, q74, S74, M74, Hh74, G74⟩ := id p73
        obtain ⟨T74, h74, X74, e74, W74, st74⟩ := stC X69 hx hZ e69 Ar74 (j := (0 : Int32)) (inb_of S74 ⟨by decide, by decide⟩) (g := (mkF m 96 #[.val (.int pp), .val (.int v1), .val (.int v2), .val (.int v3), .val (.int v4), .val (.ref ca)] [(.int v2), (.int (0 : Int32)), (.ref ca)])) rfl rfl (hb hby dSR_96)
        have z75 : n0 ≤ h74.size := Nat.le_trans z70 (Keep.of_wr W74).1
        have K76 : Keep h0 h74 [] := K71.wr W74 (Or.inr hz_ca)
        have N74 := Fr.snoc X74 N0 ge_ca
        have f77 : Arv Z h74 ca k69 .char (3 : Int32) [(.int (nar .char v2))] (.int (0 : Int32)) := Arv.set Ar74 q74 S74 M74 Hh74 G74 (fits_nar_char _) W74 0 rfl (Nat.le_of_ble_eq_true rfl)
        have go74 : ∀ tgt, Steps p.tables e below (T74.setTop (mkF m 97 #[.val (.int pp), .val (.int v1), .val (.int v2), .val (.int v3), .val (.int v4), .val (.ref ca)] [])) tgt → Steps p.tables e below E0 tgt := fun tgt kont => go72 tgt (st74 tgt kont)
        have go78 : ∀ tgt, Steps p.tables e below (T74.setTop (mkF m 101 #[.val (.int pp), .val (.int v1), .val (.int v2), .val (.int v3), .val (.int v4), .val (.ref ca)] [(.int v3), (.int (1 : Int32)), (.ref ca)])) tgt → Steps p.tables e below E0 tgt := fun tgt kont => go74 tgt (by
          show Steps p.tables e below (T74.setTop (mkF m 97 #[.val (.int pp), .val (.int v1), .val (.int v2), .val (.int v3), .val (.int v4), .val (.ref ca)] [])) tgt
          refine XS.aload X74.here hx rfl (hb hby dSR_97) rfl rfl ?_
          show Steps p.tables e below (T74.setTop (mkF m 99 #[.val (.int pp), .val (.int v1), .val (.int v2), .val (.int v3), .val (.int v4), .val (.ref ca)] [(.ref ca)])) tgt
          refine XS.iconst X74.here hx rfl (hb hby dSR_99) ?_
          show Steps p.tables e below (T74.setTop (mkF m 100 #[.val (.int pp), .val (.int v1), .val (.int v2), .val (.int v3), .val (.int v4), .val (.ref ca)] [(.int (1 : Int32)), (.ref ca)])) tgt
          refine XS.iloadN X74.here hx rfl (hb hby dSR_100) rfl ?_
          exact kont)
        have p79 : Arv Z h74 ca k69 .char (3 : Int32) [(.int (nar .char v2)), (.int (0 : Int32))] (.int (0 : Int32)) := f77.pad (pad_rep [(.int (nar .char v2))] (.int (0 : Int32)) 1)
        obtain ⟨c80, Ar80, q80, S80, M80, Hh80, G80⟩ := id p79
        obtain ⟨T80, h80, X80, e80, W80, st80⟩ := stC X74 hx hZ e74 Ar80 (j := (1 : Int32)) (inb_of S80 ⟨by decide, by decide⟩) (g := (mkF m 101 #[.val (.int pp), .val (.int v1), .val (.int v2), .val (.int v3), .val (.int v4), .val (.ref ca)] [(.int v3), (.int (1 : Int32)), (.ref ca)])) rfl rfl (hb hby dSR_101)
        have z81 : n0 ≤ h80.size := Nat.le_trans z75 (Keep.of_wr W80).1
        have K82 : Keep h0 h80 [] := K76.wr W80 (Or.inr hz_ca)
        have N80 := Fr.snoc X80 N74 ge_ca
        have f83 : Arv Z h80 ca k69 .char (3 : Int32) [(.int (nar .char v2)), (.int (nar .char v3))] (.int (0 : Int32)) := Arv.set Ar80 q80 S80 M80 Hh80 G80 (fits_nar_char _) W80 1 rfl (Nat.le_of_ble_eq_true rfl)
        have go80 : ∀ tgt, Steps p.tables e below (T80.setTop (mkF m 102 #[.val (.int pp), .val (.int v1), .val (.int v2), .val (.int v3), .val (.int v4), .val (.ref ca)] [])) tgt → Steps p.tables e below E0 tgt := fun tgt kont => go78 tgt (st80 tgt kont)
        have go84 : ∀ tgt, Steps p.tables e below (T80.setTop (mkF m 107 #[.val (.int pp), .val (.int v1), .val (.int v2), .val (.int v3), .val (.int v4), .val (.ref ca)] [(.int v4), (.int (2 : Int32)), (.ref ca)])) tgt → Steps p.tables e below E0 tgt := fun tgt kont => go80 tgt (by
          show Steps p.tables e below (T80.setTop (mkF m 102 #[.val (.int pp), .val (.int v1), .val (.int v2), .val (.int v3), .val (.int v4), .val (.ref ca)] [])) tgt
          refine XS.aload X80.here hx rfl (hb hby dSR_102) rfl rfl ?_
          show Steps p.tables e below (T80.setTop (mkF m 104 #[.val (.int pp), .val (.int v1), .val (.int v2), .val (.int v3), .val (.int v4), .val (.ref ca)] [(.ref ca)])) tgt
          refine XS.iconst X80.here hx rfl (hb hby dSR_104) ?_
          show Steps p.tables e below (T80.setTop (mkF m 105 #[.val (.int pp), .val (.int v1), .val (.int v2), .val (.int v3), .val (.int v4), .val (.ref ca)] [(.int (2 : Int32)), (.ref ca)])) tgt
          refine XS.iload X80.here hx rfl (hb hby dSR_105) rfl ?_
          exact kont)
        have p85 : Arv Z h80 ca k69 .char (3 : Int32) [(.int (nar .char v2)), (.int (nar .char v3)), (.int (0 : Int32))] (.int (0 : Int32)) := f83.pad (pad_rep [(.int (nar .char v2)), (.int (nar .char v3))] (.int (0 : Int32)) 1)
        obtain ⟨c86, Ar86, q86, S86, M86, Hh86, G86⟩ := id p85
        obtain ⟨T86, h86, X86, e86, W86, st86⟩ := stC X80 hx hZ e80 Ar86 (j := (2 : Int32)) (inb_of S86 ⟨by decide, by decide⟩) (g := (mkF m 107 #[.val (.int pp), .val (.int v1), .val (.int v2), .val (.int v3), .val (.int v4), .val (.ref ca)] [(.int v4), (.int (2 : Int32)), (.ref ca)])) rfl rfl (hb hby dSR_107)
        have z87 : n0 ≤ h86.size := Nat.le_trans z81 (Keep.of_wr W86).1
        have K88 : Keep h0 h86 [] := K82.wr W86 (Or.inr hz_ca)
        have N86 := Fr.snoc X86 N80 ge_ca
        have f89 : Arv Z h86 ca k69 .char (3 : Int32) [(.int (nar .char v2)), (.int (nar .char v3)), (.int (nar .char v4))] (.int (0 : Int32)) := Arv.set Ar86 q86 S86 M86 Hh86 G86 (fits_nar_char _) W86 2 rfl (Nat.le_of_ble_eq_true rfl)
        have go86 : ∀ tgt, Steps p.tables e below (T86.setTop (mkF m 108 #[.val (.int pp), .val (.int v1), .val (.int v2), .val (.int v3), .val (.int v4), .val (.ref ca)] [])) tgt → Steps p.tables e below E0 tgt := fun tgt kont => go84 tgt (st86 tgt kont)
        obtain ⟨T90, h90, X90, e90, E90, A90, D90, -, st90⟩ := newO X86 hx hZ hown (hw _ (List.mem_of_getElem? (i := 5) rfl)) (hw _ (List.mem_of_getElem? (i := 6) rfl)) (hw _ (List.mem_of_getElem? (i := 7) rfl)) e86 (g := (mkF m 108 #[.val (.int pp), .val (.int v1), .val (.int v2), .val (.int v3), .val (.int v4), .val (.ref ca)] [])) rfl (hb hby dSR_108) (by decide) (by decide)
        obtain ⟨st, g90⟩ : ∃ z, z = h86.size := ⟨_, rfl⟩
        rw [← g90] at A90 D90 st90
        have ne_ca_st : ca ≠ st := Nat.ne_of_lt (Nat.lt_of_lt_of_le (Nat.lt_of_lt_of_le V69.lt (Nat.le_trans (Nat.le_trans (Keep.of_wr W74).1 (Keep.of_wr W80).1) (Keep.of_wr W86).1)) (Nat.le_of_eq g90.symm))
        have ge_st : n0 ≤ st := Nat.le_trans z87 (Nat.le_of_eq g90.symm)
        have hz_st : h0.size ≤ st := Nat.le_trans K88.1 (Nat.le_of_eq g90.symm)
        have z91 : n0 ≤ h90.size := Nat.le_trans z87 E90.1
        have K92 : Keep h0 h90 [] := K88.ext E90
        have Fcoder_st : Fld Z h90 st "java/lang/String" "coder" "B" (.int (0 : Int32)) := D90 (Or.inr (hw _ (List.mem_of_getElem? (i := 31) rfl))) (ty := .byte) (by decide)
        have Fvalue_st : Fld Z h90 st "java/lang/String" "value" "[B" .null := D90 (Or.inr (hw _ (List.mem_of_getElem? (i := 33) rfl))) (ty := (.array .byte)) (by decide)
        have go90 : ∀ tgt, Steps p.tables e below (T90.setTop (mkF m 111 #[.val (.int pp), .val (.int v1), .val (.int v2), .val (.int v3), .val (.int v4), .val (.ref ca)] [(.ref st)])) tgt → Steps p.tables e below E0 tgt := fun tgt kont => go86 tgt (st90 tgt kont)
        have hp : ∀ c ∈ ([(nar .char v2), (nar .char v3), (nar .char v4)] : List Int32), ¬ c < 0 ∧ ¬ (255 : Int32) < c := by
          intro c hc
          simp only [List.mem_cons, List.not_mem_nil, or_false] at hc
          rcases hc with rfl | rfl | rfl
          · exact r2
          · exact r3
          · exact r4
        have f93 : Old Z n0 h90 := (((((O0.ext E69).wr W74 ge_ca).wr W80 ge_ca).wr W86 ge_ca).ext E90)
        have go94 : ∀ tgt, Steps p.tables e below (T90.setTop (mkF m 114 #[.val (.int pp), .val (.int v1), .val (.int v2), .val (.int v3), .val (.int v4), .val (.ref ca)] [(.ref ca), (.ref st), (.ref st)])) tgt → Steps p.tables e below E0 tgt := fun tgt kont => go90 tgt (by
          show Steps p.tables e below (T90.setTop (mkF m 111 #[.val (.int pp), .val (.int v1), .val (.int v2), .val (.int v3), .val (.int v4), .val (.ref ca)] [(.ref st)])) tgt
          refine XS.dup X90.here hx rfl (hb hby dSR_111) rfl rfl ?_
          show Steps p.tables e below (T90.setTop (mkF m 112 #[.val (.int pp), .val (.int v1), .val (.int v2), .val (.int v3), .val (.int v4), .val (.ref ca)] [(.ref st), (.ref st)])) tgt
          refine XS.aload X90.here hx rfl (hb hby dSR_112) rfl rfl ?_
          exact kont)
        have f95 : Arv Z h90 ca k69 .char (3 : Int32) [(.int (nar .char v2)), (.int (nar .char v3)), (.int (nar .char v4))] (.int (0 : Int32)) := (f89.ext E90)
        obtain ⟨_, _, ⟨T96, L96, k96, n96⟩, -, X96, ⟨Lc96, hQ96, l96, y96, z96⟩, st96⟩ := X90.specialBack hx (y := (⟨"java/lang/String", "<init>", "([C)V"⟩ : MethodName)) rfl hown (mvT hZ (hw _ (List.mem_of_getElem? (i := 8) rfl))) (mvT hZ (hw _ (List.mem_of_getElem? (i := 9) rfl))) (mvT hZ (hw _ (List.mem_of_getElem? (i := 10) rfl))) (by decide) (StrChars.Road.backV (W := 1) hZ hws (kI := 4) (hw _ (List.mem_of_getElem? (i := 6) rfl)) (cs := ([(nar .char v2), (nar .char v3), (nar .char v4)] : List Int32)) (bs := ([(nar .char v2), (nar .char v3), (nar .char v4)] : List Int32).map (fun c => c.toInt8.toInt32)) (n := 3) ge_st z91 A90 Fvalue_st Fcoder_st f95 (SC.ext f93.2) hG rfl rfl (by decide) (by decide) hp rfl (by decide) (by decide)) (g := (mkF m 114 #[.val (.int pp), .val (.int v1), .val (.int v2), .val (.int v3), .val (.int v4), .val (.ref ca)] [(.ref ca), (.ref st), (.ref st)])) rfl (by rw [hml]; rfl) (Steps.refl _) (a := st) (argsL := [(.ref ca)]) (rest := [(.ref st)]) (lenOf pd_3 rfl) rfl (by show 2 * 0 + _ ≤ _; exact Nat.le_of_eq rfl) (hb hby dSR_114) (fun _ _ => ⟨rfl, e90, (by decide : 2 + 1 ≤ _), (by decide : 7 + 3 ≤ _)⟩)
        dsimp only [Pt.U, Pt.locs, Pt.cells, Pt.slots] at X96 l96 y96 z96 st96 hQ96
        subst l96 y96 z96
        obtain ⟨rfl, N96q, KS, ES, FcS, tS, kbS, gtS, ztS, ntS, FvS, AvS⟩ := hQ96
        have N96 := Fr.app N86 N96q
        have z97 : n0 ≤ T96.heap.size := Nat.le_trans z91 KS.1
        have K98 : Keep h0 T96.heap [] := K92.trans KS (allS (Or.inr hz_st) all0)
        have go96 : ∀ tgt, Steps p.tables e below (T96.setTop (mkF m 117 #[.val (.int pp), .val (.int v1), .val (.int v2), .val (.int v3), .val (.int v4), .val (.ref ca)] [(.ref st)])) tgt → Steps p.tables e below E0 tgt := fun tgt kont => go94 tgt (st96.trans kont)
        have ne_ca_tS : ca ≠ tS := Nat.ne_of_lt (Nat.lt_of_lt_of_le (Nat.lt_of_lt_of_le V69.lt (Nat.le_trans (Nat.le_trans (Nat.le_trans (Keep.of_wr W74).1 (Keep.of_wr W80).1) (Keep.of_wr W86).1) E90.1)) ztS)
        have lt_st_tS : st < tS := Nat.lt_of_lt_of_le A90.lt ztS
        obtain ⟨fs, hr, hrun, hended, hW⟩ := X96.leaveW hS0 (Nat.le_trans hk0 (Nat.le_trans (Nat.le_trans (Nat.le_trans (Nat.le_trans (Nat.le_trans E69.1 (Keep.of_wr W74).1) (Keep.of_wr W80).1) (Keep.of_wr W86).1) E90.1) KS.1)) (v := some (.ref st)) (fun h => by rw [Bd.returns] at h; cases h)
        refine ⟨_, _, go96 _ ?_, hrun, hended, _, _, rfl, ?_, hW.1, hW.2.1, hW.2.2.1, hW.2.2.2.mono (by decide) (by decide)⟩
        · show Steps p.tables e below (T96.setTop (mkF m 117 #[.val (.int pp), .val (.int v1), .val (.int v2), .val (.int v3), .val (.int v4), .val (.ref ca)] [(.ref st)])) _
          exact retOut X96 hx Bd.returns rfl (Or.inr (Or.inr (Or.inr (Or.inr ⟨rfl, rfl, rfl⟩)))) (hb hby dSR_117) hr
        · show QSR Z pp G h0 n0 _ T96.heap _ T96.vm
          exact ⟨st, rfl, N96, K98, ge_st, hz_st, ES, own_Jwarm (own_Jkeep hJ0 K98) X96.warmed⟩
theorem pd_5 : parseMethodDescriptor "()V" = some ⟨[], none⟩ := by decide +kernel
theorem pn_6 : plainName "com/example/fiddlehead/fiddlehead/check/Misordered" = true := by first | (simp [plainName, overriddenIn]; done) | decide +kernel
theorem dMI_0 : decode prog_14_method_1_code 0 = .ok (.aload_n 0, 1) := by decide +kernel
theorem dMI_1 : decode prog_14_method_1_code 1 = .ok (.invokespecial 1, 3) := by decide +kernel
theorem dMI_4 : decode prog_14_method_1_code 4 = .ok (.aload_n 0, 1) := by decide +kernel
theorem dMI_5 : decode prog_14_method_1_code 5 = .ok (.aload_n 1, 1) := by decide +kernel
theorem dMI_6 : decode prog_14_method_1_code 6 = .ok (.putfield 7, 3) := by decide +kernel
theorem dMI_9 : decode prog_14_method_1_code 9 = .ok (.aload_n 0, 1) := by decide +kernel
theorem dMI_10 : decode prog_14_method_1_code 10 = .ok (.iload_n 2, 1) := by decide +kernel
theorem dMI_11 : decode prog_14_method_1_code 11 = .ok (.putfield 13, 3) := by decide +kernel
theorem dMI_14 : decode prog_14_method_1_code 14 = .ok (.aload_n 0, 1) := by decide +kernel
theorem dMI_15 : decode prog_14_method_1_code 15 = .ok (.aload_n 3, 1) := by decide +kernel
theorem dMI_16 : decode prog_14_method_1_code 16 = .ok (.putfield 17, 3) := by decide +kernel
theorem dMI_19 : decode prog_14_method_1_code 19 = .ok (.aload_n 0, 1) := by decide +kernel
theorem dMI_20 : decode prog_14_method_1_code 20 = .ok (.aload 4, 2) := by decide +kernel
theorem dMI_22 : decode prog_14_method_1_code 22 = .ok (.putfield 20, 3) := by decide +kernel
theorem dMI_25 : decode prog_14_method_1_code 25 = .ok (.aload_n 0, 1) := by decide +kernel
theorem dMI_26 : decode prog_14_method_1_code 26 = .ok (.aload 5, 2) := by decide +kernel
theorem dMI_28 : decode prog_14_method_1_code 28 = .ok (.putfield 23, 3) := by decide +kernel
theorem dMI_31 : decode prog_14_method_1_code 31 = .ok (.return_, 1) := by decide +kernel
theorem ef_MI (m : MethodId) (x0 : Addr) (x1 : Addr) (x2 : Int32) (x3 : Addr) (x4 : Addr) (x5 : Addr) : entryFrame m #[(.ref x0), (.ref x1), (.int x2), (.ref x3), (.ref x4), (.ref x5)] 6 = mkF m 0 #[.val (.ref x0), .val (.ref x1), .val (.int x2), .val (.ref x3), .val (.ref x4), .val (.ref x5)] [] := by first | (simp [entryFrame, mkF, argsToLocals, Value.category, maxLocals]; done) | rfl
def QMI (Z : State) (a : Addr) (s1 : Addr) (i : Int32) (s2 : Addr) (s3 : Addr) (s4 : Addr) (h0 : Heap) (n0 : Nat) (v : Option Value) (h : Heap) (L : List Loc) : Prop := v = none ∧ Fr n0 L ∧ Keep h0 h [a] ∧ Exa Z h a "com/example/fiddlehead/fiddlehead/check/Misordered" ∧ Fld Z h a "com/example/fiddlehead/fiddlehead/check/Misordered" "path" "Ljava/lang/String;" (.ref s1) ∧ Fld Z h a "com/example/fiddlehead/fiddlehead/check/Misordered" "line" "I" (.int i) ∧ Fld Z h a "com/example/fiddlehead/fiddlehead/check/Misordered" "holder" "Ljava/lang/String;" (.ref s2) ∧ Fld Z h a "com/example/fiddlehead/fiddlehead/check/Misordered" "name" "Ljava/lang/String;" (.ref s3) ∧ Fld Z h a "com/example/fiddlehead/fiddlehead/check/Misordered" "sibling" "Ljava/lang/String;" (.ref s4)
set_option maxRecDepth 65536 in
set_option maxHeartbeats 40000000 in
theorem rmMI (l : Launch) (Z : State) (a0 : Array Value) (hw : ∀ d ∈ tables_1, d.before a0 Z = true) (ws : List Jvm.Cond) (a : Addr) (s1 : Addr) (i : Int32) (s2 : Addr) (s3 : Addr) (s4 : Addr) (h0 : Heap) (n0 : Nat) (Z0 : n0 ≤ h0.size) (Ea : Exa Z h0 a "com/example/fiddlehead/fiddlehead/check/Misordered") (ga : n0 ≤ a) (Fpath : Fld Z h0 a "com/example/fiddlehead/fiddlehead/check/Misordered" "path" "Ljava/lang/String;" .null) (Fline : Fld Z h0 a "com/example/fiddlehead/fiddlehead/check/Misordered" "line" "I" (.int (0 : Int32))) (Fholder : Fld Z h0 a "com/example/fiddlehead/fiddlehead/check/Misordered" "holder" "Ljava/lang/String;" .null) (Fname : Fld Z h0 a "com/example/fiddlehead/fiddlehead/check/Misordered" "name" "Ljava/lang/String;" .null) (Fsibling : Fld Z h0 a "com/example/fiddlehead/fiddlehead/check/Misordered" "sibling" "Ljava/lang/String;" .null) :
    MetFree l (⟨"com/example/fiddlehead/fiddlehead/check/Misordered", "<init>", "(Ljava/lang/String;ILjava/lang/String;Ljava/lang/String;Ljava/lang/String;)V"⟩ : MethodName) (head1 (Jvm.Cond.code (⟨"com/example/fiddlehead/fiddlehead/check/Misordered", "<init>", "(Ljava/lang/String;ILjava/lang/String;Ljava/lang/String;Ljava/lang/String;)V"⟩ : MethodName) prog_14_method_1_code 6 none :: ws) ({ frames := 2, cells := 0, slots := 0, locals := 24 } : Room)) (fun as_ U => as_ = #[(.ref a), (.ref s1), (.int i), (.ref s2), (.ref s3), (.ref s4)] ∧ Z.Warmed39 U.vm ∧ U.heap = h0) (fun _ _ _ _ _ => True) (fun _ U o U' => ∃ v L, o = .returned v ∧ QMI Z a s1 i s2 s3 s4 h0 n0 v U'.heap L ∧ FrameEnd U o U' L ({ frames := 2, cells := 0, slots := 0, locals := 24 } : Room).cells ({ frames := 2, cells := 0, slots := 0, locals := 24 } : Room).slots) := by
  refine MetFree.of_bodySF (plainFor_of_name pn_6) hisR ?_
  intro p e s m args below meth c s₁ Bd hml0 hP hK
  obtain ⟨rfl, hZ, hh⟩ := hP
  have hx := Bd.exec
  have hby := Bd.bytes
  have hml : c.maxLocals = 6 := hml0
  have hown : s.vm.findClass "com/example/fiddlehead/fiddlehead/check/Misordered" = some m.cls := findClass_of_methodNamed Bd.named
  have hnm := (name_of_methodNamed Bd.named Bd.method).1
  have X0 : Stand p l e ({ frames := 2, cells := 0, slots := 0, locals := 24 } : Room) s m #[(.ref a), (.ref s1), (.int i), (.ref s2), (.ref s3), (.ref s4)] below meth c s₁ [] 0 0 := Stand.of_body Bd
  have e0 : s₁.heap = h0 := by rw [← hh, Bd.state]; rfl
  have N0 := Fr.nil n0
  obtain ⟨E0, hE0⟩ : ∃ z, z = s₁.setTop (entryFrame m #[(.ref a), (.ref s1), (.int i), (.ref s2), (.ref s3), (.ref s4)] 6) := ⟨_, rfl⟩
  rw [← hE0]
  have go0 : ∀ tgt, Steps p.tables e below (s₁.setTop (mkF m 0 #[.val (.ref a), .val (.ref s1), .val (.int i), .val (.ref s2), .val (.ref s3), .val (.ref s4)] [])) tgt → Steps p.tables e below E0 tgt := fun tgt kont => by rw [hE0]; exact castTop (ef_MI m a s1 i s2 s3 s4) kont
  have go1 : ∀ tgt, Steps p.tables e below (s₁.setTop (mkF m 1 #[.val (.ref a), .val (.ref s1), .val (.int i), .val (.ref s2), .val (.ref s3), .val (.ref s4)] [(.ref a)])) tgt → Steps p.tables e below E0 tgt := fun tgt kont => go0 tgt (by
    show Steps p.tables e below (s₁.setTop (mkF m 0 #[.val (.ref a), .val (.ref s1), .val (.int i), .val (.ref s2), .val (.ref s3), .val (.ref s4)] [])) tgt
    refine XS.aloadN X0.here hx rfl (hb hby dMI_0) rfl rfl ?_
    exact kont)
  obtain ⟨_, _, ⟨T2, L2, k2, n2⟩, -, X2, ⟨Lc2, hQ2, l2, y2, z2⟩, st2⟩ := X0.specialBack hx (y := (⟨"java/lang/Record", "<init>", "()V"⟩ : MethodName)) rfl hown (mvT hZ (hw _ (List.mem_of_getElem? (i := 43) rfl))) (mvT hZ (hw _ (List.mem_of_getElem? (i := 44) rfl))) (mvT hZ (hw _ (List.mem_of_getElem? (i := 47) rfl))) (by decide) (backOf (W := 0) (rmRC l Z a0 hw [] a h0 n0 Z0 ) hZ (hw _ (List.mem_of_getElem? (i := 47) rfl)) (hw _ (List.mem_of_getElem? (i := 46) rfl)) (by decide) (by decide)) (g := (mkF m 1 #[.val (.ref a), .val (.ref s1), .val (.int i), .val (.ref s2), .val (.ref s3), .val (.ref s4)] [(.ref a)])) rfl (by rw [hml]; rfl) (Steps.refl _) (a := a) (argsL := []) (rest := []) (lenOf pd_5 rfl) rfl (by show 2 * 0 + _ ≤ _; exact Nat.le_of_eq rfl) (hb hby dMI_1) (fun _ _ => ⟨rfl, e0, (by decide : 0 + 0 ≤ _), (by decide : 0 + 0 ≤ _)⟩)
  dsimp only [Pt.U, Pt.locs, Pt.cells, Pt.slots] at X2 l2 y2 z2 st2 hQ2
  subst l2 y2 z2
  obtain ⟨rfl, N2q, e2⟩ := hQ2
  have N2 := Fr.app N0 N2q
  have go2 : ∀ tgt, Steps p.tables e below (T2.setTop (mkF m 4 #[.val (.ref a), .val (.ref s1), .val (.int i), .val (.ref s2), .val (.ref s3), .val (.ref s4)] [])) tgt → Steps p.tables e below E0 tgt := fun tgt kont => go1 tgt (st2.trans kont)
  have go3 : ∀ tgt, Steps p.tables e below (T2.setTop (mkF m 6 #[.val (.ref a), .val (.ref s1), .val (.int i), .val (.ref s2), .val (.ref s3), .val (.ref s4)] [(.ref s1), (.ref a)])) tgt → Steps p.tables e below E0 tgt := fun tgt kont => go2 tgt (by
    show Steps p.tables e below (T2.setTop (mkF m 4 #[.val (.ref a), .val (.ref s1), .val (.int i), .val (.ref s2), .val (.ref s3), .val (.ref s4)] [])) tgt
    refine XS.aloadN X2.here hx rfl (hb hby dMI_4) rfl rfl ?_
    show Steps p.tables e below (T2.setTop (mkF m 5 #[.val (.ref a), .val (.ref s1), .val (.int i), .val (.ref s2), .val (.ref s3), .val (.ref s4)] [(.ref a)])) tgt
    refine XS.aloadN X2.here hx rfl (hb hby dMI_5) rfl rfl ?_
    exact kont)
  obtain ⟨T4, h4, X4, e4, W4, st4⟩ := putF X2 hx hZ hown (host := "") (Or.inl (hw _ (List.mem_of_getElem? (i := 49) rfl))) Via.refl e2 Fpath Ea (Or.inr ⟨(hw _ (List.mem_of_getElem? (i := 50) rfl)), rfl, hnm⟩) (hw _ (List.mem_of_getElem? (i := 38) rfl)) (ty := (.object "java/lang/String")) (by decide) rfl rfl (g := (mkF m 6 #[.val (.ref a), .val (.ref s1), .val (.int i), .val (.ref s2), .val (.ref s3), .val (.ref s4)] [(.ref s1), (.ref a)])) rfl rfl (hb hby dMI_6)
  have z5 : n0 ≤ h4.size := Nat.le_trans Z0 (Keep.of_wr W4).1
  have K6 : Keep h0 h4 [a] := (Keep.refl h0 [a]).wr W4 (Or.inl (List.mem_of_getElem? (i := 0) rfl))
  have N4 := Fr.snoc X4 N2 ga
  have f7 : Fld Z h4 a "com/example/fiddlehead/fiddlehead/check/Misordered" "path" "Ljava/lang/String;" (.ref s1) := (Fpath.same W4)
  have go4 : ∀ tgt, Steps p.tables e below (T4.setTop (mkF m 9 #[.val (.ref a), .val (.ref s1), .val (.int i), .val (.ref s2), .val (.ref s3), .val (.ref s4)] [])) tgt → Steps p.tables e below E0 tgt := fun tgt kont => go3 tgt (st4 tgt kont)
  have go8 : ∀ tgt, Steps p.tables e below (T4.setTop (mkF m 11 #[.val (.ref a), .val (.ref s1), .val (.int i), .val (.ref s2), .val (.ref s3), .val (.ref s4)] [(.int i), (.ref a)])) tgt → Steps p.tables e below E0 tgt := fun tgt kont => go4 tgt (by
    show Steps p.tables e below (T4.setTop (mkF m 9 #[.val (.ref a), .val (.ref s1), .val (.int i), .val (.ref s2), .val (.ref s3), .val (.ref s4)] [])) tgt
    refine XS.aloadN X4.here hx rfl (hb hby dMI_9) rfl rfl ?_
    show Steps p.tables e below (T4.setTop (mkF m 10 #[.val (.ref a), .val (.ref s1), .val (.int i), .val (.ref s2), .val (.ref s3), .val (.ref s4)] [(.ref a)])) tgt
    refine XS.iloadN X4.here hx rfl (hb hby dMI_10) rfl ?_
    exact kont)
  have f9 : Fld Z h4 a "com/example/fiddlehead/fiddlehead/check/Misordered" "line" "I" (.int (0 : Int32)) := (Fline.other W4 (Or.inr (slot_ne (Or.inr (hw _ (List.mem_of_getElem? (i := 52) rfl))) (Or.inr (hw _ (List.mem_of_getElem? (i := 50) rfl))) (by decide) (t := .int) (t' := (.object "java/lang/String")) (by decide) (by decide))))
  have f10 : Exa Z h4 a "com/example/fiddlehead/fiddlehead/check/Misordered" := (Ea.wr W4)
  obtain ⟨T11, h11, X11, e11, W11, st11⟩ := putF X4 hx hZ hown (host := "") (Or.inl (hw _ (List.mem_of_getElem? (i := 51) rfl))) Via.refl e4 f9 f10 (Or.inr ⟨(hw _ (List.mem_of_getElem? (i := 52) rfl)), rfl, hnm⟩) (hw _ (List.mem_of_getElem? (i := 38) rfl)) (ty := .int) (by decide) rfl rfl (g := (mkF m 11 #[.val (.ref a), .val (.ref s1), .val (.int i), .val (.ref s2), .val (.ref s3), .val (.ref s4)] [(.int i), (.ref a)])) rfl rfl (hb hby dMI_11)
  have z12 : n0 ≤ h11.size := Nat.le_trans z5 (Keep.of_wr W11).1
  have K13 : Keep h0 h11 [a] := K6.wr W11 (Or.inl (List.mem_of_getElem? (i := 0) rfl))
  have N11 := Fr.snoc X11 N4 ga
  have f14 : Fld Z h11 a "com/example/fiddlehead/fiddlehead/check/Misordered" "line" "I" (.int i) := (f9.same W11)
  have go11 : ∀ tgt, Steps p.tables e below (T11.setTop (mkF m 14 #[.val (.ref a), .val (.ref s1), .val (.int i), .val (.ref s2), .val (.ref s3), .val (.ref s4)] [])) tgt → Steps p.tables e below E0 tgt := fun tgt kont => go8 tgt (st11 tgt kont)
  have go15 : ∀ tgt, Steps p.tables e below (T11.setTop (mkF m 16 #[.val (.ref a), .val (.ref s1), .val (.int i), .val (.ref s2), .val (.ref s3), .val (.ref s4)] [(.ref s2), (.ref a)])) tgt → Steps p.tables e below E0 tgt := fun tgt kont => go11 tgt (by
    show Steps p.tables e below (T11.setTop (mkF m 14 #[.val (.ref a), .val (.ref s1), .val (.int i), .val (.ref s2), .val (.ref s3), .val (.ref s4)] [])) tgt
    refine XS.aloadN X11.here hx rfl (hb hby dMI_14) rfl rfl ?_
    show Steps p.tables e below (T11.setTop (mkF m 15 #[.val (.ref a), .val (.ref s1), .val (.int i), .val (.ref s2), .val (.ref s3), .val (.ref s4)] [(.ref a)])) tgt
    refine XS.aloadN X11.here hx rfl (hb hby dMI_15) rfl rfl ?_
    exact kont)
  have f16 : Fld Z h11 a "com/example/fiddlehead/fiddlehead/check/Misordered" "holder" "Ljava/lang/String;" .null := ((Fholder.other W4 (Or.inr (slot_ne (Or.inr (hw _ (List.mem_of_getElem? (i := 54) rfl))) (Or.inr (hw _ (List.mem_of_getElem? (i := 50) rfl))) (by decide) (t := (.object "java/lang/String")) (t' := (.object "java/lang/String")) (by decide) (by decide)))).other W11 (Or.inr (slot_ne (Or.inr (hw _ (List.mem_of_getElem? (i := 54) rfl))) (Or.inr (hw _ (List.mem_of_getElem? (i := 52) rfl))) (by decide) (t := (.object "java/lang/String")) (t' := .int) (by decide) (by decide))))
  have f17 : Exa Z h11 a "com/example/fiddlehead/fiddlehead/check/Misordered" := (f10.wr W11)
  obtain ⟨T18, h18, X18, e18, W18, st18⟩ := putF X11 hx hZ hown (host := "") (Or.inl (hw _ (List.mem_of_getElem? (i := 53) rfl))) Via.refl e11 f16 f17 (Or.inr ⟨(hw _ (List.mem_of_getElem? (i := 54) rfl)), rfl, hnm⟩) (hw _ (List.mem_of_getElem? (i := 38) rfl)) (ty := (.object "java/lang/String")) (by decide) rfl rfl (g := (mkF m 16 #[.val (.ref a), .val (.ref s1), .val (.int i), .val (.ref s2), .val (.ref s3), .val (.ref s4)] [(.ref s2), (.ref a)])) rfl rfl (hb hby dMI_16)
  have z19 : n0 ≤ h18.size := Nat.le_trans z12 (Keep.of_wr W18).1
  have K20 : Keep h0 h18 [a] := K13.wr W18 (Or.inl (List.mem_of_getElem? (i := 0) rfl))
  have N18 := Fr.snoc X18 N11 ga
  have f21 : Fld Z h18 a "com/example/fiddlehead/fiddlehead/check/Misordered" "holder" "Ljava/lang/String;" (.ref s2) := (f16.same W18)
  have go18 : ∀ tgt, Steps p.tables e below (T18.setTop (mkF m 19 #[.val (.ref a), .val (.ref s1), .val (.int i), .val (.ref s2), .val (.ref s3), .val (.ref s4)] [])) tgt → Steps p.tables e below E0 tgt := fun tgt kont => go15 tgt (st18 tgt kont)
  have go22 : ∀ tgt, Steps p.tables e below (T18.setTop (mkF m 22 #[.val (.ref a), .val (.ref s1), .val (.int i), .val (.ref s2), .val (.ref s3), .val (.ref s4)] [(.ref s3), (.ref a)])) tgt → Steps p.tables e below E0 tgt := fun tgt kont => go18 tgt (by
    show Steps p.tables e below (T18.setTop (mkF m 19 #[.val (.ref a), .val (.ref s1), .val (.int i), .val (.ref s2), .val (.ref s3), .val (.ref s4)] [])) tgt
    refine XS.aloadN X18.here hx rfl (hb hby dMI_19) rfl rfl ?_
    show Steps p.tables e below (T18.setTop (mkF m 20 #[.val (.ref a), .val (.ref s1), .val (.int i), .val (.ref s2), .val (.ref s3), .val (.ref s4)] [(.ref a)])) tgt
    refine XS.aload X18.here hx rfl (hb hby dMI_20) rfl rfl ?_
    exact kont)
  have f23 : Fld Z h18 a "com/example/fiddlehead/fiddlehead/check/Misordered" "name" "Ljava/lang/String;" .null := (((Fname.other W4 (Or.inr (slot_ne (Or.inr (hw _ (List.mem_of_getElem? (i := 56) rfl))) (Or.inr (hw _ (List.mem_of_getElem? (i := 50) rfl))) (by decide) (t := (.object "java/lang/String")) (t' := (.object "java/lang/String")) (by decide) (by decide)))).other W11 (Or.inr (slot_ne (Or.inr (hw _ (List.mem_of_getElem? (i := 56) rfl))) (Or.inr (hw _ (List.mem_of_getElem? (i := 52) rfl))) (by decide) (t := (.object "java/lang/String")) (t' := .int) (by decide) (by decide)))).other W18 (Or.inr (slot_ne (Or.inr (hw _ (List.mem_of_getElem? (i := 56) rfl))) (Or.inr (hw _ (List.mem_of_getElem? (i := 54) rfl))) (by decide) (t := (.object "java/lang/String")) (t' := (.object "java/lang/String")) (by decide) (by decide))))
  have f24 : Exa Z h18 a "com/example/fiddlehead/fiddlehead/check/Misordered" := (f17.wr W18)
  obtain ⟨T25, h25, X25, e25, W25, st25⟩ := putF X18 hx hZ hown (host := "") (Or.inl (hw _ (List.mem_of_getElem? (i := 55) rfl))) Via.refl e18 f23 f24 (Or.inr ⟨(hw _ (List.mem_of_getElem? (i := 56) rfl)), rfl, hnm⟩) (hw _ (List.mem_of_getElem? (i := 38) rfl)) (ty := (.object "java/lang/String")) (by decide) rfl rfl (g := (mkF m 22 #[.val (.ref a), .val (.ref s1), .val (.int i), .val (.ref s2), .val (.ref s3), .val (.ref s4)] [(.ref s3), (.ref a)])) rfl rfl (hb hby dMI_22)
  have z26 : n0 ≤ h25.size := Nat.le_trans z19 (Keep.of_wr W25).1
  have K27 : Keep h0 h25 [a] := K20.wr W25 (Or.inl (List.mem_of_getElem? (i := 0) rfl))
  have N25 := Fr.snoc X25 N18 ga
  have f28 : Fld Z h25 a "com/example/fiddlehead/fiddlehead/check/Misordered" "name" "Ljava/lang/String;" (.ref s3) := (f23.same W25)
  have go25 : ∀ tgt, Steps p.tables e below (T25.setTop (mkF m 25 #[.val (.ref a), .val (.ref s1), .val (.int i), .val (.ref s2), .val (.ref s3), .val (.ref s4)] [])) tgt → Steps p.tables e below E0 tgt := fun tgt kont => go22 tgt (st25 tgt kont)
  have go29 : ∀ tgt, Steps p.tables e below (T25.setTop (mkF m 28 #[.val (.ref a), .val (.ref s1), .val (.int i), .val (.ref s2), .val (.ref s3), .val (.ref s4)] [(.ref s4), (.ref a)])) tgt → Steps p.tables e below E0 tgt := fun tgt kont => go25 tgt (by
    show Steps p.tables e below (T25.setTop (mkF m 25 #[.val (.ref a), .val (.ref s1), .val (.int i), .val (.ref s2), .val (.ref s3), .val (.ref s4)] [])) tgt
    refine XS.aloadN X25.here hx rfl (hb hby dMI_25) rfl rfl ?_
    show Steps p.tables e below (T25.setTop (mkF m 26 #[.val (.ref a), .val (.ref s1), .val (.int i), .val (.ref s2), .val (.ref s3), .val (.ref s4)] [(.ref a)])) tgt
    refine XS.aload X25.here hx rfl (hb hby dMI_26) rfl rfl ?_
    exact kont)
  have f30 : Fld Z h25 a "com/example/fiddlehead/fiddlehead/check/Misordered" "sibling" "Ljava/lang/String;" .null := ((((Fsibling.other W4 (Or.inr (slot_ne (Or.inr (hw _ (List.mem_of_getElem? (i := 58) rfl))) (Or.inr (hw _ (List.mem_of_getElem? (i := 50) rfl))) (by decide) (t := (.object "java/lang/String")) (t' := (.object "java/lang/String")) (by decide) (by decide)))).other W11 (Or.inr (slot_ne (Or.inr (hw _ (List.mem_of_getElem? (i := 58) rfl))) (Or.inr (hw _ (List.mem_of_getElem? (i := 52) rfl))) (by decide) (t := (.object "java/lang/String")) (t' := .int) (by decide) (by decide)))).other W18 (Or.inr (slot_ne (Or.inr (hw _ (List.mem_of_getElem? (i := 58) rfl))) (Or.inr (hw _ (List.mem_of_getElem? (i := 54) rfl))) (by decide) (t := (.object "java/lang/String")) (t' := (.object "java/lang/String")) (by decide) (by decide)))).other W25 (Or.inr (slot_ne (Or.inr (hw _ (List.mem_of_getElem? (i := 58) rfl))) (Or.inr (hw _ (List.mem_of_getElem? (i := 56) rfl))) (by decide) (t := (.object "java/lang/String")) (t' := (.object "java/lang/String")) (by decide) (by decide))))
  have f31 : Exa Z h25 a "com/example/fiddlehead/fiddlehead/check/Misordered" := (f24.wr W25)
  obtain ⟨T32, h32, X32, e32, W32, st32⟩ := putF X25 hx hZ hown (host := "") (Or.inl (hw _ (List.mem_of_getElem? (i := 57) rfl))) Via.refl e25 f30 f31 (Or.inr ⟨(hw _ (List.mem_of_getElem? (i := 58) rfl)), rfl, hnm⟩) (hw _ (List.mem_of_getElem? (i := 38) rfl)) (ty := (.object "java/lang/String")) (by decide) rfl rfl (g := (mkF m 28 #[.val (.ref a), .val (.ref s1), .val (.int i), .val (.ref s2), .val (.ref s3), .val (.ref s4)] [(.ref s4), (.ref a)])) rfl rfl (hb hby dMI_28)
  have z33 : n0 ≤ h32.size := Nat.le_trans z26 (Keep.of_wr W32).1
  have K34 : Keep h0 h32 [a] := K27.wr W32 (Or.inl (List.mem_of_getElem? (i := 0) rfl))
  have N32 := Fr.snoc X32 N25 ga
  have f35 : Fld Z h32 a "com/example/fiddlehead/fiddlehead/check/Misordered" "sibling" "Ljava/lang/String;" (.ref s4) := (f30.same W32)
  have go32 : ∀ tgt, Steps p.tables e below (T32.setTop (mkF m 31 #[.val (.ref a), .val (.ref s1), .val (.int i), .val (.ref s2), .val (.ref s3), .val (.ref s4)] [])) tgt → Steps p.tables e below E0 tgt := fun tgt kont => go29 tgt (st32 tgt kont)
  have f36 : Exa Z h32 a "com/example/fiddlehead/fiddlehead/check/Misordered" := (f31.wr W32)
  have f37 : Fld Z h32 a "com/example/fiddlehead/fiddlehead/check/Misordered" "path" "Ljava/lang/String;" (.ref s1) := ((((f7.other W11 (Or.inr (slot_ne (Or.inr (hw _ (List.mem_of_getElem? (i := 50) rfl))) (Or.inr (hw _ (List.mem_of_getElem? (i := 52) rfl))) (by decide) (t := (.object "java/lang/String")) (t' := .int) (by decide) (by decide)))).other W18 (Or.inr (slot_ne (Or.inr (hw _ (List.mem_of_getElem? (i := 50) rfl))) (Or.inr (hw _ (List.mem_of_getElem? (i := 54) rfl))) (by decide) (t := (.object "java/lang/String")) (t' := (.object "java/lang/String")) (by decide) (by decide)))).other W25 (Or.inr (slot_ne (Or.inr (hw _ (List.mem_of_getElem? (i := 50) rfl))) (Or.inr (hw _ (List.mem_of_getElem? (i := 56) rfl))) (by decide) (t := (.object "java/lang/String")) (t' := (.object "java/lang/String")) (by decide) (by decide)))).other W32 (Or.inr (slot_ne (Or.inr (hw _ (List.mem_of_getElem? (i := 50) rfl))) (Or.inr (hw _ (List.mem_of_getElem? (i := 58) rfl))) (by decide) (t := (.object "java/lang/String")) (t' := (.object "java/lang/String")) (by decide) (by decide))))
  have f38 : Fld Z h32 a "com/example/fiddlehead/fiddlehead/check/Misordered" "line" "I" (.int i) := (((f14.other W18 (Or.inr (slot_ne (Or.inr (hw _ (List.mem_of_getElem? (i := 52) rfl))) (Or.inr (hw _ (List.mem_of_getElem? (i := 54) rfl))) (by decide) (t := .int) (t' := (.object "java/lang/String")) (by decide) (by decide)))).other W25 (Or.inr (slot_ne (Or.inr (hw _ (List.mem_of_getElem? (i := 52) rfl))) (Or.inr (hw _ (List.mem_of_getElem? (i := 56) rfl))) (by decide) (t := .int) (t' := (.object "java/lang/String")) (by decide) (by decide)))).other W32 (Or.inr (slot_ne (Or.inr (hw _ (List.mem_of_getElem? (i := 52) rfl))) (Or.inr (hw _ (List.mem_of_getElem? (i := 58) rfl))) (by decide) (t := .int) (t' := (.object "java/lang/String")) (by decide) (by decide))))
  have f39 : Fld Z h32 a "com/example/fiddlehead/fiddlehead/check/Misordered" "holder" "Ljava/lang/String;" (.ref s2) := ((f21.other W25 (Or.inr (slot_ne (Or.inr (hw _ (List.mem_of_getElem? (i := 54) rfl))) (Or.inr (hw _ (List.mem_of_getElem? (i := 56) rfl))) (by decide) (t := (.object "java/lang/String")) (t' := (.object "java/lang/String")) (by decide) (by decide)))).other W32 (Or.inr (slot_ne (Or.inr (hw _ (List.mem_of_getElem? (i := 54) rfl))) (Or.inr (hw _ (List.mem_of_getElem? (i := 58) rfl))) (by decide) (t := (.object "java/lang/String")) (t' := (.object "java/lang/String")) (by decide) (by decide))))
  have f40 : Fld Z h32 a "com/example/fiddlehead/fiddlehead/check/Misordered" "name" "Ljava/lang/String;" (.ref s3) := (f28.other W32 (Or.inr (slot_ne (Or.inr (hw _ (List.mem_of_getElem? (i := 56) rfl))) (Or.inr (hw _ (List.mem_of_getElem? (i := 58) rfl))) (by decide) (t := (.object "java/lang/String")) (t' := (.object "java/lang/String")) (by decide) (by decide))))
  obtain ⟨fs, hr, hrun, hended, hW, hsame⟩ := X32.leave (v := none) (fun _ => rfl)
  refine ⟨_, _, go32 _ ?_, hrun, hended, _, _, rfl, ?_, ⟨_, rfl⟩, hW, hsame.mono (by decide) (by decide)⟩
  · show Steps p.tables e below (T32.setTop (mkF m 31 #[.val (.ref a), .val (.ref s1), .val (.int i), .val (.ref s2), .val (.ref s3), .val (.ref s4)] [])) _
    exact X32.returnOut hx Bd.returns (hb hby dMI_31) hr
  · show QMI Z a s1 i s2 s3 s4 h0 n0 _ T32.heap _
    rw [e32]
    exact ⟨rfl, N32, K34, f36, f37, f38, f39, f40, f35⟩
theorem pd_7 : parseMethodDescriptor "(Ljava/lang/String;ILjava/lang/String;Ljava/lang/String;Ljava/lang/String;)V" = some ⟨[(.object "java/lang/String"), .int, (.object "java/lang/String"), (.object "java/lang/String"), (.object "java/lang/String")], none⟩ := by decide +kernel
theorem dWP_0 : decode prog_14_method_2_code 0 = .ok (.new 8, 3) := by decide +kernel
theorem dWP_3 : decode prog_14_method_2_code 3 = .ok (.dup, 1) := by decide +kernel
theorem dWP_4 : decode prog_14_method_2_code 4 = .ok (.aload_n 1, 1) := by decide +kernel
theorem dWP_5 : decode prog_14_method_2_code 5 = .ok (.aload_n 0, 1) := by decide +kernel
theorem dWP_6 : decode prog_14_method_2_code 6 = .ok (.getfield 13, 3) := by decide +kernel
theorem dWP_9 : decode prog_14_method_2_code 9 = .ok (.aload_n 0, 1) := by decide +kernel
theorem dWP_10 : decode prog_14_method_2_code 10 = .ok (.getfield 17, 3) := by decide +kernel
theorem dWP_13 : decode prog_14_method_2_code 13 = .ok (.aload_n 0, 1) := by decide +kernel
theorem dWP_14 : decode prog_14_method_2_code 14 = .ok (.getfield 20, 3) := by decide +kernel
theorem dWP_17 : decode prog_14_method_2_code 17 = .ok (.aload_n 0, 1) := by decide +kernel
theorem dWP_18 : decode prog_14_method_2_code 18 = .ok (.getfield 23, 3) := by decide +kernel
theorem dWP_21 : decode prog_14_method_2_code 21 = .ok (.invokespecial 26, 3) := by decide +kernel
theorem dWP_24 : decode prog_14_method_2_code 24 = .ok (.areturn, 1) := by decide +kernel
theorem ef_WP (m : MethodId) (x0 : Addr) (x1 : Addr) : entryFrame m #[(.ref x0), (.ref x1)] 2 = mkF m 0 #[.val (.ref x0), .val (.ref x1)] [] := by first | (simp [entryFrame, mkF, argsToLocals, Value.category, maxLocals]; done) | rfl
def QWP (Z : State) (a : Addr) (s0 : Addr) (s1 : Addr) (i : Int32) (s2 : Addr) (s3 : Addr) (s4 : Addr) (h0 : Heap) (n0 : Nat) (v : Option Value) (h : Heap) (L : List Loc) : Prop := v = some (.ref h0.size) ∧ Fr n0 L ∧ Keep h0 h [] ∧ Exa Z h h0.size "com/example/fiddlehead/fiddlehead/check/Misordered" ∧ Fld Z h h0.size "com/example/fiddlehead/fiddlehead/check/Misordered" "path" "Ljava/lang/String;" (.ref s0) ∧ Fld Z h h0.size "com/example/fiddlehead/fiddlehead/check/Misordered" "line" "I" (.int i) ∧ Fld Z h h0.size "com/example/fiddlehead/fiddlehead/check/Misordered" "holder" "Ljava/lang/String;" (.ref s2) ∧ Fld Z h h0.size "com/example/fiddlehead/fiddlehead/check/Misordered" "name" "Ljava/lang/String;" (.ref s3) ∧ Fld Z h h0.size "com/example/fiddlehead/fiddlehead/check/Misordered" "sibling" "Ljava/lang/String;" (.ref s4)
set_option maxRecDepth 65536 in
set_option maxHeartbeats 40000000 in
theorem rmWP (l : Launch) (Z : State) (a0 : Array Value) (hw : ∀ d ∈ tables_1, d.before a0 Z = true) (ws : List Jvm.Cond) (a : Addr) (s0 : Addr) (s1 : Addr) (i : Int32) (s2 : Addr) (s3 : Addr) (s4 : Addr) (h0 : Heap) (n0 : Nat) (Z0 : n0 ≤ h0.size) (Ea : Exa Z h0 a "com/example/fiddlehead/fiddlehead/check/Misordered") (Fpath : Fld Z h0 a "com/example/fiddlehead/fiddlehead/check/Misordered" "path" "Ljava/lang/String;" (.ref s1)) (Fline : Fld Z h0 a "com/example/fiddlehead/fiddlehead/check/Misordered" "line" "I" (.int i)) (Fholder : Fld Z h0 a "com/example/fiddlehead/fiddlehead/check/Misordered" "holder" "Ljava/lang/String;" (.ref s2)) (Fname : Fld Z h0 a "com/example/fiddlehead/fiddlehead/check/Misordered" "name" "Ljava/lang/String;" (.ref s3)) (Fsibling : Fld Z h0 a "com/example/fiddlehead/fiddlehead/check/Misordered" "sibling" "Ljava/lang/String;" (.ref s4)) :
    MetFree l (⟨"com/example/fiddlehead/fiddlehead/check/Misordered", "withPath", "(Ljava/lang/String;)Lcom/example/fiddlehead/fiddlehead/check/Misordered;"⟩ : MethodName) (head1 (Jvm.Cond.code (⟨"com/example/fiddlehead/fiddlehead/check/Misordered", "withPath", "(Ljava/lang/String;)Lcom/example/fiddlehead/fiddlehead/check/Misordered;"⟩ : MethodName) prog_14_method_2_code 2 (some (.object "com/example/fiddlehead/fiddlehead/check/Misordered")) :: ws) ({ frames := 3, cells := 1, slots := 5, locals := 42 } : Room)) (fun as_ U => as_ = #[(.ref a), (.ref s0)] ∧ Z.Warmed39 U.vm ∧ U.heap = h0) (fun _ _ _ _ _ => True) (fun _ U o U' => ∃ v L, o = .returned v ∧ QWP Z a s0 s1 i s2 s3 s4 h0 n0 v U'.heap L ∧ FrameEnd U o U' L ({ frames := 3, cells := 1, slots := 5, locals := 42 } : Room).cells ({ frames := 3, cells := 1, slots := 5, locals := 42 } : Room).slots) := by
  refine MetFree.of_bodySF (plainFor_of_name pn_6) hisR ?_
  intro p e s m args below meth c s₁ Bd hml0 hP hK
  obtain ⟨rfl, hZ, hh⟩ := hP
  have hx := Bd.exec
  have hby := Bd.bytes
  have hml : c.maxLocals = 2 := hml0
  have hown : s.vm.findClass "com/example/fiddlehead/fiddlehead/check/Misordered" = some m.cls := findClass_of_methodNamed Bd.named
  have hnm := (name_of_methodNamed Bd.named Bd.method).1
  have X0 : Stand p l e ({ frames := 3, cells := 1, slots := 5, locals := 42 } : Room) s m #[(.ref a), (.ref s0)] below meth c s₁ [] 0 0 := Stand.of_body Bd
  have e0 : s₁.heap = h0 := by rw [← hh, Bd.state]; rfl
  have N0 := Fr.nil n0
  obtain ⟨E0, hE0⟩ : ∃ z, z = s₁.setTop (entryFrame m #[(.ref a), (.ref s0)] 2) := ⟨_, rfl⟩
  rw [← hE0]
  have go0 : ∀ tgt, Steps p.tables e below (s₁.setTop (mkF m 0 #[.val (.ref a), .val (.ref s0)] [])) tgt → Steps p.tables e below E0 tgt := fun tgt kont => by rw [hE0]; exact castTop (ef_WP m a s0) kont
  obtain ⟨T1, h1, X1, e1, E1, A1, D1, -, st1⟩ := newO X0 hx hZ hown (hw _ (List.mem_of_getElem? (i := 64) rfl)) (hw _ (List.mem_of_getElem? (i := 38) rfl)) (hw _ (List.mem_of_getElem? (i := 39) rfl)) e0 (g := (mkF m 0 #[.val (.ref a), .val (.ref s0)] [])) rfl (hb hby dWP_0) (by decide) (by decide)
  obtain ⟨r, g1⟩ : ∃ z, z = h0.size := ⟨_, rfl⟩
  rw [← g1] at A1 D1 st1
  have ne_a_r : a ≠ r := Nat.ne_of_lt (Nat.lt_of_lt_of_le Ea.lt (Nat.le_of_eq g1.symm))
  have ge_r : n0 ≤ r := Nat.le_trans Z0 (Nat.le_of_eq g1.symm)
  have hz_r : h0.size ≤ r := Nat.le_trans (Keep.refl h0 []).1 (Nat.le_of_eq g1.symm)
  have z2 : n0 ≤ h1.size := Nat.le_trans Z0 E1.1
  have K3 : Keep h0 h1 [] := (Keep.refl h0 []).ext E1
  have Fpath_r : Fld Z h1 r "com/example/fiddlehead/fiddlehead/check/Misordered" "path" "Ljava/lang/String;" .null := D1 (Or.inr (hw _ (List.mem_of_getElem? (i := 50) rfl))) (ty := (.object "java/lang/String")) (by decide)
  have Fline_r : Fld Z h1 r "com/example/fiddlehead/fiddlehead/check/Misordered" "line" "I" (.int (0 : Int32)) := D1 (Or.inr (hw _ (List.mem_of_getElem? (i := 52) rfl))) (ty := .int) (by decide)
  have Fholder_r : Fld Z h1 r "com/example/fiddlehead/fiddlehead/check/Misordered" "holder" "Ljava/lang/String;" .null := D1 (Or.inr (hw _ (List.mem_of_getElem? (i := 54) rfl))) (ty := (.object "java/lang/String")) (by decide)
  have Fname_r : Fld Z h1 r "com/example/fiddlehead/fiddlehead/check/Misordered" "name" "Ljava/lang/String;" .null := D1 (Or.inr (hw _ (List.mem_of_getElem? (i := 56) rfl))) (ty := (.object "java/lang/String")) (by decide)
  have Fsibling_r : Fld Z h1 r "com/example/fiddlehead/fiddlehead/check/Misordered" "sibling" "Ljava/lang/String;" .null := D1 (Or.inr (hw _ (List.mem_of_getElem? (i := 58) rfl))) (ty := (.object "java/lang/String")) (by decide)
  have go1 : ∀ tgt, Steps p.tables e below (T1.setTop (mkF m 3 #[.val (.ref a), .val (.ref s0)] [(.ref r)])) tgt → Steps p.tables e below E0 tgt := fun tgt kont => go0 tgt (st1 tgt kont)
  have go4 : ∀ tgt, Steps p.tables e below (T1.setTop (mkF m 6 #[.val (.ref a), .val (.ref s0)] [(.ref a), (.ref s0), (.ref r), (.ref r)])) tgt → Steps p.tables e below E0 tgt := fun tgt kont => go1 tgt (by
    show Steps p.tables e below (T1.setTop (mkF m 3 #[.val (.ref a), .val (.ref s0)] [(.ref r)])) tgt
    refine XS.dup X1.here hx rfl (hb hby dWP_3) rfl rfl ?_
    show Steps p.tables e below (T1.setTop (mkF m 4 #[.val (.ref a), .val (.ref s0)] [(.ref r), (.ref r)])) tgt
    refine XS.aloadN X1.here hx rfl (hb hby dWP_4) rfl rfl ?_
    show Steps p.tables e below (T1.setTop (mkF m 5 #[.val (.ref a), .val (.ref s0)] [(.ref s0), (.ref r), (.ref r)])) tgt
    refine XS.aloadN X1.here hx rfl (hb hby dWP_5) rfl rfl ?_
    exact kont)
  have f5 : Fld Z h1 a "com/example/fiddlehead/fiddlehead/check/Misordered" "line" "I" (.int i) := (Fline.ext E1)
  obtain ⟨T6, X6, e6, st6⟩ := getF X1 hx hZ hown (host := "") (Or.inl (hw _ (List.mem_of_getElem? (i := 51) rfl))) Via.refl e1 f5 (g := (mkF m 6 #[.val (.ref a), .val (.ref s0)] [(.ref a), (.ref s0), (.ref r), (.ref r)])) rfl rfl (hb hby dWP_6)
  have go6 : ∀ tgt, Steps p.tables e below (T6.setTop (mkF m 9 #[.val (.ref a), .val (.ref s0)] [(.int i), (.ref s0), (.ref r), (.ref r)])) tgt → Steps p.tables e below E0 tgt := fun tgt kont => go4 tgt (st6 tgt kont)
  have go7 : ∀ tgt, Steps p.tables e below (T6.setTop (mkF m 10 #[.val (.ref a), .val (.ref s0)] [(.ref a), (.int i), (.ref s0), (.ref r), (.ref r)])) tgt → Steps p.tables e below E0 tgt := fun tgt kont => go6 tgt (by
    show Steps p.tables e below (T6.setTop (mkF m 9 #[.val (.ref a), .val (.ref s0)] [(.int i), (.ref s0), (.ref r), (.ref r)])) tgt
    refine XS.aloadN X6.here hx rfl (hb hby dWP_9) rfl rfl ?_
    exact kont)
  have f8 : Fld Z h1 a "com/example/fiddlehead/fiddlehead/check/Misordered" "holder" "Ljava/lang/String;" (.ref s2) := (Fholder.ext E1)
  obtain ⟨T9, X9, e9, st9⟩ := getF X6 hx hZ hown (host := "") (Or.inl (hw _ (List.mem_of_getElem? (i := 53) rfl))) Via.refl e6 f8 (g := (mkF m 10 #[.val (.ref a), .val (.ref s0)] [(.ref a), (.int i), (.ref s0), (.ref r), (.ref r)])) rfl rfl (hb hby dWP_10)
  have go9 : ∀ tgt, Steps p.tables e below (T9.setTop (mkF m 13 #[.val (.ref a), .val (.ref s0)] [(.ref s2), (.int i), (.ref s0), (.ref r), (.ref r)])) tgt → Steps p.tables e below E0 tgt := fun tgt kont => go7 tgt (st9 tgt kont)
  have go10 : ∀ tgt, Steps p.tables e below (T9.setTop (mkF m 14 #[.val (.ref a), .val (.ref s0)] [(.ref a), (.ref s2), (.int i), (.ref s0), (.ref r), (.ref r)])) tgt → Steps p.tables e below E0 tgt := fun tgt kont => go9 tgt (by
    show Steps p.tables e below (T9.setTop (mkF m 13 #[.val (.ref a), .val (.ref s0)] [(.ref s2), (.int i), (.ref s0), (.ref r), (.ref r)])) tgt
    refine XS.aloadN X9.here hx rfl (hb hby dWP_13) rfl rfl ?_
    exact kont)
  have f11 : Fld Z h1 a "com/example/fiddlehead/fiddlehead/check/Misordered" "name" "Ljava/lang/String;" (.ref s3) := (Fname.ext E1)
  obtain ⟨T12, X12, e12, st12⟩ := getF X9 hx hZ hown (host := "") (Or.inl (hw _ (List.mem_of_getElem? (i := 55) rfl))) Via.refl e9 f11 (g := (mkF m 14 #[.val (.ref a), .val (.ref s0)] [(.ref a), (.ref s2), (.int i), (.ref s0), (.ref r), (.ref r)])) rfl rfl (hb hby dWP_14)
  have go12 : ∀ tgt, Steps p.tables e below (T12.setTop (mkF m 17 #[.val (.ref a), .val (.ref s0)] [(.ref s3), (.ref s2), (.int i), (.ref s0), (.ref r), (.ref r)])) tgt → Steps p.tables e below E0 tgt := fun tgt kont => go10 tgt (st12 tgt kont)
  have go13 : ∀ tgt, Steps p.tables e below (T12.setTop (mkF m 18 #[.val (.ref a), .val (.ref s0)] [(.ref a), (.ref s3), (.ref s2), (.int i), (.ref s0), (.ref r), (.ref r)])) tgt → Steps p.tables e below E0 tgt := fun tgt kont => go12 tgt (by
    show Steps p.tables e below (T12.setTop (mkF m 17 #[.val (.ref a), .val (.ref s0)] [(.ref s3), (.ref s2), (.int i), (.ref s0), (.ref r), (.ref r)])) tgt
    refine XS.aloadN X12.here hx rfl (hb hby dWP_17) rfl rfl ?_
    exact kont)
  have f14 : Fld Z h1 a "com/example/fiddlehead/fiddlehead/check/Misordered" "sibling" "Ljava/lang/String;" (.ref s4) := (Fsibling.ext E1)
  obtain ⟨T15, X15, e15, st15⟩ := getF X12 hx hZ hown (host := "") (Or.inl (hw _ (List.mem_of_getElem? (i := 57) rfl))) Via.refl e12 f14 (g := (mkF m 18 #[.val (.ref a), .val (.ref s0)] [(.ref a), (.ref s3), (.ref s2), (.int i), (.ref s0), (.ref r), (.ref r)])) rfl rfl (hb hby dWP_18)
  have go15 : ∀ tgt, Steps p.tables e below (T15.setTop (mkF m 21 #[.val (.ref a), .val (.ref s0)] [(.ref s4), (.ref s3), (.ref s2), (.int i), (.ref s0), (.ref r), (.ref r)])) tgt → Steps p.tables e below E0 tgt := fun tgt kont => go13 tgt (st15 tgt kont)
  obtain ⟨_, _, ⟨T16, L16, k16, n16⟩, -, X16, ⟨Lc16, hQ16, l16, y16, z16⟩, st16⟩ := X15.specialBack hx (y := (⟨"com/example/fiddlehead/fiddlehead/check/Misordered", "<init>", "(Ljava/lang/String;ILjava/lang/String;Ljava/lang/String;Ljava/lang/String;)V"⟩ : MethodName)) rfl hown (mvT hZ (hw _ (List.mem_of_getElem? (i := 65) rfl))) (mvT hZ (hw _ (List.mem_of_getElem? (i := 41) rfl))) (mvT hZ (hw _ (List.mem_of_getElem? (i := 42) rfl))) (by decide) (backOf (W := 1) (rmMI l Z a0 hw [] r s0 i s2 s3 s4 h1 n0 z2 A1 ge_r Fpath_r Fline_r Fholder_r Fname_r Fsibling_r) hZ (hw _ (List.mem_of_getElem? (i := 42) rfl)) (hw _ (List.mem_of_getElem? (i := 39) rfl)) (by decide) (by decide)) (g := (mkF m 21 #[.val (.ref a), .val (.ref s0)] [(.ref s4), (.ref s3), (.ref s2), (.int i), (.ref s0), (.ref r), (.ref r)])) rfl (by rw [hml]; rfl) (Steps.refl _) (a := r) (argsL := [(.ref s0), (.int i), (.ref s2), (.ref s3), (.ref s4)]) (rest := [(.ref r)]) (lenOf pd_7 rfl) rfl (by show 2 * 0 + _ ≤ _; exact Nat.le_of_eq rfl) (hb hby dWP_21) (fun _ _ => ⟨rfl, e15, (by decide : 1 + 0 ≤ _), (by decide : 5 + 0 ≤ _)⟩)
  dsimp only [Pt.U, Pt.locs, Pt.cells, Pt.slots] at X16 l16 y16 z16 st16 hQ16
  subst l16 y16 z16
  obtain ⟨rfl, N16q, KI, EI, FI0, FI1, FI2, FI3, FI4⟩ := hQ16
  have N16 := Fr.app N0 N16q
  have z17 : n0 ≤ T16.heap.size := Nat.le_trans z2 KI.1
  have K18 : Keep h0 T16.heap [] := K3.trans KI (allS (Or.inr hz_r) all0)
  have go16 : ∀ tgt, Steps p.tables e below (T16.setTop (mkF m 24 #[.val (.ref a), .val (.ref s0)] [(.ref r)])) tgt → Steps p.tables e below E0 tgt := fun tgt kont => go15 tgt (st16.trans kont)
  subst g1
  obtain ⟨fs, hr, hrun, hended, hW, hsame⟩ := X16.leave (v := some (.ref h0.size)) (fun h => by rw [Bd.returns] at h; cases h)
  refine ⟨_, _, go16 _ ?_, hrun, hended, _, _, rfl, ?_, ⟨_, rfl⟩, hW, hsame.mono (by decide) (by decide)⟩
  · show Steps p.tables e below (T16.setTop (mkF m 24 #[.val (.ref a), .val (.ref s0)] [(.ref h0.size)])) _
    exact retOut X16 hx Bd.returns rfl (Or.inr (Or.inr (Or.inr (Or.inr ⟨rfl, rfl, rfl⟩)))) (hb hby dWP_24) hr
  · show QWP Z a s0 s1 i s2 s3 s4 h0 n0 _ T16.heap _
    exact ⟨rfl, N16, K18, EI, FI0, FI1, FI2, FI3, FI4⟩
theorem dGP_0 : decode prog_14_method_6_code 0 = .ok (.aload_n 0, 1) := by decide +kernel
theorem dGP_1 : decode prog_14_method_6_code 1 = .ok (.getfield 7, 3) := by decide +kernel
theorem dGP_4 : decode prog_14_method_6_code 4 = .ok (.areturn, 1) := by decide +kernel
theorem ef_GP (m : MethodId) (x0 : Addr) : entryFrame m #[(.ref x0)] 1 = mkF m 0 #[.val (.ref x0)] [] := by first | (simp [entryFrame, mkF, argsToLocals, Value.category, maxLocals]; done) | rfl
def QGP (Z : State) (a : Addr) (q : Addr) (h0 : Heap) (n0 : Nat) (v : Option Value) (h : Heap) (L : List Loc) : Prop := v = some (.ref q) ∧ Fr n0 L ∧ h = h0
set_option maxRecDepth 65536 in
set_option maxHeartbeats 40000000 in
theorem rmGP (l : Launch) (Z : State) (a0 : Array Value) (hw : ∀ d ∈ tables_1, d.before a0 Z = true) (ws : List Jvm.Cond) (a : Addr) (q : Addr) (h0 : Heap) (n0 : Nat) (Z0 : n0 ≤ h0.size) (Fq : Fld Z h0 a "com/example/fiddlehead/fiddlehead/check/Misordered" "path" "Ljava/lang/String;" (.ref q)) :
    MetFree l (⟨"com/example/fiddlehead/fiddlehead/check/Misordered", "path", "()Ljava/lang/String;"⟩ : MethodName) (head1 (Jvm.Cond.code (⟨"com/example/fiddlehead/fiddlehead/check/Misordered", "path", "()Ljava/lang/String;"⟩ : MethodName) prog_14_method_6_code 1 (some (.object "java/lang/String")) :: ws) ({ frames := 0, cells := 0, slots := 0, locals := 0 } : Room)) (fun as_ U => as_ = #[(.ref a)] ∧ Z.Warmed39 U.vm ∧ U.heap = h0) (fun _ _ _ _ _ => True) (fun _ U o U' => ∃ v L, o = .returned v ∧ QGP Z a q h0 n0 v U'.heap L ∧ FrameEnd U o U' L ({ frames := 0, cells := 0, slots := 0, locals := 0 } : Room).cells ({ frames := 0, cells := 0, slots := 0, locals := 0 } : Room).slots) := by
  refine MetFree.of_bodySF (plainFor_of_name pn_6) hisR ?_
  intro p e s m args below meth c s₁ Bd hml0 hP hK
  obtain ⟨rfl, hZ, hh⟩ := hP
  have hx := Bd.exec
  have hby := Bd.bytes
  have hml : c.maxLocals = 1 := hml0
  have hown : s.vm.findClass "com/example/fiddlehead/fiddlehead/check/Misordered" = some m.cls := findClass_of_methodNamed Bd.named
  have hnm := (name_of_methodNamed Bd.named Bd.method).1
  have X0 : Stand p l e ({ frames := 0, cells := 0, slots := 0, locals := 0 } : Room) s m #[(.ref a)] below meth c s₁ [] 0 0 := Stand.of_body Bd
  have e0 : s₁.heap = h0 := by rw [← hh, Bd.state]; rfl
  have N0 := Fr.nil n0
  obtain ⟨E0, hE0⟩ : ∃ z, z = s₁.setTop (entryFrame m #[(.ref a)] 1) := ⟨_, rfl⟩
  rw [← hE0]
  have go0 : ∀ tgt, Steps p.tables e below (s₁.setTop (mkF m 0 #[.val (.ref a)] [])) tgt → Steps p.tables e below E0 tgt := fun tgt kont => by rw [hE0]; exact castTop (ef_GP m a) kont
  have go1 : ∀ tgt, Steps p.tables e below (s₁.setTop (mkF m 1 #[.val (.ref a)] [(.ref a)])) tgt → Steps p.tables e below E0 tgt := fun tgt kont => go0 tgt (by
    show Steps p.tables e below (s₁.setTop (mkF m 0 #[.val (.ref a)] [])) tgt
    refine XS.aloadN X0.here hx rfl (hb hby dGP_0) rfl rfl ?_
    exact kont)
  obtain ⟨T2, X2, e2, st2⟩ := getF X0 hx hZ hown (host := "") (Or.inl (hw _ (List.mem_of_getElem? (i := 49) rfl))) Via.refl e0 Fq (g := (mkF m 1 #[.val (.ref a)] [(.ref a)])) rfl rfl (hb hby dGP_1)
  have go2 : ∀ tgt, Steps p.tables e below (T2.setTop (mkF m 4 #[.val (.ref a)] [(.ref q)])) tgt → Steps p.tables e below E0 tgt := fun tgt kont => go1 tgt (st2 tgt kont)
  obtain ⟨fs, hr, hrun, hended, hW, hsame⟩ := X2.leave (v := some (.ref q)) (fun h => by rw [Bd.returns] at h; cases h)
  refine ⟨_, _, go2 _ ?_, hrun, hended, _, _, rfl, ?_, ⟨_, rfl⟩, hW, hsame.mono (by decide) (by decide)⟩
  · show Steps p.tables e below (T2.setTop (mkF m 4 #[.val (.ref a)] [(.ref q)])) _
    exact retOut X2 hx Bd.returns rfl (Or.inr (Or.inr (Or.inr (Or.inr ⟨rfl, rfl, rfl⟩)))) (hb hby dGP_4) hr
  · show QGP Z a q h0 n0 _ T2.heap _
    rw [e2]
    exact ⟨rfl, N0, rfl⟩
theorem dGL_0 : decode prog_14_method_7_code 0 = .ok (.aload_n 0, 1) := by decide +kernel
theorem dGL_1 : decode prog_14_method_7_code 1 = .ok (.getfield 13, 3) := by decide +kernel
theorem dGL_4 : decode prog_14_method_7_code 4 = .ok (.ireturn, 1) := by decide +kernel
theorem ef_GL (m : MethodId) (x0 : Addr) : entryFrame m #[(.ref x0)] 1 = mkF m 0 #[.val (.ref x0)] [] := by first | (simp [entryFrame, mkF, argsToLocals, Value.category, maxLocals]; done) | rfl
def QGL (Z : State) (a : Addr) (q : Int32) (h0 : Heap) (n0 : Nat) (v : Option Value) (h : Heap) (L : List Loc) : Prop := v = some (.int q) ∧ Fr n0 L ∧ h = h0
set_option maxRecDepth 65536 in
set_option maxHeartbeats 40000000 in
theorem rmGL (l : Launch) (Z : State) (a0 : Array Value) (hw : ∀ d ∈ tables_1, d.before a0 Z = true) (ws : List Jvm.Cond) (a : Addr) (q : Int32) (h0 : Heap) (n0 : Nat) (Z0 : n0 ≤ h0.size) (Fq : Fld Z h0 a "com/example/fiddlehead/fiddlehead/check/Misordered" "line" "I" (.int q)) :
    MetFree l (⟨"com/example/fiddlehead/fiddlehead/check/Misordered", "line", "()I"⟩ : MethodName) (head1 (Jvm.Cond.code (⟨"com/example/fiddlehead/fiddlehead/check/Misordered", "line", "()I"⟩ : MethodName) prog_14_method_7_code 1 (some .int) :: ws) ({ frames := 0, cells := 0, slots := 0, locals := 0 } : Room)) (fun as_ U => as_ = #[(.ref a)] ∧ Z.Warmed39 U.vm ∧ U.heap = h0) (fun _ _ _ _ _ => True) (fun _ U o U' => ∃ v L, o = .returned v ∧ QGL Z a q h0 n0 v U'.heap L ∧ FrameEnd U o U' L ({ frames := 0, cells := 0, slots := 0, locals := 0 } : Room).cells ({ frames := 0, cells := 0, slots := 0, locals := 0 } : Room).slots) := by
  refine MetFree.of_bodySF (plainFor_of_name pn_6) hisR ?_
  intro p e s m args below meth c s₁ Bd hml0 hP hK
  obtain ⟨rfl, hZ, hh⟩ := hP
  have hx := Bd.exec
  have hby := Bd.bytes
  have hml : c.maxLocals = 1 := hml0
  have hown : s.vm.findClass "com/example/fiddlehead/fiddlehead/check/Misordered" = some m.cls := findClass_of_methodNamed Bd.named
  have hnm := (name_of_methodNamed Bd.named Bd.method).1
  have X0 : Stand p l e ({ frames := 0, cells := 0, slots := 0, locals := 0 } : Room) s m #[(.ref a)] below meth c s₁ [] 0 0 := Stand.of_body Bd
  have e0 : s₁.heap = h0 := by rw [← hh, Bd.state]; rfl
  have N0 := Fr.nil n0
  obtain ⟨E0, hE0⟩ : ∃ z, z = s₁.setTop (entryFrame m #[(.ref a)] 1) := ⟨_, rfl⟩
  rw [← hE0]
  have go0 : ∀ tgt, Steps p.tables e below (s₁.setTop (mkF m 0 #[.val (.ref a)] [])) tgt → Steps p.tables e below E0 tgt := fun tgt kont => by rw [hE0]; exact castTop (ef_GL m a) kont
  have go1 : ∀ tgt, Steps p.tables e below (s₁.setTop (mkF m 1 #[.val (.ref a)] [(.ref a)])) tgt → Steps p.tables e below E0 tgt := fun tgt kont => go0 tgt (by
    show Steps p.tables e below (s₁.setTop (mkF m 0 #[.val (.ref a)] [])) tgt
    refine XS.aloadN X0.here hx rfl (hb hby dGL_0) rfl rfl ?_
    exact kont)
  obtain ⟨T2, X2, e2, st2⟩ := getF X0 hx hZ hown (host := "") (Or.inl (hw _ (List.mem_of_getElem? (i := 51) rfl))) Via.refl e0 Fq (g := (mkF m 1 #[.val (.ref a)] [(.ref a)])) rfl rfl (hb hby dGL_1)
  have go2 : ∀ tgt, Steps p.tables e below (T2.setTop (mkF m 4 #[.val (.ref a)] [(.int q)])) tgt → Steps p.tables e below E0 tgt := fun tgt kont => go1 tgt (st2 tgt kont)
  obtain ⟨fs, hr, hrun, hended, hW, hsame⟩ := X2.leave (v := some (.int q)) (fun h => by rw [Bd.returns] at h; cases h)
  refine ⟨_, _, go2 _ ?_, hrun, hended, _, _, rfl, ?_, ⟨_, rfl⟩, hW, hsame.mono (by decide) (by decide)⟩
  · show Steps p.tables e below (T2.setTop (mkF m 4 #[.val (.ref a)] [(.int q)])) _
    exact retOut X2 hx Bd.returns rfl (Or.inl ⟨rfl, Or.inl rfl, _, rfl⟩) (hb hby dGL_4) hr
  · show QGL Z a q h0 n0 _ T2.heap _
    rw [e2]
    exact ⟨rfl, N0, rfl⟩
theorem dGH_0 : decode prog_14_method_8_code 0 = .ok (.aload_n 0, 1) := by decide +kernel
theorem dGH_1 : decode prog_14_method_8_code 1 = .ok (.getfield 17, 3) := by decide +kernel
theorem dGH_4 : decode prog_14_method_8_code 4 = .ok (.areturn, 1) := by decide +kernel
theorem ef_GH (m : MethodId) (x0 : Addr) : entryFrame m #[(.ref x0)] 1 = mkF m 0 #[.val (.ref x0)] [] := by first | (simp [entryFrame, mkF, argsToLocals, Value.category, maxLocals]; done) | rfl
def QGH (Z : State) (a : Addr) (q : Addr) (h0 : Heap) (n0 : Nat) (v : Option Value) (h : Heap) (L : List Loc) : Prop := v = some (.ref q) ∧ Fr n0 L ∧ h = h0
set_option maxRecDepth 65536 in
set_option maxHeartbeats 40000000 in
theorem rmGH (l : Launch) (Z : State) (a0 : Array Value) (hw : ∀ d ∈ tables_1, d.before a0 Z = true) (ws : List Jvm.Cond) (a : Addr) (q : Addr) (h0 : Heap) (n0 : Nat) (Z0 : n0 ≤ h0.size) (Fq : Fld Z h0 a "com/example/fiddlehead/fiddlehead/check/Misordered" "holder" "Ljava/lang/String;" (.ref q)) :
    MetFree l (⟨"com/example/fiddlehead/fiddlehead/check/Misordered", "holder", "()Ljava/lang/String;"⟩ : MethodName) (head1 (Jvm.Cond.code (⟨"com/example/fiddlehead/fiddlehead/check/Misordered", "holder", "()Ljava/lang/String;"⟩ : MethodName) prog_14_method_8_code 1 (some (.object "java/lang/String")) :: ws) ({ frames := 0, cells := 0, slots := 0, locals := 0 } : Room)) (fun as_ U => as_ = #[(.ref a)] ∧ Z.Warmed39 U.vm ∧ U.heap = h0) (fun _ _ _ _ _ => True) (fun _ U o U' => ∃ v L, o = .returned v ∧ QGH Z a q h0 n0 v U'.heap L ∧ FrameEnd U o U' L ({ frames := 0, cells := 0, slots := 0, locals := 0 } : Room).cells ({ frames := 0, cells := 0, slots := 0, locals := 0 } : Room).slots) := by
  refine MetFree.of_bodySF (plainFor_of_name pn_6) hisR ?_
  intro p e s m args below meth c s₁ Bd hml0 hP hK
  obtain ⟨rfl, hZ, hh⟩ := hP
  have hx := Bd.exec
  have hby := Bd.bytes
  have hml : c.maxLocals = 1 := hml0
  have hown : s.vm.findClass "com/example/fiddlehead/fiddlehead/check/Misordered" = some m.cls := findClass_of_methodNamed Bd.named
  have hnm := (name_of_methodNamed Bd.named Bd.method).1
  have X0 : Stand p l e ({ frames := 0, cells := 0, slots := 0, locals := 0 } : Room) s m #[(.ref a)] below meth c s₁ [] 0 0 := Stand.of_body Bd
  have e0 : s₁.heap = h0 := by rw [← hh, Bd.state]; rfl
  have N0 := Fr.nil n0
  obtain ⟨E0, hE0⟩ : ∃ z, z = s₁.setTop (entryFrame m #[(.ref a)] 1) := ⟨_, rfl⟩
  rw [← hE0]
  have go0 : ∀ tgt, Steps p.tables e below (s₁.setTop (mkF m 0 #[.val (.ref a)] [])) tgt → Steps p.tables e below E0 tgt := fun tgt kont => by rw [hE0]; exact castTop (ef_GH m a) kont
  have go1 : ∀ tgt, Steps p.tables e below (s₁.setTop (mkF m 1 #[.val (.ref a)] [(.ref a)])) tgt → Steps p.tables e below E0 tgt := fun tgt kont => go0 tgt (by
    show Steps p.tables e below (s₁.setTop (mkF m 0 #[.val (.ref a)] [])) tgt
    refine XS.aloadN X0.here hx rfl (hb hby dGH_0) rfl rfl ?_
    exact kont)
  obtain ⟨T2, X2, e2, st2⟩ := getF X0 hx hZ hown (host := "") (Or.inl (hw _ (List.mem_of_getElem? (i := 53) rfl))) Via.refl e0 Fq (g := (mkF m 1 #[.val (.ref a)] [(.ref a)])) rfl rfl (hb hby dGH_1)
  have go2 : ∀ tgt, Steps p.tables e below (T2.setTop (mkF m 4 #[.val (.ref a)] [(.ref q)])) tgt → Steps p.tables e below E0 tgt := fun tgt kont => go1 tgt (st2 tgt kont)
  obtain ⟨fs, hr, hrun, hended, hW, hsame⟩ := X2.leave (v := some (.ref q)) (fun h => by rw [Bd.returns] at h; cases h)
  refine ⟨_, _, go2 _ ?_, hrun, hended, _, _, rfl, ?_, ⟨_, rfl⟩, hW, hsame.mono (by decide) (by decide)⟩
  · show Steps p.tables e below (T2.setTop (mkF m 4 #[.val (.ref a)] [(.ref q)])) _
    exact retOut X2 hx Bd.returns rfl (Or.inr (Or.inr (Or.inr (Or.inr ⟨rfl, rfl, rfl⟩)))) (hb hby dGH_4) hr
  · show QGH Z a q h0 n0 _ T2.heap _
    rw [e2]
    exact ⟨rfl, N0, rfl⟩
theorem dGN_0 : decode prog_14_method_9_code 0 = .ok (.aload_n 0, 1) := by decide +kernel
theorem dGN_1 : decode prog_14_method_9_code 1 = .ok (.getfield 20, 3) := by decide +kernel
theorem dGN_4 : decode prog_14_method_9_code 4 = .ok (.areturn, 1) := by decide +kernel
theorem ef_GN (m : MethodId) (x0 : Addr) : entryFrame m #[(.ref x0)] 1 = mkF m 0 #[.val (.ref x0)] [] := by first | (simp [entryFrame, mkF, argsToLocals, Value.category, maxLocals]; done) | rfl
def QGN (Z : State) (a : Addr) (q : Addr) (h0 : Heap) (n0 : Nat) (v : Option Value) (h : Heap) (L : List Loc) : Prop := v = some (.ref q) ∧ Fr n0 L ∧ h = h0
set_option maxRecDepth 65536 in
set_option maxHeartbeats 40000000 in
theorem rmGN (l : Launch) (Z : State) (a0 : Array Value) (hw : ∀ d ∈ tables_1, d.before a0 Z = true) (ws : List Jvm.Cond) (a : Addr) (q : Addr) (h0 : Heap) (n0 : Nat) (Z0 : n0 ≤ h0.size) (Fq : Fld Z h0 a "com/example/fiddlehead/fiddlehead/check/Misordered" "name" "Ljava/lang/String;" (.ref q)) :
    MetFree l (⟨"com/example/fiddlehead/fiddlehead/check/Misordered", "name", "()Ljava/lang/String;"⟩ : MethodName) (head1 (Jvm.Cond.code (⟨"com/example/fiddlehead/fiddlehead/check/Misordered", "name", "()Ljava/lang/String;"⟩ : MethodName) prog_14_method_9_code 1 (some (.object "java/lang/String")) :: ws) ({ frames := 0, cells := 0, slots := 0, locals := 0 } : Room)) (fun as_ U => as_ = #[(.ref a)] ∧ Z.Warmed39 U.vm ∧ U.heap = h0) (fun _ _ _ _ _ => True) (fun _ U o U' => ∃ v L, o = .returned v ∧ QGN Z a q h0 n0 v U'.heap L ∧ FrameEnd U o U' L ({ frames := 0, cells := 0, slots := 0, locals := 0 } : Room).cells ({ frames := 0, cells := 0, slots := 0, locals := 0 } : Room).slots) := by
  refine MetFree.of_bodySF (plainFor_of_name pn_6) hisR ?_
  intro p e s m args below meth c s₁ Bd hml0 hP hK
  obtain ⟨rfl, hZ, hh⟩ := hP
  have hx := Bd.exec
  have hby := Bd.bytes
  have hml : c.maxLocals = 1 := hml0
  have hown : s.vm.findClass "com/example/fiddlehead/fiddlehead/check/Misordered" = some m.cls := findClass_of_methodNamed Bd.named
  have hnm := (name_of_methodNamed Bd.named Bd.method).1
  have X0 : Stand p l e ({ frames := 0, cells := 0, slots := 0, locals := 0 } : Room) s m #[(.ref a)] below meth c s₁ [] 0 0 := Stand.of_body Bd
  have e0 : s₁.heap = h0 := by rw [← hh, Bd.state]; rfl
  have N0 := Fr.nil n0
  obtain ⟨E0, hE0⟩ : ∃ z, z = s₁.setTop (entryFrame m #[(.ref a)] 1) := ⟨_, rfl⟩
  rw [← hE0]
  have go0 : ∀ tgt, Steps p.tables e below (s₁.setTop (mkF m 0 #[.val (.ref a)] [])) tgt → Steps p.tables e below E0 tgt := fun tgt kont => by rw [hE0]; exact castTop (ef_GN m a) kont
  have go1 : ∀ tgt, Steps p.tables e below (s₁.setTop (mkF m 1 #[.val (.ref a)] [(.ref a)])) tgt → Steps p.tables e below E0 tgt := fun tgt kont => go0 tgt (by
    show Steps p.tables e below (s₁.setTop (mkF m 0 #[.val (.ref a)] [])) tgt
    refine XS.aloadN X0.here hx rfl (hb hby dGN_0) rfl rfl ?_
    exact kont)
  obtain ⟨T2, X2, e2, st2⟩ := getF X0 hx hZ hown (host := "") (Or.inl (hw _ (List.mem_of_getElem? (i := 55) rfl))) Via.refl e0 Fq (g := (mkF m 1 #[.val (.ref a)] [(.ref a)])) rfl rfl (hb hby dGN_1)
  have go2 : ∀ tgt, Steps p.tables e below (T2.setTop (mkF m 4 #[.val (.ref a)] [(.ref q)])) tgt → Steps p.tables e below E0 tgt := fun tgt kont => go1 tgt (st2 tgt kont)
  obtain ⟨fs, hr, hrun, hended, hW, hsame⟩ := X2.leave (v := some (.ref q)) (fun h => by rw [Bd.returns] at h; cases h)
  refine ⟨_, _, go2 _ ?_, hrun, hended, _, _, rfl, ?_, ⟨_, rfl⟩, hW, hsame.mono (by decide) (by decide)⟩
  · show Steps p.tables e below (T2.setTop (mkF m 4 #[.val (.ref a)] [(.ref q)])) _
    exact retOut X2 hx Bd.returns rfl (Or.inr (Or.inr (Or.inr (Or.inr ⟨rfl, rfl, rfl⟩)))) (hb hby dGN_4) hr
  · show QGN Z a q h0 n0 _ T2.heap _
    rw [e2]
    exact ⟨rfl, N0, rfl⟩
theorem dGS_0 : decode prog_14_method_10_code 0 = .ok (.aload_n 0, 1) := by decide +kernel
theorem dGS_1 : decode prog_14_method_10_code 1 = .ok (.getfield 23, 3) := by decide +kernel
theorem dGS_4 : decode prog_14_method_10_code 4 = .ok (.areturn, 1) := by decide +kernel
theorem ef_GS (m : MethodId) (x0 : Addr) : entryFrame m #[(.ref x0)] 1 = mkF m 0 #[.val (.ref x0)] [] := by first | (simp [entryFrame, mkF, argsToLocals, Value.category, maxLocals]; done) | rfl
def QGS (Z : State) (a : Addr) (q : Addr) (h0 : Heap) (n0 : Nat) (v : Option Value) (h : Heap) (L : List Loc) : Prop := v = some (.ref q) ∧ Fr n0 L ∧ h = h0
set_option maxRecDepth 65536 in
set_option maxHeartbeats 40000000 in
theorem rmGS (l : Launch) (Z : State) (a0 : Array Value) (hw : ∀ d ∈ tables_1, d.before a0 Z = true) (ws : List Jvm.Cond) (a : Addr) (q : Addr) (h0 : Heap) (n0 : Nat) (Z0 : n0 ≤ h0.size) (Fq : Fld Z h0 a "com/example/fiddlehead/fiddlehead/check/Misordered" "sibling" "Ljava/lang/String;" (.ref q)) :
    MetFree l (⟨"com/example/fiddlehead/fiddlehead/check/Misordered", "sibling", "()Ljava/lang/String;"⟩ : MethodName) (head1 (Jvm.Cond.code (⟨"com/example/fiddlehead/fiddlehead/check/Misordered", "sibling", "()Ljava/lang/String;"⟩ : MethodName) prog_14_method_10_code 1 (some (.object "java/lang/String")) :: ws) ({ frames := 0, cells := 0, slots := 0, locals := 0 } : Room)) (fun as_ U => as_ = #[(.ref a)] ∧ Z.Warmed39 U.vm ∧ U.heap = h0) (fun _ _ _ _ _ => True) (fun _ U o U' => ∃ v L, o = .returned v ∧ QGS Z a q h0 n0 v U'.heap L ∧ FrameEnd U o U' L ({ frames := 0, cells := 0, slots := 0, locals := 0 } : Room).cells ({ frames := 0, cells := 0, slots := 0, locals := 0 } : Room).slots) := by
  refine MetFree.of_bodySF (plainFor_of_name pn_6) hisR ?_
  intro p e s m args below meth c s₁ Bd hml0 hP hK
  obtain ⟨rfl, hZ, hh⟩ := hP
  have hx := Bd.exec
  have hby := Bd.bytes
  have hml : c.maxLocals = 1 := hml0
  have hown : s.vm.findClass "com/example/fiddlehead/fiddlehead/check/Misordered" = some m.cls := findClass_of_methodNamed Bd.named
  have hnm := (name_of_methodNamed Bd.named Bd.method).1
  have X0 : Stand p l e ({ frames := 0, cells := 0, slots := 0, locals := 0 } : Room) s m #[(.ref a)] below meth c s₁ [] 0 0 := Stand.of_body Bd
  have e0 : s₁.heap = h0 := by rw [← hh, Bd.state]; rfl
  have N0 := Fr.nil n0
  obtain ⟨E0, hE0⟩ : ∃ z, z = s₁.setTop (entryFrame m #[(.ref a)] 1) := ⟨_, rfl⟩
  rw [← hE0]
  have go0 : ∀ tgt, Steps p.tables e below (s₁.setTop (mkF m 0 #[.val (.ref a)] [])) tgt → Steps p.tables e below E0 tgt := fun tgt kont => by rw [hE0]; exact castTop (ef_GS m a) kont
  have go1 : ∀ tgt, Steps p.tables e below (s₁.setTop (mkF m 1 #[.val (.ref a)] [(.ref a)])) tgt → Steps p.tables e below E0 tgt := fun tgt kont => go0 tgt (by
    show Steps p.tables e below (s₁.setTop (mkF m 0 #[.val (.ref a)] [])) tgt
    refine XS.aloadN X0.here hx rfl (hb hby dGS_0) rfl rfl ?_
    exact kont)
  obtain ⟨T2, X2, e2, st2⟩ := getF X0 hx hZ hown (host := "") (Or.inl (hw _ (List.mem_of_getElem? (i := 57) rfl))) Via.refl e0 Fq (g := (mkF m 1 #[.val (.ref a)] [(.ref a)])) rfl rfl (hb hby dGS_1)
  have go2 : ∀ tgt, Steps p.tables e below (T2.setTop (mkF m 4 #[.val (.ref a)] [(.ref q)])) tgt → Steps p.tables e below E0 tgt := fun tgt kont => go1 tgt (st2 tgt kont)
  obtain ⟨fs, hr, hrun, hended, hW, hsame⟩ := X2.leave (v := some (.ref q)) (fun h => by rw [Bd.returns] at h; cases h)
  refine ⟨_, _, go2 _ ?_, hrun, hended, _, _, rfl, ?_, ⟨_, rfl⟩, hW, hsame.mono (by decide) (by decide)⟩
  · show Steps p.tables e below (T2.setTop (mkF m 4 #[.val (.ref a)] [(.ref q)])) _
    exact retOut X2 hx Bd.returns rfl (Or.inr (Or.inr (Or.inr (Or.inr ⟨rfl, rfl, rfl⟩)))) (hb hby dGS_4) hr
  · show QGS Z a q h0 n0 _ T2.heap _
    rw [e2]
    exact ⟨rfl, N0, rfl⟩
theorem dEQ_0 : decode jdk_42_method_66_code 0 = .ok (.aload_n 0, 1) := by decide +kernel
theorem dEQ_1 : decode jdk_42_method_66_code 1 = .ok (.aload_n 1, 1) := by decide +kernel
theorem dEQ_2 : decode jdk_42_method_66_code 2 = .ok (.if_acmp .ne 5, 3) := by decide +kernel
theorem dEQ_5 : decode jdk_42_method_66_code 5 = .ok (.iconst 1, 1) := by decide +kernel
theorem dEQ_6 : decode jdk_42_method_66_code 6 = .ok (.ireturn, 1) := by decide +kernel
theorem ef_EQ (m : MethodId) (x0 : Addr) (x1 : Addr) : entryFrame m #[(.ref x0), (.ref x1)] 3 = mkF m 0 #[.val (.ref x0), .val (.ref x1), .unset] [] := by first | (simp [entryFrame, mkF, argsToLocals, Value.category, maxLocals]; done) | rfl
def QEQ (Z : State) (a : Addr) (h0 : Heap) (n0 : Nat) (v : Option Value) (h : Heap) (L : List Loc) : Prop := v = some (.int (1 : Int32)) ∧ Fr n0 L ∧ h = h0
set_option maxRecDepth 65536 in
set_option maxHeartbeats 40000000 in
theorem rmEQ (l : Launch) (Z : State) (a0 : Array Value) (hw : ∀ d ∈ tables_1, d.before a0 Z = true) (ws : List Jvm.Cond) (a : Addr) (h0 : Heap) (n0 : Nat) (Z0 : n0 ≤ h0.size) :
    MetFree l (⟨"java/lang/String", "equals", "(Ljava/lang/Object;)Z"⟩ : MethodName) (head1 (Jvm.Cond.code (⟨"java/lang/String", "equals", "(Ljava/lang/Object;)Z"⟩ : MethodName) jdk_42_method_66_code 3 (some .boolean) :: ws) ({ frames := 0, cells := 0, slots := 0, locals := 0 } : Room)) (fun as_ U => as_ = #[(.ref a), (.ref a)] ∧ Z.Warmed39 U.vm ∧ U.heap = h0) (fun _ _ _ _ _ => True) (fun _ U o U' => ∃ v L, o = .returned v ∧ QEQ Z a h0 n0 v U'.heap L ∧ FrameEnd U o U' L ({ frames := 0, cells := 0, slots := 0, locals := 0 } : Room).cells ({ frames := 0, cells := 0, slots := 0, locals := 0 } : Room).slots) := by
  refine MetFree.of_bodySF (plainFor_of_name pn_1) hisR ?_
  intro p e s m args below meth c s₁ Bd hml0 hP hK
  obtain ⟨rfl, hZ, hh⟩ := hP
  have hx := Bd.exec
  have hby := Bd.bytes
  have hml : c.maxLocals = 3 := hml0
  have hown : s.vm.findClass "java/lang/String" = some m.cls := findClass_of_methodNamed Bd.named
  have hnm := (name_of_methodNamed Bd.named Bd.method).1
  have X0 : Stand p l e ({ frames := 0, cells := 0, slots := 0, locals := 0 } : Room) s m #[(.ref a), (.ref a)] below meth c s₁ [] 0 0 := Stand.of_body Bd
  have e0 : s₁.heap = h0 := by rw [← hh, Bd.state]; rfl
  have N0 := Fr.nil n0
  obtain ⟨E0, hE0⟩ : ∃ z, z = s₁.setTop (entryFrame m #[(.ref a), (.ref a)] 3) := ⟨_, rfl⟩
  rw [← hE0]
  have go0 : ∀ tgt, Steps p.tables e below (s₁.setTop (mkF m 0 #[.val (.ref a), .val (.ref a), .unset] [])) tgt → Steps p.tables e below E0 tgt := fun tgt kont => by rw [hE0]; exact castTop (ef_EQ m a a) kont
  have go1 : ∀ tgt, Steps p.tables e below (s₁.setTop (mkF m 6 #[.val (.ref a), .val (.ref a), .unset] [(.int (1 : Int32))])) tgt → Steps p.tables e below E0 tgt := fun tgt kont => go0 tgt (by
    show Steps p.tables e below (s₁.setTop (mkF m 0 #[.val (.ref a), .val (.ref a), .unset] [])) tgt
    refine XS.aloadN X0.here hx rfl (hb hby dEQ_0) rfl rfl ?_
    show Steps p.tables e below (s₁.setTop (mkF m 1 #[.val (.ref a), .val (.ref a), .unset] [(.ref a)])) tgt
    refine XS.aloadN X0.here hx rfl (hb hby dEQ_1) rfl rfl ?_
    show Steps p.tables e below (s₁.setTop (mkF m 2 #[.val (.ref a), .val (.ref a), .unset] [(.ref a), (.ref a)])) tgt
    refine Jvm.RoadKit.acmp (g := (mkF m 2 #[.val (.ref a), .val (.ref a), .unset] [(.ref a), (.ref a)])) X0 hx rfl rfl rfl (pc0 := 2) (pc' := 5) (same := true) rfl (hb hby dEQ_2) rfl (decide_eq_true rfl) (by decide) (by decide) ?_
    show Steps p.tables e below (s₁.setTop (mkF m 5 #[.val (.ref a), .val (.ref a), .unset] [])) tgt
    refine XS.iconst X0.here hx rfl (hb hby dEQ_5) ?_
    exact kont)
  obtain ⟨fs, hr, hrun, hended, hW, hsame⟩ := X0.leave (v := some (.int (1 : Int32))) (fun h => by rw [Bd.returns] at h; cases h)
  refine ⟨_, _, go1 _ ?_, hrun, hended, _, _, rfl, ?_, ⟨_, rfl⟩, hW, hsame.mono (by decide) (by decide)⟩
  · show Steps p.tables e below (s₁.setTop (mkF m 6 #[.val (.ref a), .val (.ref a), .unset] [(.int (1 : Int32))])) _
    exact retN X0 hx (t := .boolean) Bd.returns (by simp) (hb hby dEQ_6) hr
  · show QEQ Z a h0 n0 _ s₁.heap _
    rw [e0]
    exact ⟨rfl, N0, rfl⟩
theorem pd_8 : parseMethodDescriptor "(I)Ljava/lang/String;" = some ⟨[.int], some (.object "java/lang/String")⟩ := by decide +kernel
theorem pd_9 : parseMethodDescriptor "(Ljava/lang/String;)Lcom/example/fiddlehead/fiddlehead/check/Misordered;" = some ⟨[(.object "java/lang/String")], some (.object "com/example/fiddlehead/fiddlehead/check/Misordered")⟩ := by decide +kernel
theorem pd_10 : parseMethodDescriptor "()Ljava/lang/String;" = some ⟨[], some (.object "java/lang/String")⟩ := by decide +kernel
theorem pd_11 : parseMethodDescriptor "(Ljava/lang/Object;)Z" = some ⟨[(.object "java/lang/Object")], some .boolean⟩ := by decide +kernel
theorem pd_12 : parseMethodDescriptor "()I" = some ⟨[], some .int⟩ := by decide +kernel
theorem ef_L (m : MethodId) (x0 : Int32) (x1 : Int32) (x2 : Int32) (x3 : Int32) (x4 : Int32) (x5 : Int32) : entryFrame m #[(.int x0), (.int x1), (.int x2), (.int x3), (.int x4), (.int x5)] maxLocals = mkF m 0 #[.val (.int x0), .val (.int x1), .val (.int x2), .val (.int x3), .val (.int x4), .val (.int x5), .unset, .unset, .unset, .unset, .unset, .unset, .unset] [] := by first | (simp [entryFrame, mkF, argsToLocals, Value.category, maxLocals]; done) | rfl
def QL (Z : State) (p0 : Int32) (p1 : Int32) (p2 : Int32) (p3 : Int32) (p4 : Int32) (p5 : Int32) (G : Int32) (h0 : Heap) (n0 : Nat) (v : Option Value) (h : Heap) (L : List Loc) (vm : Vm) : Prop := v = some (.int 1) ∧ Fr n0 L
set_option maxRecDepth 65536 in
set_option maxHeartbeats 40000000 in
theorem rmL (l : Launch) (Z : State) (a0 : Array Value) (hw : ∀ d ∈ tables_1, d.before a0 Z = true) (ws : List Jvm.Cond) (p0 : Int32) (p1 : Int32) (p2 : Int32) (p3 : Int32) (p4 : Int32) (p5 : Int32) (G : Int32) (h0 : Heap) (n0 : Nat) (Z0 : n0 ≤ h0.size) (SC : Sta Z Z.heap "java/lang/String" "COMPACT_STRINGS" "Z" (.int G)) (hG : ¬ (G = (0 : Int32))) (O0 : Old Z n0 h0) (hH : Jvm.Lit.constHeld Z "java/lang/String" 7) (hCW : Jvm.Lit.compactW.before a0 Z = true) :
    MetFree l x (head1 (Jvm.Cond.code x code maxLocals ret :: ws) room_1) (fun as_ U => as_ = #[(.int p0), (.int p1), (.int p2), (.int p3), (.int p4), (.int p5)] ∧ Z.Warmed39 U.vm ∧ U.heap = h0 ∧ (own_J Z h0) U.vm) (fun _ _ _ _ _ => True) (fun _ U o U' => ∃ v L, o = .returned v ∧ QL Z p0 p1 p2 p3 p4 p5 G h0 n0 v U'.heap L U'.vm ∧ ReturnedEndW U o U' L 22 60) := by
  refine MetFree.of_bodySF (plainFor_of_name pn_4) hisR ?_
  intro p e s m args below meth c s₁ Bd hml0 hP hK
  obtain ⟨rfl, hZ, hh, hJ0⟩ := hP
  have hx := Bd.exec
  have hby := Bd.bytes
  have hml : c.maxLocals = 13 := hml0
  have hown : s.vm.findClass "com/example/fiddlehead/fiddlehead/check/MisorderedWithPathPinLaw" = some m.cls := findClass_of_methodNamed Bd.named
  have hnm := (name_of_methodNamed Bd.named Bd.method).1
  have X0 : Stand p l e room_1 (s.setVm s.vm) m #[(.int p0), (.int p1), (.int p2), (.int p3), (.int p4), (.int p5)] below meth c s₁ [] 0 0 := Stand.of_body Bd
  have e0 : s₁.heap = h0 := by rw [← hh, Bd.state]; rfl
  have N0 := Fr.nil n0
  obtain ⟨E0, hE0⟩ : ∃ z, z = s₁.setTop (entryFrame m #[(.int p0), (.int p1), (.int p2), (.int p3), (.int p4), (.int p5)] maxLocals) := ⟨_, rfl⟩
  rw [← hE0]
  have go0 : ∀ tgt, Steps p.tables e below (s₁.setTop (mkF m 0 #[.val (.int p0), .val (.int p1), .val (.int p2), .val (.int p3), .val (.int p4), .val (.int p5), .unset, .unset, .unset, .unset, .unset, .unset, .unset] [])) tgt → Steps p.tables e below E0 tgt := fun tgt kont => by rw [hE0]; exact castTop (ef_L m p0 p1 p2 p3 p4 p5) kont
  have hS0 : s.Since s.vm h0.size := (State.WarmedH.refl s).since _
  have hk0 : h0.size ≤ h0.size := Nat.le_refl _
  have hwS : ∀ a ∈ Bundle.stringAtoms, a.before a0 Z = true := fun d hd => hw d ((by decide +kernel : ∀ d ∈ Bundle.stringAtoms, d ∈ tables_1) d hd)
  have go1 : ∀ tgt, Steps p.tables e below (s₁.setTop (mkF m 1 #[.val (.int p0), .val (.int p1), .val (.int p2), .val (.int p3), .val (.int p4), .val (.int p5), .unset, .unset, .unset, .unset, .unset, .unset, .unset] [(.int p1)])) tgt → Steps p.tables e below E0 tgt := fun tgt kont => go0 tgt (by
    show Steps p.tables e below (s₁.setTop (mkF m 0 #[.val (.int p0), .val (.int p1), .val (.int p2), .val (.int p3), .val (.int p4), .val (.int p5), .unset, .unset, .unset, .unset, .unset, .unset, .unset] [])) tgt
    refine XS.iloadN X0.here hx rfl (hb hby at_0) rfl ?_
    exact kont)
  obtain ⟨_, _, ⟨T2, L2, k2, n2⟩, -, Xp2, hSp2, hgp2, ⟨Lc2, hQ2, l2, y2, z2⟩, st2⟩ := callSS X0 hx (y := (⟨"com/example/fiddlehead/fiddlehead/check/MisorderedWithPathPinLaw", "str", "(I)Ljava/lang/String;"⟩ : MethodName)) hown (mvT hZ (hw _ (List.mem_of_getElem? (i := 0) rfl))) (mvT hZ (hw _ (List.mem_of_getElem? (i := 1) rfl))) (mvT hZ (hw _ (List.mem_of_getElem? (i := 2) rfl))) (mvT hZ (hw _ (List.mem_of_getElem? (i := 3) rfl))) (by decide) (own_backJ (W := 0) (rmSR l Z a0 hw [] p1 G h0 n0 Z0 SC hG O0 hH hCW) hZ (hw _ (List.mem_of_getElem? (i := 3) rfl)) (hw _ (List.mem_of_getElem? (i := 2) rfl)) (by decide) (by decide)) (g := (mkF m 1 #[.val (.int p0), .val (.int p1), .val (.int p2), .val (.int p3), .val (.int p4), .val (.int p5), .unset, .unset, .unset, .unset, .unset, .unset, .unset] [(.int p1)])) rfl (by rw [hml]; rfl) (argsL := [(.int p1)]) (rest := []) (lenOf pd_8 rfl) rfl (by show 2 * 0 + _ ≤ _; exact Nat.le_of_eq rfl) (hb hby at_1) (fun _ hwm => ⟨rfl, e0, (own_Jwarm (s := s.setVm s.vm) hJ0 hwm), (by decide : 0 + 4 ≤ _), (by decide : 0 + 10 ≤ _)⟩)
  dsimp only [Pt.U, Pt.locs, Pt.cells, Pt.slots] at Xp2 hSp2 hgp2 l2 y2 z2 st2 hQ2
  subst l2 y2 z2
  obtain ⟨X2, hS2, hZ2, hown2⟩ := rebS hS0 (by rw [e0]; exact hk0) Xp2 hSp2 hgp2 hZ hown
  obtain ⟨sa, rfl, N2q, Ksa, gsa, zsa, Esa, Jsa⟩ := hQ2
  have N2 := Fr.app N0 N2q
  have z3 : n0 ≤ T2.heap.size := Nat.le_trans Z0 Ksa.1
  have go2 : ∀ tgt, Steps p.tables e below (T2.setTop (mkF m 4 #[.val (.int p0), .val (.int p1), .val (.int p2), .val (.int p3), .val (.int p4), .val (.int p5), .unset, .unset, .unset, .unset, .unset, .unset, .unset] [(.ref sa)])) tgt → Steps p.tables e below E0 tgt := fun tgt kont => go1 tgt (st2.trans kont)
  have f4 : Old Z n0 T2.heap := (O0.keep Ksa all0)
  have go5 : ∀ tgt, Steps p.tables e below (T2.setTop (mkF m 7 #[.val (.int p0), .val (.int p1), .val (.int p2), .val (.int p3), .val (.int p4), .val (.int p5), .val (.ref sa), .unset, .unset, .unset, .unset, .unset, .unset] [(.int p2)])) tgt → Steps p.tables e below E0 tgt := fun tgt kont => go2 tgt (by
    show Steps p.tables e below (T2.setTop (mkF m 4 #[.val (.int p0), .val (.int p1), .val (.int p2), .val (.int p3), .val (.int p4), .val (.int p5), .unset, .unset, .unset, .unset, .unset, .unset, .unset] [(.ref sa)])) tgt
    refine XS.astore X2.here hx rfl (hb hby at_4) rfl rfl (l' := #[.val (.int p0), .val (.int p1), .val (.int p2), .val (.int p3), .val (.int p4), .val (.int p5), .val (.ref sa), .unset, .unset, .unset, .unset, .unset, .unset]) rfl ?_
    show Steps p.tables e below (T2.setTop (mkF m 6 #[.val (.int p0), .val (.int p1), .val (.int p2), .val (.int p3), .val (.int p4), .val (.int p5), .val (.ref sa), .unset, .unset, .unset, .unset, .unset, .unset] [])) tgt
    refine XS.iloadN X2.here hx rfl (hb hby at_6) rfl ?_
    exact kont)
  obtain ⟨_, _, ⟨T6, L6, k6, n6⟩, -, Xp6, hSp6, hgp6, ⟨Lc6, hQ6, l6, y6, z6⟩, st6⟩ := callSS X2 hx (y := (⟨"com/example/fiddlehead/fiddlehead/check/MisorderedWithPathPinLaw", "str", "(I)Ljava/lang/String;"⟩ : MethodName)) hown2 (mvT hZ2 (hw _ (List.mem_of_getElem? (i := 0) rfl))) (mvT hZ2 (hw _ (List.mem_of_getElem? (i := 1) rfl))) (mvT hZ2 (hw _ (List.mem_of_getElem? (i := 2) rfl))) (mvT hZ2 (hw _ (List.mem_of_getElem? (i := 3) rfl))) (by decide) (own_backJ (W := 0) (rmSR l Z a0 hw [] p2 G T2.heap n0 z3 SC hG f4 hH hCW) hZ2 (hw _ (List.mem_of_getElem? (i := 3) rfl)) (hw _ (List.mem_of_getElem? (i := 2) rfl)) (by decide) (by decide)) (g := (mkF m 7 #[.val (.int p0), .val (.int p1), .val (.int p2), .val (.int p3), .val (.int p4), .val (.int p5), .val (.ref sa), .unset, .unset, .unset, .unset, .unset, .unset] [(.int p2)])) rfl (by rw [hml]; rfl) (argsL := [(.int p2)]) (rest := []) (lenOf pd_8 rfl) rfl (by show 2 * 0 + _ ≤ _; exact Nat.le_of_eq rfl) (hb hby at_7) (fun _ hwm => ⟨rfl, rfl, (own_Jwarm (s := s.setVm T2.vm) Jsa hwm), (by decide : 4 + 4 ≤ _), (by decide : 10 + 10 ≤ _)⟩)
  dsimp only [Pt.U, Pt.locs, Pt.cells, Pt.slots] at Xp6 hSp6 hgp6 l6 y6 z6 st6 hQ6
  subst l6 y6 z6
  obtain ⟨X6, hS6, hZ6, hown6⟩ := rebS hS2 (Nat.le_refl _) Xp6 hSp6 hgp6 hZ2 hown2
  obtain ⟨sb, rfl, N6q, Ksb, gsb, zsb, Esb, Jsb⟩ := hQ6
  have N6 := Fr.app N2 N6q
  have z7 : n0 ≤ T6.heap.size := Nat.le_trans z3 Ksb.1
  have go6 : ∀ tgt, Steps p.tables e below (T6.setTop (mkF m 10 #[.val (.int p0), .val (.int p1), .val (.int p2), .val (.int p3), .val (.int p4), .val (.int p5), .val (.ref sa), .unset, .unset, .unset, .unset, .unset, .unset] [(.ref sb)])) tgt → Steps p.tables e below E0 tgt := fun tgt kont => go5 tgt (st6.trans kont)
  have f8 : Old Z n0 T6.heap := (f4.keep Ksb all0)
  have go9 : ∀ tgt, Steps p.tables e below (T6.setTop (mkF m 13 #[.val (.int p0), .val (.int p1), .val (.int p2), .val (.int p3), .val (.int p4), .val (.int p5), .val (.ref sa), .val (.ref sb), .unset, .unset, .unset, .unset, .unset] [(.int p3)])) tgt → Steps p.tables e below E0 tgt := fun tgt kont => go6 tgt (by
    show Steps p.tables e below (T6.setTop (mkF m 10 #[.val (.int p0), .val (.int p1), .val (.int p2), .val (.int p3), .val (.int p4), .val (.int p5), .val (.ref sa), .unset, .unset, .unset, .unset, .unset, .unset] [(.ref sb)])) tgt
    refine XS.astore X6.here hx rfl (hb hby at_10) rfl rfl (l' := #[.val (.int p0), .val (.int p1), .val (.int p2), .val (.int p3), .val (.int p4), .val (.int p5), .val (.ref sa), .val (.ref sb), .unset, .unset, .unset, .unset, .unset]) rfl ?_
    show Steps p.tables e below (T6.setTop (mkF m 12 #[.val (.int p0), .val (.int p1), .val (.int p2), .val (.int p3), .val (.int p4), .val (.int p5), .val (.ref sa), .val (.ref sb), .unset, .unset, .unset, .unset, .unset] [])) tgt
    refine XS.iloadN X6.here hx rfl (hb hby at_12) rfl ?_
    exact kont)
  obtain ⟨_, _, ⟨T10, L10, k10, n10⟩, -, Xp10, hSp10, hgp10, ⟨Lc10, hQ10, l10, y10, z10⟩, st10⟩ := callSS X6 hx (y := (⟨"com/example/fiddlehead/fiddlehead/check/MisorderedWithPathPinLaw", "str", "(I)Ljava/lang/String;"⟩ : MethodName)) hown6 (mvT hZ6 (hw _ (List.mem_of_getElem? (i := 0) rfl))) (mvT hZ6 (hw _ (List.mem_of_getElem? (i := 1) rfl))) (mvT hZ6 (hw _ (List.mem_of_getElem? (i := 2) rfl))) (mvT hZ6 (hw _ (List.mem_of_getElem? (i := 3) rfl))) (by decide) (own_backJ (W := 0) (rmSR l Z a0 hw [] p3 G T6.heap n0 z7 SC hG f8 hH hCW) hZ6 (hw _ (List.mem_of_getElem? (i := 3) rfl)) (hw _ (List.mem_of_getElem? (i := 2) rfl)) (by decide) (by decide)) (g := (mkF m 13 #[.val (.int p0), .val (.int p1), .val (.int p2), .val (.int p3), .val (.int p4), .val (.int p5), .val (.ref sa), .val (.ref sb), .unset, .unset, .unset, .unset, .unset] [(.int p3)])) rfl (by rw [hml]; rfl) (argsL := [(.int p3)]) (rest := []) (lenOf pd_8 rfl) rfl (by show 2 * 0 + _ ≤ _; exact Nat.le_of_eq rfl) (hb hby at_13) (fun _ hwm => ⟨rfl, rfl, (own_Jwarm (s := s.setVm T6.vm) Jsb hwm), (by decide : 8 + 4 ≤ _), (by decide : 20 + 10 ≤ _)⟩)
  dsimp only [Pt.U, Pt.locs, Pt.cells, Pt.slots] at Xp10 hSp10 hgp10 l10 y10 z10 st10 hQ10
  subst l10 y10 z10
  obtain ⟨X10, hS10, hZ10, hown10⟩ := rebS hS6 (Nat.le_refl _) Xp10 hSp10 hgp10 hZ6 hown6
  obtain ⟨sc, rfl, N10q, Ksc, gsc, zsc, Esc, Jsc⟩ := hQ10
  have N10 := Fr.app N6 N10q
  have z11 : n0 ≤ T10.heap.size := Nat.le_trans z7 Ksc.1
  have go10 : ∀ tgt, Steps p.tables e below (T10.setTop (mkF m 16 #[.val (.int p0), .val (.int p1), .val (.int p2), .val (.int p3), .val (.int p4), .val (.int p5), .val (.ref sa), .val (.ref sb), .unset, .unset, .unset, .unset, .unset] [(.ref sc)])) tgt → Steps p.tables e below E0 tgt := fun tgt kont => go9 tgt (st10.trans kont)
  have f12 : Old Z n0 T10.heap := (f8.keep Ksc all0)
  have go13 : ∀ tgt, Steps p.tables e below (T10.setTop (mkF m 20 #[.val (.int p0), .val (.int p1), .val (.int p2), .val (.int p3), .val (.int p4), .val (.int p5), .val (.ref sa), .val (.ref sb), .val (.ref sc), .unset, .unset, .unset, .unset] [(.int p4)])) tgt → Steps p.tables e below E0 tgt := fun tgt kont => go10 tgt (by
    show Steps p.tables e below (T10.setTop (mkF m 16 #[.val (.int p0), .val (.int p1), .val (.int p2), .val (.int p3), .val (.int p4), .val (.int p5), .val (.ref sa), .val (.ref sb), .unset, .unset, .unset, .unset, .unset] [(.ref sc)])) tgt
    refine XS.astore X10.here hx rfl (hb hby at_16) rfl rfl (l' := #[.val (.int p0), .val (.int p1), .val (.int p2), .val (.int p3), .val (.int p4), .val (.int p5), .val (.ref sa), .val (.ref sb), .val (.ref sc), .unset, .unset, .unset, .unset]) rfl ?_
    show Steps p.tables e below (T10.setTop (mkF m 18 #[.val (.int p0), .val (.int p1), .val (.int p2), .val (.int p3), .val (.int p4), .val (.int p5), .val (.ref sa), .val (.ref sb), .val (.ref sc), .unset, .unset, .unset, .unset] [])) tgt
    refine XS.iload X10.here hx rfl (hb hby at_18) rfl ?_
    exact kont)
  obtain ⟨_, _, ⟨T14, L14, k14, n14⟩, -, Xp14, hSp14, hgp14, ⟨Lc14, hQ14, l14, y14, z14⟩, st14⟩ := callSS X10 hx (y := (⟨"com/example/fiddlehead/fiddlehead/check/MisorderedWithPathPinLaw", "str", "(I)Ljava/lang/String;"⟩ : MethodName)) hown10 (mvT hZ10 (hw _ (List.mem_of_getElem? (i := 0) rfl))) (mvT hZ10 (hw _ (List.mem_of_getElem? (i := 1) rfl))) (mvT hZ10 (hw _ (List.mem_of_getElem? (i := 2) rfl))) (mvT hZ10 (hw _ (List.mem_of_getElem? (i := 3) rfl))) (by decide) (own_backJ (W := 0) (rmSR l Z a0 hw [] p4 G T10.heap n0 z11 SC hG f12 hH hCW) hZ10 (hw _ (List.mem_of_getElem? (i := 3) rfl)) (hw _ (List.mem_of_getElem? (i := 2) rfl)) (by decide) (by decide)) (g := (mkF m 20 #[.val (.int p0), .val (.int p1), .val (.int p2), .val (.int p3), .val (.int p4), .val (.int p5), .val (.ref sa), .val (.ref sb), .val (.ref sc), .unset, .unset, .unset, .unset] [(.int p4)])) rfl (by rw [hml]; rfl) (argsL := [(.int p4)]) (rest := []) (lenOf pd_8 rfl) rfl (by show 2 * 0 + _ ≤ _; exact Nat.le_of_eq rfl) (hb hby at_20) (fun _ hwm => ⟨rfl, rfl, (own_Jwarm (s := s.setVm T10.vm) Jsc hwm), (by decide : 12 + 4 ≤ _), (by decide : 30 + 10 ≤ _)⟩)
  dsimp only [Pt.U, Pt.locs, Pt.cells, Pt.slots] at Xp14 hSp14 hgp14 l14 y14 z14 st14 hQ14
  subst l14 y14 z14
  obtain ⟨X14, hS14, hZ14, hown14⟩ := rebS hS10 (Nat.le_refl _) Xp14 hSp14 hgp14 hZ10 hown10
  obtain ⟨sd, rfl, N14q, Ksd, gsd, zsd, Esd, Jsd⟩ := hQ14
  have N14 := Fr.app N10 N14q
  have z15 : n0 ≤ T14.heap.size := Nat.le_trans z11 Ksd.1
  have go14 : ∀ tgt, Steps p.tables e below (T14.setTop (mkF m 23 #[.val (.int p0), .val (.int p1), .val (.int p2), .val (.int p3), .val (.int p4), .val (.int p5), .val (.ref sa), .val (.ref sb), .val (.ref sc), .unset, .unset, .unset, .unset] [(.ref sd)])) tgt → Steps p.tables e below E0 tgt := fun tgt kont => go13 tgt (st14.trans kont)
  have f16 : Old Z n0 T14.heap := (f12.keep Ksd all0)
  have go17 : ∀ tgt, Steps p.tables e below (T14.setTop (mkF m 27 #[.val (.int p0), .val (.int p1), .val (.int p2), .val (.int p3), .val (.int p4), .val (.int p5), .val (.ref sa), .val (.ref sb), .val (.ref sc), .val (.ref sd), .unset, .unset, .unset] [(.int p5)])) tgt → Steps p.tables e below E0 tgt := fun tgt kont => go14 tgt (by
    show Steps p.tables e below (T14.setTop (mkF m 23 #[.val (.int p0), .val (.int p1), .val (.int p2), .val (.int p3), .val (.int p4), .val (.int p5), .val (.ref sa), .val (.ref sb), .val (.ref sc), .unset, .unset, .unset, .unset] [(.ref sd)])) tgt
    refine XS.astore X14.here hx rfl (hb hby at_23) rfl rfl (l' := #[.val (.int p0), .val (.int p1), .val (.int p2), .val (.int p3), .val (.int p4), .val (.int p5), .val (.ref sa), .val (.ref sb), .val (.ref sc), .val (.ref sd), .unset, .unset, .unset]) rfl ?_
    show Steps p.tables e below (T14.setTop (mkF m 25 #[.val (.int p0), .val (.int p1), .val (.int p2), .val (.int p3), .val (.int p4), .val (.int p5), .val (.ref sa), .val (.ref sb), .val (.ref sc), .val (.ref sd), .unset, .unset, .unset] [])) tgt
    refine XS.iload X14.here hx rfl (hb hby at_25) rfl ?_
    exact kont)
  obtain ⟨_, _, ⟨T18, L18, k18, n18⟩, -, Xp18, hSp18, hgp18, ⟨Lc18, hQ18, l18, y18, z18⟩, st18⟩ := callSS X14 hx (y := (⟨"com/example/fiddlehead/fiddlehead/check/MisorderedWithPathPinLaw", "str", "(I)Ljava/lang/String;"⟩ : MethodName)) hown14 (mvT hZ14 (hw _ (List.mem_of_getElem? (i := 0) rfl))) (mvT hZ14 (hw _ (List.mem_of_getElem? (i := 1) rfl))) (mvT hZ14 (hw _ (List.mem_of_getElem? (i := 2) rfl))) (mvT hZ14 (hw _ (List.mem_of_getElem? (i := 3) rfl))) (by decide) (own_backJ (W := 0) (rmSR l Z a0 hw [] p5 G T14.heap n0 z15 SC hG f16 hH hCW) hZ14 (hw _ (List.mem_of_getElem? (i := 3) rfl)) (hw _ (List.mem_of_getElem? (i := 2) rfl)) (by decide) (by decide)) (g := (mkF m 27 #[.val (.int p0), .val (.int p1), .val (.int p2), .val (.int p3), .val (.int p4), .val (.int p5), .val (.ref sa), .val (.ref sb), .val (.ref sc), .val (.ref sd), .unset, .unset, .unset] [(.int p5)])) rfl (by rw [hml]; rfl) (argsL := [(.int p5)]) (rest := []) (lenOf pd_8 rfl) rfl (by show 2 * 0 + _ ≤ _; exact Nat.le_of_eq rfl) (hb hby at_27) (fun _ hwm => ⟨rfl, rfl, (own_Jwarm (s := s.setVm T14.vm) Jsd hwm), (by decide : 16 + 4 ≤ _), (by decide : 40 + 10 ≤ _)⟩)
  dsimp only [Pt.U, Pt.locs, Pt.cells, Pt.slots] at Xp18 hSp18 hgp18 l18 y18 z18 st18 hQ18
  subst l18 y18 z18
  obtain ⟨X18, hS18, hZ18, hown18⟩ := rebS hS14 (Nat.le_refl _) Xp18 hSp18 hgp18 hZ14 hown14
  obtain ⟨se, rfl, N18q, Kse, gse, zse, Ese, Jse⟩ := hQ18
  have N18 := Fr.app N14 N18q
  have z19 : n0 ≤ T18.heap.size := Nat.le_trans z15 Kse.1
  have go18 : ∀ tgt, Steps p.tables e below (T18.setTop (mkF m 30 #[.val (.int p0), .val (.int p1), .val (.int p2), .val (.int p3), .val (.int p4), .val (.int p5), .val (.ref sa), .val (.ref sb), .val (.ref sc), .val (.ref sd), .unset, .unset, .unset] [(.ref se)])) tgt → Steps p.tables e below E0 tgt := fun tgt kont => go17 tgt (st18.trans kont)
  have go20 : ∀ tgt, Steps p.tables e below (T18.setTop (mkF m 32 #[.val (.int p0), .val (.int p1), .val (.int p2), .val (.int p3), .val (.int p4), .val (.int p5), .val (.ref sa), .val (.ref sb), .val (.ref sc), .val (.ref sd), .val (.ref se), .unset, .unset] [])) tgt → Steps p.tables e below E0 tgt := fun tgt kont => go18 tgt (by
    show Steps p.tables e below (T18.setTop (mkF m 30 #[.val (.int p0), .val (.int p1), .val (.int p2), .val (.int p3), .val (.int p4), .val (.int p5), .val (.ref sa), .val (.ref sb), .val (.ref sc), .val (.ref sd), .unset, .unset, .unset] [(.ref se)])) tgt
    refine XS.astore X18.here hx rfl (hb hby at_30) rfl rfl (l' := #[.val (.int p0), .val (.int p1), .val (.int p2), .val (.int p3), .val (.int p4), .val (.int p5), .val (.ref sa), .val (.ref sb), .val (.ref sc), .val (.ref sd), .val (.ref se), .unset, .unset]) rfl ?_
    exact kont)
  obtain ⟨T21, h21, X21, e21, E21, A21, D21, -, st21⟩ := newO X18 hx hZ18 hown18 (hw _ (List.mem_of_getElem? (i := 37) rfl)) (hw _ (List.mem_of_getElem? (i := 38) rfl)) (hw _ (List.mem_of_getElem? (i := 39) rfl)) rfl (g := (mkF m 32 #[.val (.int p0), .val (.int p1), .val (.int p2), .val (.int p3), .val (.int p4), .val (.int p5), .val (.ref sa), .val (.ref sb), .val (.ref sc), .val (.ref sd), .val (.ref se), .unset, .unset] [])) rfl (hb hby at_32) (by decide) (by decide)
  obtain ⟨mm, g21⟩ : ∃ z, z = T18.heap.size := ⟨_, rfl⟩
  rw [← g21] at A21 D21 st21
  have ne_sa_mm : sa ≠ mm := Nat.ne_of_lt (Nat.lt_of_lt_of_le (Nat.lt_of_lt_of_le Esa.lt (Nat.le_trans (Nat.le_trans (Nat.le_trans Ksb.1 Ksc.1) Ksd.1) Kse.1)) (Nat.le_of_eq g21.symm))
  have ne_sb_mm : sb ≠ mm := Nat.ne_of_lt (Nat.lt_of_lt_of_le (Nat.lt_of_lt_of_le Esb.lt (Nat.le_trans (Nat.le_trans Ksc.1 Ksd.1) Kse.1)) (Nat.le_of_eq g21.symm))
  have ne_sc_mm : sc ≠ mm := Nat.ne_of_lt (Nat.lt_of_lt_of_le (Nat.lt_of_lt_of_le Esc.lt (Nat.le_trans Ksd.1 Kse.1)) (Nat.le_of_eq g21.symm))
  have ne_sd_mm : sd ≠ mm := Nat.ne_of_lt (Nat.lt_of_lt_of_le (Nat.lt_of_lt_of_le Esd.lt Kse.1) (Nat.le_of_eq g21.symm))
  have ne_se_mm : se ≠ mm := Nat.ne_of_lt (Nat.lt_of_lt_of_le Ese.lt (Nat.le_of_eq g21.symm))
  have ge_mm : n0 ≤ mm := Nat.le_trans z19 (Nat.le_of_eq g21.symm)
  have z22 : n0 ≤ h21.size := Nat.le_trans z19 E21.1
  have Fpath_mm : Fld Z h21 mm "com/example/fiddlehead/fiddlehead/check/Misordered" "path" "Ljava/lang/String;" .null := D21 (Or.inr (hw _ (List.mem_of_getElem? (i := 50) rfl))) (ty := (.object "java/lang/String")) (by decide)
  have Fline_mm : Fld Z h21 mm "com/example/fiddlehead/fiddlehead/check/Misordered" "line" "I" (.int (0 : Int32)) := D21 (Or.inr (hw _ (List.mem_of_getElem? (i := 52) rfl))) (ty := .int) (by decide)
  have Fholder_mm : Fld Z h21 mm "com/example/fiddlehead/fiddlehead/check/Misordered" "holder" "Ljava/lang/String;" .null := D21 (Or.inr (hw _ (List.mem_of_getElem? (i := 54) rfl))) (ty := (.object "java/lang/String")) (by decide)
  have Fname_mm : Fld Z h21 mm "com/example/fiddlehead/fiddlehead/check/Misordered" "name" "Ljava/lang/String;" .null := D21 (Or.inr (hw _ (List.mem_of_getElem? (i := 56) rfl))) (ty := (.object "java/lang/String")) (by decide)
  have Fsibling_mm : Fld Z h21 mm "com/example/fiddlehead/fiddlehead/check/Misordered" "sibling" "Ljava/lang/String;" .null := D21 (Or.inr (hw _ (List.mem_of_getElem? (i := 58) rfl))) (ty := (.object "java/lang/String")) (by decide)
  have go21 : ∀ tgt, Steps p.tables e below (T21.setTop (mkF m 35 #[.val (.int p0), .val (.int p1), .val (.int p2), .val (.int p3), .val (.int p4), .val (.int p5), .val (.ref sa), .val (.ref sb), .val (.ref sc), .val (.ref sd), .val (.ref se), .unset, .unset] [(.ref mm)])) tgt → Steps p.tables e below E0 tgt := fun tgt kont => go20 tgt (st21 tgt kont)
  have go23 : ∀ tgt, Steps p.tables e below (T21.setTop (mkF m 45 #[.val (.int p0), .val (.int p1), .val (.int p2), .val (.int p3), .val (.int p4), .val (.int p5), .val (.ref sa), .val (.ref sb), .val (.ref sc), .val (.ref sd), .val (.ref se), .unset, .unset] [(.ref se), (.ref sd), (.ref sc), (.int p0), (.ref sa), (.ref mm), (.ref mm)])) tgt → Steps p.tables e below E0 tgt := fun tgt kont => go21 tgt (by
    show Steps p.tables e below (T21.setTop (mkF m 35 #[.val (.int p0), .val (.int p1), .val (.int p2), .val (.int p3), .val (.int p4), .val (.int p5), .val (.ref sa), .val (.ref sb), .val (.ref sc), .val (.ref sd), .val (.ref se), .unset, .unset] [(.ref mm)])) tgt
    refine XS.dup X21.here hx rfl (hb hby at_35) rfl rfl ?_
    show Steps p.tables e below (T21.setTop (mkF m 36 #[.val (.int p0), .val (.int p1), .val (.int p2), .val (.int p3), .val (.int p4), .val (.int p5), .val (.ref sa), .val (.ref sb), .val (.ref sc), .val (.ref sd), .val (.ref se), .unset, .unset] [(.ref mm), (.ref mm)])) tgt
    refine XS.aload X21.here hx rfl (hb hby at_36) rfl rfl ?_
    show Steps p.tables e below (T21.setTop (mkF m 38 #[.val (.int p0), .val (.int p1), .val (.int p2), .val (.int p3), .val (.int p4), .val (.int p5), .val (.ref sa), .val (.ref sb), .val (.ref sc), .val (.ref sd), .val (.ref se), .unset, .unset] [(.ref sa), (.ref mm), (.ref mm)])) tgt
    refine XS.iloadN X21.here hx rfl (hb hby at_38) rfl ?_
    show Steps p.tables e below (T21.setTop (mkF m 39 #[.val (.int p0), .val (.int p1), .val (.int p2), .val (.int p3), .val (.int p4), .val (.int p5), .val (.ref sa), .val (.ref sb), .val (.ref sc), .val (.ref sd), .val (.ref se), .unset, .unset] [(.int p0), (.ref sa), (.ref mm), (.ref mm)])) tgt
    refine XS.aload X21.here hx rfl (hb hby at_39) rfl rfl ?_
    show Steps p.tables e below (T21.setTop (mkF m 41 #[.val (.int p0), .val (.int p1), .val (.int p2), .val (.int p3), .val (.int p4), .val (.int p5), .val (.ref sa), .val (.ref sb), .val (.ref sc), .val (.ref sd), .val (.ref se), .unset, .unset] [(.ref sc), (.int p0), (.ref sa), (.ref mm), (.ref mm)])) tgt
    refine XS.aload X21.here hx rfl (hb hby at_41) rfl rfl ?_
    show Steps p.tables e below (T21.setTop (mkF m 43 #[.val (.int p0), .val (.int p1), .val (.int p2), .val (.int p3), .val (.int p4), .val (.int p5), .val (.ref sa), .val (.ref sb), .val (.ref sc), .val (.ref sd), .val (.ref se), .unset, .unset] [(.ref sd), (.ref sc), (.int p0), (.ref sa), (.ref mm), (.ref mm)])) tgt
    refine XS.aload X21.here hx rfl (hb hby at_43) rfl rfl ?_
    exact kont)
  obtain ⟨_, _, ⟨T24, L24, k24, n24⟩, -, X24, ⟨Lc24, hQ24, l24, y24, z24⟩, st24⟩ := X21.specialBack hx (y := (⟨"com/example/fiddlehead/fiddlehead/check/Misordered", "<init>", "(Ljava/lang/String;ILjava/lang/String;Ljava/lang/String;Ljava/lang/String;)V"⟩ : MethodName)) rfl hown18 (mvT hZ18 (hw _ (List.mem_of_getElem? (i := 40) rfl))) (mvT hZ18 (hw _ (List.mem_of_getElem? (i := 41) rfl))) (mvT hZ18 (hw _ (List.mem_of_getElem? (i := 42) rfl))) (by decide) (backOf (W := 1) (rmMI l Z a0 hw [] mm sa p0 sc sd se h21 n0 z22 A21 ge_mm Fpath_mm Fline_mm Fholder_mm Fname_mm Fsibling_mm) hZ18 (hw _ (List.mem_of_getElem? (i := 42) rfl)) (hw _ (List.mem_of_getElem? (i := 39) rfl)) (by decide) (by decide)) (g := (mkF m 45 #[.val (.int p0), .val (.int p1), .val (.int p2), .val (.int p3), .val (.int p4), .val (.int p5), .val (.ref sa), .val (.ref sb), .val (.ref sc), .val (.ref sd), .val (.ref se), .unset, .unset] [(.ref se), (.ref sd), (.ref sc), (.int p0), (.ref sa), (.ref mm), (.ref mm)])) rfl (by rw [hml]; rfl) (Steps.refl _) (a := mm) (argsL := [(.ref sa), (.int p0), (.ref sc), (.ref sd), (.ref se)]) (rest := [(.ref mm)]) (lenOf pd_7 rfl) rfl (by show 2 * 0 + _ ≤ _; exact Nat.le_of_eq rfl) (hb hby at_45) (fun _ _ => ⟨rfl, e21, (by decide : 21 + 0 ≤ _), (by decide : 55 + 0 ≤ _)⟩)
  dsimp only [Pt.U, Pt.locs, Pt.cells, Pt.slots] at X24 l24 y24 z24 st24 hQ24
  subst l24 y24 z24
  obtain ⟨rfl, N24q, KI, EI, FI0, FI1, FI2, FI3, FI4⟩ := hQ24
  have N24 := Fr.app N18 N24q
  have z25 : n0 ≤ T24.heap.size := Nat.le_trans z22 KI.1
  have go24 : ∀ tgt, Steps p.tables e below (T24.setTop (mkF m 48 #[.val (.int p0), .val (.int p1), .val (.int p2), .val (.int p3), .val (.int p4), .val (.int p5), .val (.ref sa), .val (.ref sb), .val (.ref sc), .val (.ref sd), .val (.ref se), .unset, .unset] [(.ref mm)])) tgt → Steps p.tables e below E0 tgt := fun tgt kont => go23 tgt (st24.trans kont)
  have go26 : ∀ tgt, Steps p.tables e below (T24.setTop (mkF m 54 #[.val (.int p0), .val (.int p1), .val (.int p2), .val (.int p3), .val (.int p4), .val (.int p5), .val (.ref sa), .val (.ref sb), .val (.ref sc), .val (.ref sd), .val (.ref se), .val (.ref mm), .unset] [(.ref sb), (.ref mm)])) tgt → Steps p.tables e below E0 tgt := fun tgt kont => go24 tgt (by
    show Steps p.tables e below (T24.setTop (mkF m 48 #[.val (.int p0), .val (.int p1), .val (.int p2), .val (.int p3), .val (.int p4), .val (.int p5), .val (.ref sa), .val (.ref sb), .val (.ref sc), .val (.ref sd), .val (.ref se), .unset, .unset] [(.ref mm)])) tgt
    refine XS.astore X24.here hx rfl (hb hby at_48) rfl rfl (l' := #[.val (.int p0), .val (.int p1), .val (.int p2), .val (.int p3), .val (.int p4), .val (.int p5), .val (.ref sa), .val (.ref sb), .val (.ref sc), .val (.ref sd), .val (.ref se), .val (.ref mm), .unset]) rfl ?_
    show Steps p.tables e below (T24.setTop (mkF m 50 #[.val (.int p0), .val (.int p1), .val (.int p2), .val (.int p3), .val (.int p4), .val (.int p5), .val (.ref sa), .val (.ref sb), .val (.ref sc), .val (.ref sd), .val (.ref se), .val (.ref mm), .unset] [])) tgt
    refine XS.aload X24.here hx rfl (hb hby at_50) rfl rfl ?_
    show Steps p.tables e below (T24.setTop (mkF m 52 #[.val (.int p0), .val (.int p1), .val (.int p2), .val (.int p3), .val (.int p4), .val (.int p5), .val (.ref sa), .val (.ref sb), .val (.ref sc), .val (.ref sd), .val (.ref se), .val (.ref mm), .unset] [(.ref mm)])) tgt
    refine XS.aload X24.here hx rfl (hb hby at_52) rfl rfl ?_
    exact kont)
  obtain ⟨cq27, kq27, q27a, q27b, q27c⟩ := isOf hZ18 rfl EI
  obtain ⟨_, _, ⟨T27, L27, k27, n27⟩, -, X27, ⟨Lc27, hQ27, l27, y27, z27⟩, st27⟩ := X24.virtualBack hx (y := (⟨"com/example/fiddlehead/fiddlehead/check/Misordered", "withPath", "(Ljava/lang/String;)Lcom/example/fiddlehead/fiddlehead/check/Misordered;"⟩ : MethodName)) (z := (⟨"com/example/fiddlehead/fiddlehead/check/Misordered", "withPath", "(Ljava/lang/String;)Lcom/example/fiddlehead/fiddlehead/check/Misordered;"⟩ : MethodName)) hown18 (mvT hZ18 (hw _ (List.mem_of_getElem? (i := 59) rfl))) (mvT hZ18 (hw _ (List.mem_of_getElem? (i := 60) rfl))) (notFace_of_selects (args := #[]) (mvT hZ18 (hw _ (List.mem_of_getElem? (i := 62) rfl)))) (mvT hZ18 (hw _ (List.mem_of_getElem? (i := 62) rfl))) (mvT hZ18 (hw _ (List.mem_of_getElem? (i := 61) rfl))) (by decide) (backOf (W := 0) (rmWP l Z a0 hw [] mm sb sa p0 sc sd se T24.heap n0 z25 EI FI0 FI1 FI2 FI3 FI4) hZ18 (hw _ (List.mem_of_getElem? (i := 63) rfl)) (hw _ (List.mem_of_getElem? (i := 39) rfl)) (by decide) (by decide)) q27a q27c (g := (mkF m 54 #[.val (.int p0), .val (.int p1), .val (.int p2), .val (.int p3), .val (.int p4), .val (.int p5), .val (.ref sa), .val (.ref sb), .val (.ref sc), .val (.ref sd), .val (.ref se), .val (.ref mm), .unset] [(.ref sb), (.ref mm)])) rfl (by rw [hml]; rfl) (Steps.refl _) (argsL := [(.ref sb)]) (rest := []) (lenOf pd_9 rfl) rfl (by show 2 * 0 + _ ≤ _; exact Nat.le_of_eq rfl) (hb hby at_54) (fun _ _ => ⟨rfl, rfl, (by decide : 21 + 1 ≤ _), (by decide : 55 + 5 ≤ _)⟩)
  dsimp only [Pt.U, Pt.locs, Pt.cells, Pt.slots] at X27 l27 y27 z27 st27 hQ27
  subst l27 y27 z27
  obtain ⟨rfl, N27q, KW, EW, FW0, FW1, FW2, FW3, FW4⟩ := hQ27
  have N27 := Fr.app N24 N27q
  obtain ⟨q, g27⟩ : ∃ z, z = T24.heap.size := ⟨_, rfl⟩
  rw [← g27] at st27 EW FW0 FW1 FW2 FW3 FW4
  have ne_sa_q : sa ≠ q := Nat.ne_of_lt (Nat.lt_of_lt_of_le (Nat.lt_of_lt_of_le Esa.lt (Nat.le_trans (Nat.le_trans (Nat.le_trans (Nat.le_trans (Nat.le_trans Ksb.1 Ksc.1) Ksd.1) Kse.1) E21.1) KI.1)) (Nat.le_of_eq g27.symm))
  have ne_sb_q : sb ≠ q := Nat.ne_of_lt (Nat.lt_of_lt_of_le (Nat.lt_of_lt_of_le Esb.lt (Nat.le_trans (Nat.le_trans (Nat.le_trans (Nat.le_trans Ksc.1 Ksd.1) Kse.1) E21.1) KI.1)) (Nat.le_of_eq g27.symm))
  have ne_sc_q : sc ≠ q := Nat.ne_of_lt (Nat.lt_of_lt_of_le (Nat.lt_of_lt_of_le Esc.lt (Nat.le_trans (Nat.le_trans (Nat.le_trans Ksd.1 Kse.1) E21.1) KI.1)) (Nat.le_of_eq g27.symm))
  have ne_sd_q : sd ≠ q := Nat.ne_of_lt (Nat.lt_of_lt_of_le (Nat.lt_of_lt_of_le Esd.lt (Nat.le_trans (Nat.le_trans Kse.1 E21.1) KI.1)) (Nat.le_of_eq g27.symm))
  have ne_se_q : se ≠ q := Nat.ne_of_lt (Nat.lt_of_lt_of_le (Nat.lt_of_lt_of_le Ese.lt (Nat.le_trans E21.1 KI.1)) (Nat.le_of_eq g27.symm))
  have ne_mm_q : mm ≠ q := Nat.ne_of_lt (Nat.lt_of_lt_of_le (Nat.lt_of_lt_of_le A21.lt KI.1) (Nat.le_of_eq g27.symm))
  have ge_q : n0 ≤ q := Nat.le_trans z25 (Nat.le_of_eq g27.symm)
  have z28 : n0 ≤ T27.heap.size := Nat.le_trans z25 KW.1
  have go27 : ∀ tgt, Steps p.tables e below (T27.setTop (mkF m 57 #[.val (.int p0), .val (.int p1), .val (.int p2), .val (.int p3), .val (.int p4), .val (.int p5), .val (.ref sa), .val (.ref sb), .val (.ref sc), .val (.ref sd), .val (.ref se), .val (.ref mm), .unset] [(.ref q)])) tgt → Steps p.tables e below E0 tgt := fun tgt kont => go26 tgt (st27.trans kont)
  have go29 : ∀ tgt, Steps p.tables e below (T27.setTop (mkF m 61 #[.val (.int p0), .val (.int p1), .val (.int p2), .val (.int p3), .val (.int p4), .val (.int p5), .val (.ref sa), .val (.ref sb), .val (.ref sc), .val (.ref sd), .val (.ref se), .val (.ref mm), .val (.ref q)] [(.ref q)])) tgt → Steps p.tables e below E0 tgt := fun tgt kont => go27 tgt (by
    show Steps p.tables e below (T27.setTop (mkF m 57 #[.val (.int p0), .val (.int p1), .val (.int p2), .val (.int p3), .val (.int p4), .val (.int p5), .val (.ref sa), .val (.ref sb), .val (.ref sc), .val (.ref sd), .val (.ref se), .val (.ref mm), .unset] [(.ref q)])) tgt
    refine XS.astore X27.here hx rfl (hb hby at_57) rfl rfl (l' := #[.val (.int p0), .val (.int p1), .val (.int p2), .val (.int p3), .val (.int p4), .val (.int p5), .val (.ref sa), .val (.ref sb), .val (.ref sc), .val (.ref sd), .val (.ref se), .val (.ref mm), .val (.ref q)]) rfl ?_
    show Steps p.tables e below (T27.setTop (mkF m 59 #[.val (.int p0), .val (.int p1), .val (.int p2), .val (.int p3), .val (.int p4), .val (.int p5), .val (.ref sa), .val (.ref sb), .val (.ref sc), .val (.ref sd), .val (.ref se), .val (.ref mm), .val (.ref q)] [])) tgt
    refine XS.aload X27.here hx rfl (hb hby at_59) rfl rfl ?_
    exact kont)
  obtain ⟨cq30, kq30, q30a, q30b, q30c⟩ := isOf hZ18 rfl EW
  obtain ⟨_, _, ⟨T30, L30, k30, n30⟩, -, X30, ⟨Lc30, hQ30, l30, y30, z30⟩, st30⟩ := X27.virtualBack hx (y := (⟨"com/example/fiddlehead/fiddlehead/check/Misordered", "path", "()Ljava/lang/String;"⟩ : MethodName)) (z := (⟨"com/example/fiddlehead/fiddlehead/check/Misordered", "path", "()Ljava/lang/String;"⟩ : MethodName)) hown18 (mvT hZ18 (hw _ (List.mem_of_getElem? (i := 66) rfl))) (mvT hZ18 (hw _ (List.mem_of_getElem? (i := 67) rfl))) (notFace_of_selects (args := #[]) (mvT hZ18 (hw _ (List.mem_of_getElem? (i := 69) rfl)))) (mvT hZ18 (hw _ (List.mem_of_getElem? (i := 69) rfl))) (mvT hZ18 (hw _ (List.mem_of_getElem? (i := 68) rfl))) (by decide) (backOf (W := 0) (rmGP l Z a0 hw [] q sb T27.heap n0 z28 FW0) hZ18 (hw _ (List.mem_of_getElem? (i := 70) rfl)) (hw _ (List.mem_of_getElem? (i := 39) rfl)) (by decide) (by decide)) q30a q30c (g := (mkF m 61 #[.val (.int p0), .val (.int p1), .val (.int p2), .val (.int p3), .val (.int p4), .val (.int p5), .val (.ref sa), .val (.ref sb), .val (.ref sc), .val (.ref sd), .val (.ref se), .val (.ref mm), .val (.ref q)] [(.ref q)])) rfl (by rw [hml]; rfl) (Steps.refl _) (argsL := []) (rest := []) (lenOf pd_10 rfl) rfl (by show 2 * 0 + _ ≤ _; exact Nat.le_of_eq rfl) (hb hby at_61) (fun _ _ => ⟨rfl, rfl, (by decide : 22 + 0 ≤ _), (by decide : 60 + 0 ≤ _)⟩)
  dsimp only [Pt.U, Pt.locs, Pt.cells, Pt.slots] at X30 l30 y30 z30 st30 hQ30
  subst l30 y30 z30
  obtain ⟨rfl, N30q, e30⟩ := hQ30
  have N30 := Fr.app N27 N30q
  have go30 : ∀ tgt, Steps p.tables e below (T30.setTop (mkF m 64 #[.val (.int p0), .val (.int p1), .val (.int p2), .val (.int p3), .val (.int p4), .val (.int p5), .val (.ref sa), .val (.ref sb), .val (.ref sc), .val (.ref sd), .val (.ref se), .val (.ref mm), .val (.ref q)] [(.ref sb)])) tgt → Steps p.tables e below E0 tgt := fun tgt kont => go29 tgt (st30.trans kont)
  have go31 : ∀ tgt, Steps p.tables e below (T30.setTop (mkF m 66 #[.val (.int p0), .val (.int p1), .val (.int p2), .val (.int p3), .val (.int p4), .val (.int p5), .val (.ref sa), .val (.ref sb), .val (.ref sc), .val (.ref sd), .val (.ref se), .val (.ref mm), .val (.ref q)] [(.ref sb), (.ref sb)])) tgt → Steps p.tables e below E0 tgt := fun tgt kont => go30 tgt (by
    show Steps p.tables e below (T30.setTop (mkF m 64 #[.val (.int p0), .val (.int p1), .val (.int p2), .val (.int p3), .val (.int p4), .val (.int p5), .val (.ref sa), .val (.ref sb), .val (.ref sc), .val (.ref sd), .val (.ref se), .val (.ref mm), .val (.ref q)] [(.ref sb)])) tgt
    refine XS.aload X30.here hx rfl (hb hby at_64) rfl rfl ?_
    exact kont)
  have f33 : Exa Z T27.heap sb "java/lang/String" := ((((((Esb.keep Ksc).keep Ksd).keep Kse).ext E21).keep KI).keep KW)
  obtain ⟨cq32, kq32, q32a, q32b, q32c⟩ := isOf hZ18 e30 f33
  obtain ⟨_, _, ⟨T32, L32, k32, n32⟩, -, X32, ⟨Lc32, hQ32, l32, y32, z32⟩, st32⟩ := X30.virtualBack hx (y := (⟨"java/lang/String", "equals", "(Ljava/lang/Object;)Z"⟩ : MethodName)) (z := (⟨"java/lang/String", "equals", "(Ljava/lang/Object;)Z"⟩ : MethodName)) hown18 (mvT hZ18 (hw _ (List.mem_of_getElem? (i := 71) rfl))) (mvT hZ18 (hw _ (List.mem_of_getElem? (i := 72) rfl))) (notFace_of_selects (args := #[]) (mvT hZ18 (hw _ (List.mem_of_getElem? (i := 74) rfl)))) (mvT hZ18 (hw _ (List.mem_of_getElem? (i := 74) rfl))) (mvT hZ18 (hw _ (List.mem_of_getElem? (i := 73) rfl))) (by decide) (backOf (W := 0) (rmEQ l Z a0 hw [] sb T27.heap n0 z28 ) hZ18 (hw _ (List.mem_of_getElem? (i := 75) rfl)) (hw _ (List.mem_of_getElem? (i := 7) rfl)) (by decide) (by decide)) q32a q32c (g := (mkF m 66 #[.val (.int p0), .val (.int p1), .val (.int p2), .val (.int p3), .val (.int p4), .val (.int p5), .val (.ref sa), .val (.ref sb), .val (.ref sc), .val (.ref sd), .val (.ref se), .val (.ref mm), .val (.ref q)] [(.ref sb), (.ref sb)])) rfl (by rw [hml]; rfl) (Steps.refl _) (argsL := [(.ref sb)]) (rest := []) (lenOf pd_11 rfl) rfl (by show 2 * 0 + _ ≤ _; exact Nat.le_of_eq rfl) (hb hby at_66) (fun _ _ => ⟨rfl, e30, (by decide : 22 + 0 ≤ _), (by decide : 60 + 0 ≤ _)⟩)
  dsimp only [Pt.U, Pt.locs, Pt.cells, Pt.slots] at X32 l32 y32 z32 st32 hQ32
  subst l32 y32 z32
  obtain ⟨rfl, N32q, e32⟩ := hQ32
  have N32 := Fr.app N30 N32q
  have go32 : ∀ tgt, Steps p.tables e below (T32.setTop (mkF m 69 #[.val (.int p0), .val (.int p1), .val (.int p2), .val (.int p3), .val (.int p4), .val (.int p5), .val (.ref sa), .val (.ref sb), .val (.ref sc), .val (.ref sd), .val (.ref se), .val (.ref mm), .val (.ref q)] [(.int (1 : Int32))])) tgt → Steps p.tables e below E0 tgt := fun tgt kont => go31 tgt (st32.trans kont)
  have go34 : ∀ tgt, Steps p.tables e below (T32.setTop (mkF m 74 #[.val (.int p0), .val (.int p1), .val (.int p2), .val (.int p3), .val (.int p4), .val (.int p5), .val (.ref sa), .val (.ref sb), .val (.ref sc), .val (.ref sd), .val (.ref se), .val (.ref mm), .val (.ref q)] [(.ref q)])) tgt → Steps p.tables e below E0 tgt := fun tgt kont => go32 tgt (by
    show Steps p.tables e below (T32.setTop (mkF m 69 #[.val (.int p0), .val (.int p1), .val (.int p2), .val (.int p3), .val (.int p4), .val (.int p5), .val (.ref sa), .val (.ref sb), .val (.ref sc), .val (.ref sd), .val (.ref se), .val (.ref mm), .val (.ref q)] [(.int (1 : Int32))])) tgt
    refine XS.ifNo X32.here hx rfl (hb hby at_69) rfl ((if0 _ _).trans (feq (by decide)).1) ?_
    show Steps p.tables e below (T32.setTop (mkF m 72 #[.val (.int p0), .val (.int p1), .val (.int p2), .val (.int p3), .val (.int p4), .val (.int p5), .val (.ref sa), .val (.ref sb), .val (.ref sc), .val (.ref sd), .val (.ref se), .val (.ref mm), .val (.ref q)] [])) tgt
    refine XS.aload X32.here hx rfl (hb hby at_72) rfl rfl ?_
    exact kont)
  obtain ⟨cq35, kq35, q35a, q35b, q35c⟩ := isOf hZ18 e32 EW
  obtain ⟨_, _, ⟨T35, L35, k35, n35⟩, -, X35, ⟨Lc35, hQ35, l35, y35, z35⟩, st35⟩ := X32.virtualBack hx (y := (⟨"com/example/fiddlehead/fiddlehead/check/Misordered", "line", "()I"⟩ : MethodName)) (z := (⟨"com/example/fiddlehead/fiddlehead/check/Misordered", "line", "()I"⟩ : MethodName)) hown18 (mvT hZ18 (hw _ (List.mem_of_getElem? (i := 76) rfl))) (mvT hZ18 (hw _ (List.mem_of_getElem? (i := 77) rfl))) (notFace_of_selects (args := #[]) (mvT hZ18 (hw _ (List.mem_of_getElem? (i := 79) rfl)))) (mvT hZ18 (hw _ (List.mem_of_getElem? (i := 79) rfl))) (mvT hZ18 (hw _ (List.mem_of_getElem? (i := 78) rfl))) (by decide) (backOf (W := 0) (rmGL l Z a0 hw [] q p0 T27.heap n0 z28 FW1) hZ18 (hw _ (List.mem_of_getElem? (i := 80) rfl)) (hw _ (List.mem_of_getElem? (i := 39) rfl)) (by decide) (by decide)) q35a q35c (g := (mkF m 74 #[.val (.int p0), .val (.int p1), .val (.int p2), .val (.int p3), .val (.int p4), .val (.int p5), .val (.ref sa), .val (.ref sb), .val (.ref sc), .val (.ref sd), .val (.ref se), .val (.ref mm), .val (.ref q)] [(.ref q)])) rfl (by rw [hml]; rfl) (Steps.refl _) (argsL := []) (rest := []) (lenOf pd_12 rfl) rfl (by show 2 * 0 + _ ≤ _; exact Nat.le_of_eq rfl) (hb hby at_74) (fun _ _ => ⟨rfl, e32, (by decide : 22 + 0 ≤ _), (by decide : 60 + 0 ≤ _)⟩)
  dsimp only [Pt.U, Pt.locs, Pt.cells, Pt.slots] at X35 l35 y35 z35 st35 hQ35
  subst l35 y35 z35
  obtain ⟨rfl, N35q, e35⟩ := hQ35
  have N35 := Fr.app N32 N35q
  have go35 : ∀ tgt, Steps p.tables e below (T35.setTop (mkF m 77 #[.val (.int p0), .val (.int p1), .val (.int p2), .val (.int p3), .val (.int p4), .val (.int p5), .val (.ref sa), .val (.ref sb), .val (.ref sc), .val (.ref sd), .val (.ref se), .val (.ref mm), .val (.ref q)] [(.int p0)])) tgt → Steps p.tables e below E0 tgt := fun tgt kont => go34 tgt (st35.trans kont)
  have go36 : ∀ tgt, Steps p.tables e below (T35.setTop (mkF m 83 #[.val (.int p0), .val (.int p1), .val (.int p2), .val (.int p3), .val (.int p4), .val (.int p5), .val (.ref sa), .val (.ref sb), .val (.ref sc), .val (.ref sd), .val (.ref se), .val (.ref mm), .val (.ref q)] [(.ref q)])) tgt → Steps p.tables e below E0 tgt := fun tgt kont => go35 tgt (by
    show Steps p.tables e below (T35.setTop (mkF m 77 #[.val (.int p0), .val (.int p1), .val (.int p2), .val (.int p3), .val (.int p4), .val (.int p5), .val (.ref sa), .val (.ref sb), .val (.ref sc), .val (.ref sd), .val (.ref se), .val (.ref mm), .val (.ref q)] [(.int p0)])) tgt
    refine XS.iloadN X35.here hx rfl (hb hby at_77) rfl ?_
    show Steps p.tables e below (T35.setTop (mkF m 78 #[.val (.int p0), .val (.int p1), .val (.int p2), .val (.int p3), .val (.int p4), .val (.int p5), .val (.ref sa), .val (.ref sb), .val (.ref sc), .val (.ref sd), .val (.ref se), .val (.ref mm), .val (.ref q)] [(.int p0), (.int p0)])) tgt
    refine XS.icmpNo X35.here hx rfl (hb hby at_78) rfl (teq rfl).2 ?_
    show Steps p.tables e below (T35.setTop (mkF m 81 #[.val (.int p0), .val (.int p1), .val (.int p2), .val (.int p3), .val (.int p4), .val (.int p5), .val (.ref sa), .val (.ref sb), .val (.ref sc), .val (.ref sd), .val (.ref se), .val (.ref mm), .val (.ref q)] [])) tgt
    refine XS.aload X35.here hx rfl (hb hby at_81) rfl rfl ?_
    exact kont)
  obtain ⟨cq37, kq37, q37a, q37b, q37c⟩ := isOf hZ18 e35 EW
  obtain ⟨_, _, ⟨T37, L37, k37, n37⟩, -, X37, ⟨Lc37, hQ37, l37, y37, z37⟩, st37⟩ := X35.virtualBack hx (y := (⟨"com/example/fiddlehead/fiddlehead/check/Misordered", "holder", "()Ljava/lang/String;"⟩ : MethodName)) (z := (⟨"com/example/fiddlehead/fiddlehead/check/Misordered", "holder", "()Ljava/lang/String;"⟩ : MethodName)) hown18 (mvT hZ18 (hw _ (List.mem_of_getElem? (i := 81) rfl))) (mvT hZ18 (hw _ (List.mem_of_getElem? (i := 82) rfl))) (notFace_of_selects (args := #[]) (mvT hZ18 (hw _ (List.mem_of_getElem? (i := 84) rfl)))) (mvT hZ18 (hw _ (List.mem_of_getElem? (i := 84) rfl))) (mvT hZ18 (hw _ (List.mem_of_getElem? (i := 83) rfl))) (by decide) (backOf (W := 0) (rmGH l Z a0 hw [] q sc T27.heap n0 z28 FW2) hZ18 (hw _ (List.mem_of_getElem? (i := 85) rfl)) (hw _ (List.mem_of_getElem? (i := 39) rfl)) (by decide) (by decide)) q37a q37c (g := (mkF m 83 #[.val (.int p0), .val (.int p1), .val (.int p2), .val (.int p3), .val (.int p4), .val (.int p5), .val (.ref sa), .val (.ref sb), .val (.ref sc), .val (.ref sd), .val (.ref se), .val (.ref mm), .val (.ref q)] [(.ref q)])) rfl (by rw [hml]; rfl) (Steps.refl _) (argsL := []) (rest := []) (lenOf pd_10 rfl) rfl (by show 2 * 0 + _ ≤ _; exact Nat.le_of_eq rfl) (hb hby at_83) (fun _ _ => ⟨rfl, e35, (by decide : 22 + 0 ≤ _), (by decide : 60 + 0 ≤ _)⟩)
  dsimp only [Pt.U, Pt.locs, Pt.cells, Pt.slots] at X37 l37 y37 z37 st37 hQ37
  subst l37 y37 z37
  obtain ⟨rfl, N37q, e37⟩ := hQ37
  have N37 := Fr.app N35 N37q
  have go37 : ∀ tgt, Steps p.tables e below (T37.setTop (mkF m 86 #[.val (.int p0), .val (.int p1), .val (.int p2), .val (.int p3), .val (.int p4), .val (.int p5), .val (.ref sa), .val (.ref sb), .val (.ref sc), .val (.ref sd), .val (.ref se), .val (.ref mm), .val (.ref q)] [(.ref sc)])) tgt → Steps p.tables e below E0 tgt := fun tgt kont => go36 tgt (st37.trans kont)
  have go38 : ∀ tgt, Steps p.tables e below (T37.setTop (mkF m 88 #[.val (.int p0), .val (.int p1), .val (.int p2), .val (.int p3), .val (.int p4), .val (.int p5), .val (.ref sa), .val (.ref sb), .val (.ref sc), .val (.ref sd), .val (.ref se), .val (.ref mm), .val (.ref q)] [(.ref sc), (.ref sc)])) tgt → Steps p.tables e below E0 tgt := fun tgt kont => go37 tgt (by
    show Steps p.tables e below (T37.setTop (mkF m 86 #[.val (.int p0), .val (.int p1), .val (.int p2), .val (.int p3), .val (.int p4), .val (.int p5), .val (.ref sa), .val (.ref sb), .val (.ref sc), .val (.ref sd), .val (.ref se), .val (.ref mm), .val (.ref q)] [(.ref sc)])) tgt
    refine XS.aload X37.here hx rfl (hb hby at_86) rfl rfl ?_
    exact kont)
  have f40 : Exa Z T27.heap sc "java/lang/String" := (((((Esc.keep Ksd).keep Kse).ext E21).keep KI).keep KW)
  obtain ⟨cq39, kq39, q39a, q39b, q39c⟩ := isOf hZ18 e37 f40
  obtain ⟨_, _, ⟨T39, L39, k39, n39⟩, -, X39, ⟨Lc39, hQ39, l39, y39, z39⟩, st39⟩ := X37.virtualBack hx (y := (⟨"java/lang/String", "equals", "(Ljava/lang/Object;)Z"⟩ : MethodName)) (z := (⟨"java/lang/String", "equals", "(Ljava/lang/Object;)Z"⟩ : MethodName)) hown18 (mvT hZ18 (hw _ (List.mem_of_getElem? (i := 71) rfl))) (mvT hZ18 (hw _ (List.mem_of_getElem? (i := 72) rfl))) (notFace_of_selects (args := #[]) (mvT hZ18 (hw _ (List.mem_of_getElem? (i := 74) rfl)))) (mvT hZ18 (hw _ (List.mem_of_getElem? (i := 74) rfl))) (mvT hZ18 (hw _ (List.mem_of_getElem? (i := 73) rfl))) (by decide) (backOf (W := 0) (rmEQ l Z a0 hw [] sc T27.heap n0 z28 ) hZ18 (hw _ (List.mem_of_getElem? (i := 75) rfl)) (hw _ (List.mem_of_getElem? (i := 7) rfl)) (by decide) (by decide)) q39a q39c (g := (mkF m 88 #[.val (.int p0), .val (.int p1), .val (.int p2), .val (.int p3), .val (.int p4), .val (.int p5), .val (.ref sa), .val (.ref sb), .val (.ref sc), .val (.ref sd), .val (.ref se), .val (.ref mm), .val (.ref q)] [(.ref sc), (.ref sc)])) rfl (by rw [hml]; rfl) (Steps.refl _) (argsL := [(.ref sc)]) (rest := []) (lenOf pd_11 rfl) rfl (by show 2 * 0 + _ ≤ _; exact Nat.le_of_eq rfl) (hb hby at_88) (fun _ _ => ⟨rfl, e37, (by decide : 22 + 0 ≤ _), (by decide : 60 + 0 ≤ _)⟩)
  dsimp only [Pt.U, Pt.locs, Pt.cells, Pt.slots] at X39 l39 y39 z39 st39 hQ39
  subst l39 y39 z39
  obtain ⟨rfl, N39q, e39⟩ := hQ39
  have N39 := Fr.app N37 N39q
  have go39 : ∀ tgt, Steps p.tables e below (T39.setTop (mkF m 91 #[.val (.int p0), .val (.int p1), .val (.int p2), .val (.int p3), .val (.int p4), .val (.int p5), .val (.ref sa), .val (.ref sb), .val (.ref sc), .val (.ref sd), .val (.ref se), .val (.ref mm), .val (.ref q)] [(.int (1 : Int32))])) tgt → Steps p.tables e below E0 tgt := fun tgt kont => go38 tgt (st39.trans kont)
  have go41 : ∀ tgt, Steps p.tables e below (T39.setTop (mkF m 96 #[.val (.int p0), .val (.int p1), .val (.int p2), .val (.int p3), .val (.int p4), .val (.int p5), .val (.ref sa), .val (.ref sb), .val (.ref sc), .val (.ref sd), .val (.ref se), .val (.ref mm), .val (.ref q)] [(.ref q)])) tgt → Steps p.tables e below E0 tgt := fun tgt kont => go39 tgt (by
    show Steps p.tables e below (T39.setTop (mkF m 91 #[.val (.int p0), .val (.int p1), .val (.int p2), .val (.int p3), .val (.int p4), .val (.int p5), .val (.ref sa), .val (.ref sb), .val (.ref sc), .val (.ref sd), .val (.ref se), .val (.ref mm), .val (.ref q)] [(.int (1 : Int32))])) tgt
    refine XS.ifNo X39.here hx rfl (hb hby at_91) rfl ((if0 _ _).trans (feq (by decide)).1) ?_
    show Steps p.tables e below (T39.setTop (mkF m 94 #[.val (.int p0), .val (.int p1), .val (.int p2), .val (.int p3), .val (.int p4), .val (.int p5), .val (.ref sa), .val (.ref sb), .val (.ref sc), .val (.ref sd), .val (.ref se), .val (.ref mm), .val (.ref q)] [])) tgt
    refine XS.aload X39.here hx rfl (hb hby at_94) rfl rfl ?_
    exact kont)
  obtain ⟨cq42, kq42, q42a, q42b, q42c⟩ := isOf hZ18 e39 EW
  obtain ⟨_, _, ⟨T42, L42, k42, n42⟩, -, X42, ⟨Lc42, hQ42, l42, y42, z42⟩, st42⟩ := X39.virtualBack hx (y := (⟨"com/example/fiddlehead/fiddlehead/check/Misordered", "name", "()Ljava/lang/String;"⟩ : MethodName)) (z := (⟨"com/example/fiddlehead/fiddlehead/check/Misordered", "name", "()Ljava/lang/String;"⟩ : MethodName)) hown18 (mvT hZ18 (hw _ (List.mem_of_getElem? (i := 86) rfl))) (mvT hZ18 (hw _ (List.mem_of_getElem? (i := 87) rfl))) (notFace_of_selects (args := #[]) (mvT hZ18 (hw _ (List.mem_of_getElem? (i := 89) rfl)))) (mvT hZ18 (hw _ (List.mem_of_getElem? (i := 89) rfl))) (mvT hZ18 (hw _ (List.mem_of_getElem? (i := 88) rfl))) (by decide) (backOf (W := 0) (rmGN l Z a0 hw [] q sd T27.heap n0 z28 FW3) hZ18 (hw _ (List.mem_of_getElem? (i := 90) rfl)) (hw _ (List.mem_of_getElem? (i := 39) rfl)) (by decide) (by decide)) q42a q42c (g := (mkF m 96 #[.val (.int p0), .val (.int p1), .val (.int p2), .val (.int p3), .val (.int p4), .val (.int p5), .val (.ref sa), .val (.ref sb), .val (.ref sc), .val (.ref sd), .val (.ref se), .val (.ref mm), .val (.ref q)] [(.ref q)])) rfl (by rw [hml]; rfl) (Steps.refl _) (argsL := []) (rest := []) (lenOf pd_10 rfl) rfl (by show 2 * 0 + _ ≤ _; exact Nat.le_of_eq rfl) (hb hby at_96) (fun _ _ => ⟨rfl, e39, (by decide : 22 + 0 ≤ _), (by decide : 60 + 0 ≤ _)⟩)
  dsimp only [Pt.U, Pt.locs, Pt.cells, Pt.slots] at X42 l42 y42 z42 st42 hQ42
  subst l42 y42 z42
  obtain ⟨rfl, N42q, e42⟩ := hQ42
  have N42 := Fr.app N39 N42q
  have go42 : ∀ tgt, Steps p.tables e below (T42.setTop (mkF m 99 #[.val (.int p0), .val (.int p1), .val (.int p2), .val (.int p3), .val (.int p4), .val (.int p5), .val (.ref sa), .val (.ref sb), .val (.ref sc), .val (.ref sd), .val (.ref se), .val (.ref mm), .val (.ref q)] [(.ref sd)])) tgt → Steps p.tables e below E0 tgt := fun tgt kont => go41 tgt (st42.trans kont)
  have go43 : ∀ tgt, Steps p.tables e below (T42.setTop (mkF m 101 #[.val (.int p0), .val (.int p1), .val (.int p2), .val (.int p3), .val (.int p4), .val (.int p5), .val (.ref sa), .val (.ref sb), .val (.ref sc), .val (.ref sd), .val (.ref se), .val (.ref mm), .val (.ref q)] [(.ref sd), (.ref sd)])) tgt → Steps p.tables e below E0 tgt := fun tgt kont => go42 tgt (by
    show Steps p.tables e below (T42.setTop (mkF m 99 #[.val (.int p0), .val (.int p1), .val (.int p2), .val (.int p3), .val (.int p4), .val (.int p5), .val (.ref sa), .val (.ref sb), .val (.ref sc), .val (.ref sd), .val (.ref se), .val (.ref mm), .val (.ref q)] [(.ref sd)])) tgt
    refine XS.aload X42.here hx rfl (hb hby at_99) rfl rfl ?_
    exact kont)
  have f45 : Exa Z T27.heap sd "java/lang/String" := ((((Esd.keep Kse).ext E21).keep KI).keep KW)
  obtain ⟨cq44, kq44, q44a, q44b, q44c⟩ := isOf hZ18 e42 f45
  obtain ⟨_, _, ⟨T44, L44, k44, n44⟩, -, X44, ⟨Lc44, hQ44, l44, y44, z44⟩, st44⟩ := X42.virtualBack hx (y := (⟨"java/lang/String", "equals", "(Ljava/lang/Object;)Z"⟩ : MethodName)) (z := (⟨"java/lang/String", "equals", "(Ljava/lang/Object;)Z"⟩ : MethodName)) hown18 (mvT hZ18 (hw _ (List.mem_of_getElem? (i := 71) rfl))) (mvT hZ18 (hw _ (List.mem_of_getElem? (i := 72) rfl))) (notFace_of_selects (args := #[]) (mvT hZ18 (hw _ (List.mem_of_getElem? (i := 74) rfl)))) (mvT hZ18 (hw _ (List.mem_of_getElem? (i := 74) rfl))) (mvT hZ18 (hw _ (List.mem_of_getElem? (i := 73) rfl))) (by decide) (backOf (W := 0) (rmEQ l Z a0 hw [] sd T27.heap n0 z28 ) hZ18 (hw _ (List.mem_of_getElem? (i := 75) rfl)) (hw _ (List.mem_of_getElem? (i := 7) rfl)) (by decide) (by decide)) q44a q44c (g := (mkF m 101 #[.val (.int p0), .val (.int p1), .val (.int p2), .val (.int p3), .val (.int p4), .val (.int p5), .val (.ref sa), .val (.ref sb), .val (.ref sc), .val (.ref sd), .val (.ref se), .val (.ref mm), .val (.ref q)] [(.ref sd), (.ref sd)])) rfl (by rw [hml]; rfl) (Steps.refl _) (argsL := [(.ref sd)]) (rest := []) (lenOf pd_11 rfl) rfl (by show 2 * 0 + _ ≤ _; exact Nat.le_of_eq rfl) (hb hby at_101) (fun _ _ => ⟨rfl, e42, (by decide : 22 + 0 ≤ _), (by decide : 60 + 0 ≤ _)⟩)
  dsimp only [Pt.U, Pt.locs, Pt.cells, Pt.slots] at X44 l44 y44 z44 st44 hQ44
  subst l44 y44 z44
  obtain ⟨rfl, N44q, e44⟩ := hQ44
  have N44 := Fr.app N42 N44q
  have go44 : ∀ tgt, Steps p.tables e below (T44.setTop (mkF m 104 #[.val (.int p0), .val (.int p1), .val (.int p2), .val (.int p3), .val (.int p4), .val (.int p5), .val (.ref sa), .val (.ref sb), .val (.ref sc), .val (.ref sd), .val (.ref se), .val (.ref mm), .val (.ref q)] [(.int (1 : Int32))])) tgt → Steps p.tables e below E0 tgt := fun tgt kont => go43 tgt (st44.trans kont)
  have go46 : ∀ tgt, Steps p.tables e below (T44.setTop (mkF m 109 #[.val (.int p0), .val (.int p1), .val (.int p2), .val (.int p3), .val (.int p4), .val (.int p5), .val (.ref sa), .val (.ref sb), .val (.ref sc), .val (.ref sd), .val (.ref se), .val (.ref mm), .val (.ref q)] [(.ref q)])) tgt → Steps p.tables e below E0 tgt := fun tgt kont => go44 tgt (by
    show Steps p.tables e below (T44.setTop (mkF m 104 #[.val (.int p0), .val (.int p1), .val (.int p2), .val (.int p3), .val (.int p4), .val (.int p5), .val (.ref sa), .val (.ref sb), .val (.ref sc), .val (.ref sd), .val (.ref se), .val (.ref mm), .val (.ref q)] [(.int (1 : Int32))])) tgt
    refine XS.ifNo X44.here hx rfl (hb hby at_104) rfl ((if0 _ _).trans (feq (by decide)).1) ?_
    show Steps p.tables e below (T44.setTop (mkF m 107 #[.val (.int p0), .val (.int p1), .val (.int p2), .val (.int p3), .val (.int p4), .val (.int p5), .val (.ref sa), .val (.ref sb), .val (.ref sc), .val (.ref sd), .val (.ref se), .val (.ref mm), .val (.ref q)] [])) tgt
    refine XS.aload X44.here hx rfl (hb hby at_107) rfl rfl ?_
    exact kont)
  obtain ⟨cq47, kq47, q47a, q47b, q47c⟩ := isOf hZ18 e44 EW
  obtain ⟨_, _, ⟨T47, L47, k47, n47⟩, -, X47, ⟨Lc47, hQ47, l47, y47, z47⟩, st47⟩ := X44.virtualBack hx (y := (⟨"com/example/fiddlehead/fiddlehead/check/Misordered", "sibling", "()Ljava/lang/String;"⟩ : MethodName)) (z := (⟨"com/example/fiddlehead/fiddlehead/check/Misordered", "sibling", "()Ljava/lang/String;"⟩ : MethodName)) hown18 (mvT hZ18 (hw _ (List.mem_of_getElem? (i := 91) rfl))) (mvT hZ18 (hw _ (List.mem_of_getElem? (i := 92) rfl))) (notFace_of_selects (args := #[]) (mvT hZ18 (hw _ (List.mem_of_getElem? (i := 94) rfl)))) (mvT hZ18 (hw _ (List.mem_of_getElem? (i := 94) rfl))) (mvT hZ18 (hw _ (List.mem_of_getElem? (i := 93) rfl))) (by decide) (backOf (W := 0) (rmGS l Z a0 hw [] q se T27.heap n0 z28 FW4) hZ18 (hw _ (List.mem_of_getElem? (i := 95) rfl)) (hw _ (List.mem_of_getElem? (i := 39) rfl)) (by decide) (by decide)) q47a q47c (g := (mkF m 109 #[.val (.int p0), .val (.int p1), .val (.int p2), .val (.int p3), .val (.int p4), .val (.int p5), .val (.ref sa), .val (.ref sb), .val (.ref sc), .val (.ref sd), .val (.ref se), .val (.ref mm), .val (.ref q)] [(.ref q)])) rfl (by rw [hml]; rfl) (Steps.refl _) (argsL := []) (rest := []) (lenOf pd_10 rfl) rfl (by show 2 * 0 + _ ≤ _; exact Nat.le_of_eq rfl) (hb hby at_109) (fun _ _ => ⟨rfl, e44, (by decide : 22 + 0 ≤ _), (by decide : 60 + 0 ≤ _)⟩)
  dsimp only [Pt.U, Pt.locs, Pt.cells, Pt.slots] at X47 l47 y47 z47 st47 hQ47
  subst l47 y47 z47
  obtain ⟨rfl, N47q, e47⟩ := hQ47
  have N47 := Fr.app N44 N47q
  have go47 : ∀ tgt, Steps p.tables e below (T47.setTop (mkF m 112 #[.val (.int p0), .val (.int p1), .val (.int p2), .val (.int p3), .val (.int p4), .val (.int p5), .val (.ref sa), .val (.ref sb), .val (.ref sc), .val (.ref sd), .val (.ref se), .val (.ref mm), .val (.ref q)] [(.ref se)])) tgt → Steps p.tables e below E0 tgt := fun tgt kont => go46 tgt (st47.trans kont)
  have go48 : ∀ tgt, Steps p.tables e below (T47.setTop (mkF m 114 #[.val (.int p0), .val (.int p1), .val (.int p2), .val (.int p3), .val (.int p4), .val (.int p5), .val (.ref sa), .val (.ref sb), .val (.ref sc), .val (.ref sd), .val (.ref se), .val (.ref mm), .val (.ref q)] [(.ref se), (.ref se)])) tgt → Steps p.tables e below E0 tgt := fun tgt kont => go47 tgt (by
    show Steps p.tables e below (T47.setTop (mkF m 112 #[.val (.int p0), .val (.int p1), .val (.int p2), .val (.int p3), .val (.int p4), .val (.int p5), .val (.ref sa), .val (.ref sb), .val (.ref sc), .val (.ref sd), .val (.ref se), .val (.ref mm), .val (.ref q)] [(.ref se)])) tgt
    refine XS.aload X47.here hx rfl (hb hby at_112) rfl rfl ?_
    exact kont)
  have f50 : Exa Z T27.heap se "java/lang/String" := (((Ese.ext E21).keep KI).keep KW)
  obtain ⟨cq49, kq49, q49a, q49b, q49c⟩ := isOf hZ18 e47 f50
  obtain ⟨_, _, ⟨T49, L49, k49, n49⟩, -, X49, ⟨Lc49, hQ49, l49, y49, z49⟩, st49⟩ := X47.virtualBack hx (y := (⟨"java/lang/String", "equals", "(Ljava/lang/Object;)Z"⟩ : MethodName)) (z := (⟨"java/lang/String", "equals", "(Ljava/lang/Object;)Z"⟩ : MethodName)) hown18 (mvT hZ18 (hw _ (List.mem_of_getElem? (i := 71) rfl))) (mvT hZ18 (hw _ (List.mem_of_getElem? (i := 72) rfl))) (notFace_of_selects (args := #[]) (mvT hZ18 (hw _ (List.mem_of_getElem? (i := 74) rfl)))) (mvT hZ18 (hw _ (List.mem_of_getElem? (i := 74) rfl))) (mvT hZ18 (hw _ (List.mem_of_getElem? (i := 73) rfl))) (by decide) (backOf (W := 0) (rmEQ l Z a0 hw [] se T27.heap n0 z28 ) hZ18 (hw _ (List.mem_of_getElem? (i := 75) rfl)) (hw _ (List.mem_of_getElem? (i := 7) rfl)) (by decide) (by decide)) q49a q49c (g := (mkF m 114 #[.val (.int p0), .val (.int p1), .val (.int p2), .val (.int p3), .val (.int p4), .val (.int p5), .val (.ref sa), .val (.ref sb), .val (.ref sc), .val (.ref sd), .val (.ref se), .val (.ref mm), .val (.ref q)] [(.ref se), (.ref se)])) rfl (by rw [hml]; rfl) (Steps.refl _) (argsL := [(.ref se)]) (rest := []) (lenOf pd_11 rfl) rfl (by show 2 * 0 + _ ≤ _; exact Nat.le_of_eq rfl) (hb hby at_114) (fun _ _ => ⟨rfl, e47, (by decide : 22 + 0 ≤ _), (by decide : 60 + 0 ≤ _)⟩)
  dsimp only [Pt.U, Pt.locs, Pt.cells, Pt.slots] at X49 l49 y49 z49 st49 hQ49
  subst l49 y49 z49
  obtain ⟨rfl, N49q, e49⟩ := hQ49
  have N49 := Fr.app N47 N49q
  have go49 : ∀ tgt, Steps p.tables e below (T49.setTop (mkF m 117 #[.val (.int p0), .val (.int p1), .val (.int p2), .val (.int p3), .val (.int p4), .val (.int p5), .val (.ref sa), .val (.ref sb), .val (.ref sc), .val (.ref sd), .val (.ref se), .val (.ref mm), .val (.ref q)] [(.int (1 : Int32))])) tgt → Steps p.tables e below E0 tgt := fun tgt kont => go48 tgt (st49.trans kont)
  have f51 : Fld Z T27.heap mm "com/example/fiddlehead/fiddlehead/check/Misordered" "path" "Ljava/lang/String;" (.ref sa) := (FI0.keep KW nin0)
  have go52 : ∀ tgt, Steps p.tables e below (T49.setTop (mkF m 122 #[.val (.int p0), .val (.int p1), .val (.int p2), .val (.int p3), .val (.int p4), .val (.int p5), .val (.ref sa), .val (.ref sb), .val (.ref sc), .val (.ref sd), .val (.ref se), .val (.ref mm), .val (.ref q)] [(.ref mm)])) tgt → Steps p.tables e below E0 tgt := fun tgt kont => go49 tgt (by
    show Steps p.tables e below (T49.setTop (mkF m 117 #[.val (.int p0), .val (.int p1), .val (.int p2), .val (.int p3), .val (.int p4), .val (.int p5), .val (.ref sa), .val (.ref sb), .val (.ref sc), .val (.ref sd), .val (.ref se), .val (.ref mm), .val (.ref q)] [(.int (1 : Int32))])) tgt
    refine XS.ifNo X49.here hx rfl (hb hby at_117) rfl ((if0 _ _).trans (feq (by decide)).1) ?_
    show Steps p.tables e below (T49.setTop (mkF m 120 #[.val (.int p0), .val (.int p1), .val (.int p2), .val (.int p3), .val (.int p4), .val (.int p5), .val (.ref sa), .val (.ref sb), .val (.ref sc), .val (.ref sd), .val (.ref se), .val (.ref mm), .val (.ref q)] [])) tgt
    refine XS.aload X49.here hx rfl (hb hby at_120) rfl rfl ?_
    exact kont)
  have f54 : Exa Z T27.heap mm "com/example/fiddlehead/fiddlehead/check/Misordered" := (EI.keep KW)
  obtain ⟨cq53, kq53, q53a, q53b, q53c⟩ := isOf hZ18 e49 f54
  obtain ⟨_, _, ⟨T53, L53, k53, n53⟩, -, X53, ⟨Lc53, hQ53, l53, y53, z53⟩, st53⟩ := X49.virtualBack hx (y := (⟨"com/example/fiddlehead/fiddlehead/check/Misordered", "path", "()Ljava/lang/String;"⟩ : MethodName)) (z := (⟨"com/example/fiddlehead/fiddlehead/check/Misordered", "path", "()Ljava/lang/String;"⟩ : MethodName)) hown18 (mvT hZ18 (hw _ (List.mem_of_getElem? (i := 66) rfl))) (mvT hZ18 (hw _ (List.mem_of_getElem? (i := 67) rfl))) (notFace_of_selects (args := #[]) (mvT hZ18 (hw _ (List.mem_of_getElem? (i := 69) rfl)))) (mvT hZ18 (hw _ (List.mem_of_getElem? (i := 69) rfl))) (mvT hZ18 (hw _ (List.mem_of_getElem? (i := 68) rfl))) (by decide) (backOf (W := 0) (rmGP l Z a0 hw [] mm sa T27.heap n0 z28 f51) hZ18 (hw _ (List.mem_of_getElem? (i := 70) rfl)) (hw _ (List.mem_of_getElem? (i := 39) rfl)) (by decide) (by decide)) q53a q53c (g := (mkF m 122 #[.val (.int p0), .val (.int p1), .val (.int p2), .val (.int p3), .val (.int p4), .val (.int p5), .val (.ref sa), .val (.ref sb), .val (.ref sc), .val (.ref sd), .val (.ref se), .val (.ref mm), .val (.ref q)] [(.ref mm)])) rfl (by rw [hml]; rfl) (Steps.refl _) (argsL := []) (rest := []) (lenOf pd_10 rfl) rfl (by show 2 * 0 + _ ≤ _; exact Nat.le_of_eq rfl) (hb hby at_122) (fun _ _ => ⟨rfl, e49, (by decide : 22 + 0 ≤ _), (by decide : 60 + 0 ≤ _)⟩)
  dsimp only [Pt.U, Pt.locs, Pt.cells, Pt.slots] at X53 l53 y53 z53 st53 hQ53
  subst l53 y53 z53
  obtain ⟨rfl, N53q, e53⟩ := hQ53
  have N53 := Fr.app N49 N53q
  have go53 : ∀ tgt, Steps p.tables e below (T53.setTop (mkF m 125 #[.val (.int p0), .val (.int p1), .val (.int p2), .val (.int p3), .val (.int p4), .val (.int p5), .val (.ref sa), .val (.ref sb), .val (.ref sc), .val (.ref sd), .val (.ref se), .val (.ref mm), .val (.ref q)] [(.ref sa)])) tgt → Steps p.tables e below E0 tgt := fun tgt kont => go52 tgt (st53.trans kont)
  have go55 : ∀ tgt, Steps p.tables e below (T53.setTop (mkF m 127 #[.val (.int p0), .val (.int p1), .val (.int p2), .val (.int p3), .val (.int p4), .val (.int p5), .val (.ref sa), .val (.ref sb), .val (.ref sc), .val (.ref sd), .val (.ref se), .val (.ref mm), .val (.ref q)] [(.ref sa), (.ref sa)])) tgt → Steps p.tables e below E0 tgt := fun tgt kont => go53 tgt (by
    show Steps p.tables e below (T53.setTop (mkF m 125 #[.val (.int p0), .val (.int p1), .val (.int p2), .val (.int p3), .val (.int p4), .val (.int p5), .val (.ref sa), .val (.ref sb), .val (.ref sc), .val (.ref sd), .val (.ref se), .val (.ref mm), .val (.ref q)] [(.ref sa)])) tgt
    refine XS.aload X53.here hx rfl (hb hby at_125) rfl rfl ?_
    exact kont)
  have f57 : Exa Z T27.heap sa "java/lang/String" := (((((((Esa.keep Ksb).keep Ksc).keep Ksd).keep Kse).ext E21).keep KI).keep KW)
  obtain ⟨cq56, kq56, q56a, q56b, q56c⟩ := isOf hZ18 e53 f57
  obtain ⟨_, _, ⟨T56, L56, k56, n56⟩, -, X56, ⟨Lc56, hQ56, l56, y56, z56⟩, st56⟩ := X53.virtualBack hx (y := (⟨"java/lang/String", "equals", "(Ljava/lang/Object;)Z"⟩ : MethodName)) (z := (⟨"java/lang/String", "equals", "(Ljava/lang/Object;)Z"⟩ : MethodName)) hown18 (mvT hZ18 (hw _ (List.mem_of_getElem? (i := 71) rfl))) (mvT hZ18 (hw _ (List.mem_of_getElem? (i := 72) rfl))) (notFace_of_selects (args := #[]) (mvT hZ18 (hw _ (List.mem_of_getElem? (i := 74) rfl)))) (mvT hZ18 (hw _ (List.mem_of_getElem? (i := 74) rfl))) (mvT hZ18 (hw _ (List.mem_of_getElem? (i := 73) rfl))) (by decide) (backOf (W := 0) (rmEQ l Z a0 hw [] sa T27.heap n0 z28 ) hZ18 (hw _ (List.mem_of_getElem? (i := 75) rfl)) (hw _ (List.mem_of_getElem? (i := 7) rfl)) (by decide) (by decide)) q56a q56c (g := (mkF m 127 #[.val (.int p0), .val (.int p1), .val (.int p2), .val (.int p3), .val (.int p4), .val (.int p5), .val (.ref sa), .val (.ref sb), .val (.ref sc), .val (.ref sd), .val (.ref se), .val (.ref mm), .val (.ref q)] [(.ref sa), (.ref sa)])) rfl (by rw [hml]; rfl) (Steps.refl _) (argsL := [(.ref sa)]) (rest := []) (lenOf pd_11 rfl) rfl (by show 2 * 0 + _ ≤ _; exact Nat.le_of_eq rfl) (hb hby at_127) (fun _ _ => ⟨rfl, e53, (by decide : 22 + 0 ≤ _), (by decide : 60 + 0 ≤ _)⟩)
  dsimp only [Pt.U, Pt.locs, Pt.cells, Pt.slots] at X56 l56 y56 z56 st56 hQ56
  subst l56 y56 z56
  obtain ⟨rfl, N56q, e56⟩ := hQ56
  have N56 := Fr.app N53 N56q
  have go56 : ∀ tgt, Steps p.tables e below (T56.setTop (mkF m 130 #[.val (.int p0), .val (.int p1), .val (.int p2), .val (.int p3), .val (.int p4), .val (.int p5), .val (.ref sa), .val (.ref sb), .val (.ref sc), .val (.ref sd), .val (.ref se), .val (.ref mm), .val (.ref q)] [(.int (1 : Int32))])) tgt → Steps p.tables e below E0 tgt := fun tgt kont => go55 tgt (st56.trans kont)
  have go58 : ∀ tgt, Steps p.tables e below (T56.setTop (mkF m 138 #[.val (.int p0), .val (.int p1), .val (.int p2), .val (.int p3), .val (.int p4), .val (.int p5), .val (.ref sa), .val (.ref sb), .val (.ref sc), .val (.ref sd), .val (.ref se), .val (.ref mm), .val (.ref q)] [(.int (1 : Int32))])) tgt → Steps p.tables e below E0 tgt := fun tgt kont => go56 tgt (by
    show Steps p.tables e below (T56.setTop (mkF m 130 #[.val (.int p0), .val (.int p1), .val (.int p2), .val (.int p3), .val (.int p4), .val (.int p5), .val (.ref sa), .val (.ref sb), .val (.ref sc), .val (.ref sd), .val (.ref se), .val (.ref mm), .val (.ref q)] [(.int (1 : Int32))])) tgt
    refine XS.ifNo X56.here hx rfl (hb hby at_130) rfl ((if0 _ _).trans (feq (by decide)).1) ?_
    show Steps p.tables e below (T56.setTop (mkF m 133 #[.val (.int p0), .val (.int p1), .val (.int p2), .val (.int p3), .val (.int p4), .val (.int p5), .val (.ref sa), .val (.ref sb), .val (.ref sc), .val (.ref sd), .val (.ref se), .val (.ref mm), .val (.ref q)] [])) tgt
    refine XS.iconst X56.here hx rfl (hb hby at_133) ?_
    show Steps p.tables e below (T56.setTop (mkF m 134 #[.val (.int p0), .val (.int p1), .val (.int p2), .val (.int p3), .val (.int p4), .val (.int p5), .val (.ref sa), .val (.ref sb), .val (.ref sc), .val (.ref sd), .val (.ref se), .val (.ref mm), .val (.ref q)] [(.int (1 : Int32))])) tgt
    refine XS.goto X56.here hx rfl (pc0 := 134) (pc' := 138) rfl (hb hby at_134) (by decide) (by decide) ?_
    exact kont)
  obtain ⟨fs, hr, hrun, hended, hW⟩ := X56.leaveW hS18 (by rw [e56]; exact (Nat.le_trans (Nat.le_refl _) (Nat.le_trans (Nat.le_trans E21.1 KI.1) KW.1))) (v := some (.int (1 : Int32))) (fun h => by rw [Bd.returns] at h; cases h)
  refine ⟨_, _, go58 _ ?_, hrun, hended, _, _, rfl, ?_, hW.1, hW.2.1, hW.2.2.1, hW.2.2.2.mono (by decide) (by decide)⟩
  · show Steps p.tables e below (T56.setTop (mkF m 138 #[.val (.int p0), .val (.int p1), .val (.int p2), .val (.int p3), .val (.int p4), .val (.int p5), .val (.ref sa), .val (.ref sb), .val (.ref sc), .val (.ref sd), .val (.ref se), .val (.ref mm), .val (.ref q)] [(.int (1 : Int32))])) _
    exact retN X56 hx (t := .boolean) Bd.returns (by simp) (hb hby at_138) hr
  · show QL Z p0 p1 p2 p3 p4 p5 G h0 n0 _ T56.heap _ T56.vm
    rw [e56]
    exact ⟨rfl, N56⟩
set_option maxRecDepth 65536 in
set_option maxHeartbeats 40000000 in
theorem comes_1 {Post : Tables → Env → Array Value → State → Outcome → State → Prop} (hpost : ∀ tb e args s v u, (limb_1_1.after args s (.returned v) u = true ∧ limb_1_2.after args s (.returned v) u = true ∧ True) → ReturnedEndW s (.returned v) u (Jvm.fieldLocs frame_1_writes args s ++ Jvm.arrayLocs frame_1_arrays args s ++ Jvm.staticLocs frame_1_statics s) 48 1216 → Post tb e args s (.returned v) u) :
    ArmFor flags0 classFile x code maxLocals ret World_1 tables_1 room_1 Calls_1 rest_1 Pre_1 Post := by
  intro l hfl _ _ p e ha hc hk s m args below hf hA hF happ hP
  obtain ⟨hcalls, hrest, hpre⟩ := hP
  obtain ⟨-, -, -, hnamed, -, -, -, hat⟩ := (Spec.applies_iff hf).mp happ
  obtain ⟨hg, hn⟩ := and_e (Cond.before_iff.mp (show (Jvm.Cond.and given_1 narrow_1).before args s = true from hpre))
  obtain ⟨h1, r0⟩ := and_e hg
  obtain ⟨t0, r1⟩ := and_e r0
  obtain ⟨t1, r2⟩ := and_e r1
  obtain ⟨t2, r3⟩ := and_e r2
  obtain ⟨t3, r4⟩ := and_e r3
  obtain ⟨t4, r5⟩ := and_e r4
  have t5 := r5
  obtain ⟨w0, w1, w2, w3, w4, w5, rfl⟩ : ∃ w0 w1 w2 w3 w4 w5 : Value, args = #[w0, w1, w2, w3, w4, w5] := by
    have hs : args.size = 6 := by simpa [Cond.value, given_1] using h1
    obtain ⟨L⟩ := args
    match L, hs with
    | [w0, w1, w2, w3, w4, w5], _ => exact ⟨w0, w1, w2, w3, w4, w5, rfl⟩
  have hw := fun d (hd : d ∈ tables_1) => atoms_spec (ws := Jvm.Cond.code x code maxLocals ret :: tables_1) hat d (List.mem_cons_of_mem _ hd)
  have hfit : Fit s := fun {y c} hc i hi => by
    obtain ⟨ha, rfl⟩ := Array.getElem?_eq_some_iff.mp hc
    have q := List.all_eq_true.mp ((Array.all_eq_true_iff_forall_mem.mp hF) _ (Array.getElem_mem ha)) i (List.mem_range.mpr hi)
    simpa [Array.getElem?_eq_getElem hi] using q
  obtain ⟨i0, e0⟩ := is_v t0
  obtain rfl : w0 = (.int i0) := Option.some.inj e0
  obtain ⟨i1, e1⟩ := is_v t1
  obtain rfl : w1 = (.int i1) := Option.some.inj e1
  obtain ⟨i2, e2⟩ := is_v t2
  obtain rfl : w2 = (.int i2) := Option.some.inj e2
  obtain ⟨i3, e3⟩ := is_v t3
  obtain rfl : w3 = (.int i3) := Option.some.inj e3
  obtain ⟨i4, e4⟩ := is_v t4
  obtain rfl : w4 = (.int i4) := Option.some.inj e4
  obtain ⟨i5, e5⟩ := is_v t5
  obtain rfl : w5 = (.int i5) := Option.some.inj e5
  obtain ⟨hsets, hown0⟩ := atoms_of _ (rest_1_c_eq ▸ (show rest_1_c.before _ s = true from hrest))
  have nC := not_v (Cond.before_iff.mp (hsets _ (List.mem_of_getElem? (i := 2) rfl)))
  obtain ⟨iC, eC⟩ := is_v (Cond.before_iff.mp (hsets _ (List.mem_of_getElem? (i := 1) rfl)))
  have SC : Sta s s.heap "java/lang/String" "COMPACT_STRINGS" "Z" (.int iC) := Sta.start eC (Or.inl (hsets _ (List.mem_of_getElem? (i := 0) rfl)))
  have cC : ¬ (iC = (0 : Int32)) := gotF (Cond.eq_ints eC (Term.int_eval (0))) nC
  have hH : Jvm.Lit.constHeld s "java/lang/String" 7 := hcalls.1 ("java/lang/String", 7) (by simp [consts_1])
  have hCW : Jvm.Lit.compactW.before #[] s = true := hsets _ (List.mem_of_getElem? (i := 2) rfl)
  obtain ⟨n, o, h1, h2, h3, _, L, rfl, ⟨rfl, N⟩, hq⟩ := rmL l s _ hw tables_1 i0 i1 i2 i3 i4 i5 iC  s.heap s.heap.size (Nat.le_refl _)  SC cC (Old.start s) hH hCW p e ha hc hk s m _ below hf ((Spec.applies_iff_loose hf).mp happ).1 ⟨rfl, State.Warmed39.refl s, rfl, (Or.inl IB.start)⟩ trivial
  refine ⟨n, _, h1, h2, h3, hpost _ _ _ _ _ _ ⟨Cond.after_iff.mpr rfl, Cond.after_iff.mpr (eq_i res_at (Term.int_eval (1)) rfl), trivial⟩ ⟨hq.1, hq.2.1, hq.2.2.1, (hq.2.2.2.sift fun y hy => Or.inr (N y hy)).mono (by decide) (by decide)⟩⟩
theorem main_1_1 : Claimed_1_1 := comes_1 fun _ _ _ _ _ _ h hF => ⟨h.1, hF⟩
theorem main_1_2 : Claimed_1_2 := comes_1 fun _ _ _ _ _ _ h hF => ⟨h.2.1, hF⟩
end Jvm.Pilot.@@N@@
namespace Jvm.Pilot.@@N@@
open Jvm Jvm.ClassFile Sem Op Lib Jvm.Free Jvm.Stand Jvm.Pilot.@@N@@.Jvm.D
/-! MADE BY PROGRAM (witnessworld.py) out of the Statement's table words and the real class files: 22 classes; the members and pool entries that the words name. The judged class is class 1, her method 2. -/
namespace start1
open Jvm.ClassFile
def u (s : String) : CpInfo := .utf8 (stringToUtf16 s)
/-- a pool by its gaps: so many unusable entries, then the entry; so many at the end -/
def gap : Nat → List CpInfo → List CpInfo
  | 0, r => r
  | n + 1, r => .unusable :: gap n r
def poolList (es : List (Nat × CpInfo)) (last : Nat) : List CpInfo := es.foldr (fun e r => gap e.1 (e.2 :: r)) (gap last [])
def pool (es : List (Nat × CpInfo)) (last : Nat) : Array CpInfo := ⟨poolList es last⟩
def fileOf (pool : Array CpInfo) (this : Nat) (attrs : Array Attribute := #[]) (ms : Array MethodInfo := #[]) (fl : Nat := 33) (sup : Nat := 0) (ifs : Array Nat := #[]) (fds : Array FieldInfo := #[]) : ClassFile where
  minorVersion := 0
  majorVersion := 65
  constantPool := pool
  accessFlags := fl
  thisClass := this
  superClass := sup
  interfaces := ifs
  fields := fds
  methods := ms
  attributes := attrs
def plain (name : String) (sup : Option ClassId) : Class where
  name := name
  kind := .ordinary
  loader := none
  accessFlags := 33
  super := sup
  interfaces := #[]
  cf := none
  fields := #[]
  methods := #[]
  instanceTypes := #[]
  staticTypes := #[]
  resolved := #[]
  callSites := []
  init := .initialized
  statics := none
  mirror := none

def pool0 : Array CpInfo := pool [(5, u "<init>"), (0, u "()V"), (1, .class_ 10), (1, u "java/lang/Object")] 113

def k0c0 : Code := { maxStack := 0, maxLocals := 1, code := object_method_1_code, exceptionTable := #[], attributes := #[] }
def k0m0 : Method := { name := "<init>", desc := "()V", sig := { parameters := [], returnType := none }, accessFlags := 1, code := some k0c0 }
/-- java/lang/Object -/
def k0 : Class := { plain "java/lang/Object" none with
  accessFlags := 33
  interfaces := #[]
  cf := some (fileOf pool0 8 #[] #[{ accessFlags := 1, nameIndex := 5, descriptorIndex := 6, attributes := #[] }] 33 0 #[] #[])
  fields := #[]
  methods := #[k0m0]
  instanceTypes := #[]
  staticTypes := #[]
  resolved := Array.replicate 124 none
  statics := none }

def pool1 : Array CpInfo := pool [(2, .class_ 4), (1, u "java/lang/Object"), (0, u "<init>"), (0, u "()V"), (0, .class_ 8), (0, u "java/lang/String"), (0, .methodref 7 10), (0, .nameAndType 5 11), (0, u "([C)V"), (0, .methodref 13 14), (0, .class_ 15), (0, .nameAndType 16 17), (0, u "com/example/fiddlehead/fiddlehead/check/MisorderedWithPathPinLaw"), (0, u "str"), (0, u "(I)Ljava/lang/String;"), (0, .class_ 19), (0, u "com/example/fiddlehead/fiddlehead/check/Misordered"), (0, .methodref 18 21), (0, .nameAndType 5 22), (0, u "(Ljava/lang/String;ILjava/lang/String;Ljava/lang/String;Ljava/lang/String;)V"), (0, .methodref 18 24), (0, .nameAndType 25 26), (0, u "withPath"), (0, u "(Ljava/lang/String;)Lcom/example/fiddlehead/fiddlehead/check/Misordered;"), (0, .methodref 18 28), (0, .nameAndType 29 30), (0, u "path"), (0, u "()Ljava/lang/String;"), (0, .methodref 7 32), (0, .nameAndType 33 34), (0, u "equals"), (0, u "(Ljava/lang/Object;)Z"), (0, .methodref 18 36), (0, .nameAndType 37 38), (0, u "line"), (0, u "()I"), (0, .methodref 18 40), (0, .nameAndType 41 30), (0, u "holder"), (0, .methodref 18 43), (0, .nameAndType 44 30), (0, u "name"), (0, .methodref 18 46), (0, .nameAndType 47 30), (0, u "sibling"), (5, u "law"), (0, u "(IIIIII)Z")] 2

def k1m0 : Method := { name := "<init>", desc := "()V", sig := { parameters := [], returnType := none }, accessFlags := 2, code := none }
def k1c1 : Code := { maxStack := 3, maxLocals := 6, code := method_2_code, exceptionTable := #[], attributes := #[] }
def k1m1 : Method := { name := "str", desc := "(I)Ljava/lang/String;", sig := { parameters := [.int], returnType := some (.object "java/lang/String") }, accessFlags := 10, code := some k1c1 }
def k1c2 : Code := { maxStack := 7, maxLocals := 13, code := code, exceptionTable := #[], attributes := #[] }
def k1m2 : Method := { name := "law", desc := "(IIIIII)Z", sig := { parameters := [.int, .int, .int, .int, .int, .int], returnType := some .boolean }, accessFlags := 9, code := some k1c2 }
/-- com/example/fiddlehead/fiddlehead/check/MisorderedWithPathPinLaw -/
def k1 : Class := { plain "com/example/fiddlehead/fiddlehead/check/MisorderedWithPathPinLaw" (some 0) with
  accessFlags := 49
  interfaces := #[]
  cf := some (fileOf pool1 13 #[] #[{ accessFlags := 2, nameIndex := 5, descriptorIndex := 6, attributes := #[] }, { accessFlags := 10, nameIndex := 16, descriptorIndex := 17, attributes := #[] }, { accessFlags := 9, nameIndex := 53, descriptorIndex := 54, attributes := #[] }] 49 2 #[] #[])
  fields := #[]
  methods := #[k1m0, k1m1, k1m2]
  instanceTypes := #[]
  staticTypes := #[]
  resolved := Array.replicate 57 none
  statics := none }

def pool2 : Array CpInfo := pool [(1, .class_ 2), (0, u "java/io/Serializable"), (0, .class_ 4), (0, u "java/lang/Object")] 2

/-- java/io/Serializable -/
def k2 : Class := { plain "java/io/Serializable" (some 0) with
  accessFlags := 1537
  interfaces := #[]
  cf := some (fileOf pool2 1 #[] #[] 1537 3 #[] #[])
  fields := #[]
  methods := #[]
  instanceTypes := #[]
  staticTypes := #[]
  resolved := Array.replicate 7 none
  statics := none }

def pool3 : Array CpInfo := pool [(1, .class_ 2), (0, u "java/lang/Comparable"), (0, .class_ 4), (0, u "java/lang/Object")] 7

/-- java/lang/Comparable -/
def k3 : Class := { plain "java/lang/Comparable" (some 0) with
  accessFlags := 1537
  interfaces := #[]
  cf := some (fileOf pool3 1 #[] #[] 1537 3 #[] #[])
  fields := #[]
  methods := #[]
  instanceTypes := #[]
  staticTypes := #[]
  resolved := Array.replicate 12 none
  statics := none }

def pool4 : Array CpInfo := pool [(2, .class_ 4), (1, u "java/lang/CharSequence"), (42, .class_ 48), (0, u "java/lang/CharSequence$1CodePointIterator"), (10, .class_ 60), (0, u "java/lang/CharSequence$1CharIterator"), (5, .class_ 67), (0, u "java/lang/Object")] 63

/-- java/lang/CharSequence -/
def k4 : Class := { plain "java/lang/CharSequence" (some 0) with
  accessFlags := 1537
  interfaces := #[]
  cf := some (fileOf pool4 2 #[.nestMembers #[47, 59]] #[] 1537 66 #[] #[])
  fields := #[]
  methods := #[]
  instanceTypes := #[]
  staticTypes := #[]
  resolved := Array.replicate 131 none
  statics := none }

def pool5 : Array CpInfo := pool [(1, .class_ 2), (0, u "java/lang/constant/Constable"), (0, .class_ 4), (0, u "java/lang/Object")] 6

/-- java/lang/constant/Constable -/
def k5 : Class := { plain "java/lang/constant/Constable" (some 0) with
  accessFlags := 1537
  interfaces := #[]
  cf := some (fileOf pool5 1 #[] #[] 1537 3 #[] #[])
  fields := #[]
  methods := #[]
  instanceTypes := #[]
  staticTypes := #[]
  resolved := Array.replicate 11 none
  statics := none }

def pool6 : Array CpInfo := pool [(1, .class_ 2), (0, u "java/lang/constant/ConstantDesc"), (0, .class_ 4), (0, u "java/lang/Object")] 32

/-- java/lang/constant/ConstantDesc -/
def k6 : Class := { plain "java/lang/constant/ConstantDesc" (some 0) with
  accessFlags := 1537
  interfaces := #[]
  cf := some (fileOf pool6 1 #[] #[] 1537 3 #[] #[])
  fields := #[]
  methods := #[]
  instanceTypes := #[]
  staticTypes := #[]
  resolved := Array.replicate 37 none
  statics := none }

def pool7 : Array CpInfo := pool [(1, .methodref 2 3), (0, .class_ 4), (0, .nameAndType 5 6), (0, u "java/lang/Object"), (0, u "<init>"), (0, u "()V"), (0, .string 8), (0, u ""), (0, .fieldref 10 11), (0, .class_ 12), (0, .nameAndType 13 14), (0, u "java/lang/String"), (0, u "value"), (0, u "[B"), (0, .fieldref 10 16), (0, .nameAndType 17 18), (0, u "coder"), (0, u "B"), (2, u "hash"), (0, u "I"), (2, u "hashIsZero"), (0, u "Z"), (0, .methodref 10 28), (0, .nameAndType 5 29), (0, u "([CIILjava/lang/Void;)V"), (8, .fieldref 10 39), (0, .nameAndType 40 26), (0, u "COMPACT_STRINGS"), (1, .class_ 44), (1, u "java/lang/StringUTF16"), (0, u "compress"), (1, .methodref 42 48), (0, .nameAndType 49 50), (0, u "coderFromArrayLen"), (0, u "([BI)B"), (126, .methodref 42 178), (0, .nameAndType 45 179), (0, u "([CII)[B"), (363, u "equals"), (29, u "(Ljava/lang/Object;)Z"), (1, .class_ 576), (0, u "java/lang/CharSequence"), (22, u "CASE_INSENSITIVE_ORDER"), (0, u "Ljava/util/Comparator;"), (409, u "([C)V"), (90, u "serialPersistentFields"), (0, u "[Ljava/io/ObjectStreamField;"), (0, .class_ 1104), (0, u "java/lang/String$CaseInsensitiveComparator"), (1, .class_ 1107), (0, u "java/io/Serializable"), (0, .class_ 1109), (0, u "java/lang/Comparable"), (0, .class_ 1111), (0, u "java/lang/constant/Constable"), (0, .class_ 1113), (0, u "java/lang/constant/ConstantDesc"), (2, u "serialVersionUID"), (0, u "J"), (3, u "REPL"), (0, u "C"), (2, u "LATIN1"), (1, u "UTF16")] 323

def k7m0 : Method := { name := "<init>", desc := "()V", sig := { parameters := [], returnType := none }, accessFlags := 1, code := none }
def k7c1 : Code := { maxStack := 5, maxLocals := 2, code := jdk_42_method_3_code, exceptionTable := #[], attributes := #[] }
def k7m1 : Method := { name := "<init>", desc := "([C)V", sig := { parameters := [(.array .char)], returnType := none }, accessFlags := 1, code := some k7c1 }
def k7c2 : Code := { maxStack := 2, maxLocals := 3, code := jdk_42_method_66_code, exceptionTable := #[], attributes := #[] }
def k7m2 : Method := { name := "equals", desc := "(Ljava/lang/Object;)Z", sig := { parameters := [(.object "java/lang/Object")], returnType := some .boolean }, accessFlags := 1, code := some k7c2 }
def k7c3 : Code := { maxStack := 4, maxLocals := 6, code := jdk_42_method_149_code, exceptionTable := #[], attributes := #[] }
def k7m3 : Method := { name := "<init>", desc := "([CIILjava/lang/Void;)V", sig := { parameters := [(.array .char), .int, .int, (.object "java/lang/Void")], returnType := none }, accessFlags := 2, code := some k7c3 }
/-- java/lang/String -/
def k7 : Class := { plain "java/lang/String" (some 0) with
  accessFlags := 49
  interfaces := #[2, 3, 4, 5, 6]
  cf := some (fileOf pool7 10 #[.nestMembers #[1103]] #[{ accessFlags := 1, nameIndex := 5, descriptorIndex := 6, attributes := #[] }, { accessFlags := 1, nameIndex := 5, descriptorIndex := 1010, attributes := #[] }, { accessFlags := 1, nameIndex := 543, descriptorIndex := 573, attributes := #[] }, { accessFlags := 2, nameIndex := 5, descriptorIndex := 29, attributes := #[] }] 49 2 #[1106, 1108, 575, 1110, 1112] #[{ accessFlags := 18, nameIndex := 13, descriptorIndex := 14, attributes := #[] }, { accessFlags := 18, nameIndex := 17, descriptorIndex := 18, attributes := #[] }, { accessFlags := 2, nameIndex := 21, descriptorIndex := 22, attributes := #[] }, { accessFlags := 2, nameIndex := 25, descriptorIndex := 26, attributes := #[] }, { accessFlags := 26, nameIndex := 1116, descriptorIndex := 1117, attributes := #[] }, { accessFlags := 24, nameIndex := 40, descriptorIndex := 26, attributes := #[] }, { accessFlags := 26, nameIndex := 1101, descriptorIndex := 1102, attributes := #[] }, { accessFlags := 26, nameIndex := 1121, descriptorIndex := 1122, attributes := #[] }, { accessFlags := 25, nameIndex := 599, descriptorIndex := 600, attributes := #[] }, { accessFlags := 24, nameIndex := 1125, descriptorIndex := 18, attributes := #[] }, { accessFlags := 24, nameIndex := 1127, descriptorIndex := 18, attributes := #[] }])
  fields := #[{ name := "value", type := (.array .byte), accessFlags := 18, slot := 0, constantValue := 0 }, { name := "coder", type := .byte, accessFlags := 18, slot := 1, constantValue := 0 }, { name := "hash", type := .int, accessFlags := 2, slot := 2, constantValue := 0 }, { name := "hashIsZero", type := .boolean, accessFlags := 2, slot := 3, constantValue := 0 }, { name := "serialVersionUID", type := .long, accessFlags := 26, slot := 0, constantValue := 0 }, { name := "COMPACT_STRINGS", type := .boolean, accessFlags := 24, slot := 1, constantValue := 0 }, { name := "serialPersistentFields", type := (.array (.object "java/io/ObjectStreamField")), accessFlags := 26, slot := 2, constantValue := 0 }, { name := "REPL", type := .char, accessFlags := 26, slot := 3, constantValue := 0 }, { name := "CASE_INSENSITIVE_ORDER", type := (.object "java/util/Comparator"), accessFlags := 25, slot := 4, constantValue := 0 }, { name := "LATIN1", type := .byte, accessFlags := 24, slot := 5, constantValue := 0 }, { name := "UTF16", type := .byte, accessFlags := 24, slot := 6, constantValue := 0 }]
  methods := #[k7m0, k7m1, k7m2, k7m3]
  instanceTypes := #[(.array .byte), .byte, .int, .boolean]
  staticTypes := #[.long, .boolean, (.array (.object "java/io/ObjectStreamField")), .char, (.object "java/util/Comparator"), .byte, .byte]
  resolved := Array.replicate 1451 none
  statics := some 0 }

def pool8 : Array CpInfo := pool [(6, .class_ 8), (1, u "java/lang/Object"), (0, u "<init>"), (0, u "()V"), (1, .class_ 14), (1, u "java/lang/StringUTF16"), (31, u "$assertionsDisabled"), (0, u "Z"), (13, u "HI_BYTE_SHIFT"), (0, u "I"), (2, u "LO_BYTE_SHIFT"), (49, .methodref 12 116), (0, .nameAndType 117 118), (0, u "compress"), (0, u "([CI[BII)I"), (3, u "([CII)[B"), (138, u "coderFromArrayLen"), (0, u "([BI)B"), (106, .class_ 371), (1, u "java/lang/StringUTF16$LinesSpliterator"), (58, u "MAX_LENGTH"), (196, .class_ 628), (0, u "java/lang/StringUTF16$CodePointsSpliterator"), (0, .class_ 630), (0, u "java/lang/StringUTF16$CharsSpliterator")] 4

def k8m0 : Method := { name := "<init>", desc := "()V", sig := { parameters := [], returnType := none }, accessFlags := 0, code := none }
def k8c1 : Code := { maxStack := 2, maxLocals := 2, code := jdk_52_method_15_code, exceptionTable := #[], attributes := #[] }
def k8m1 : Method := { name := "coderFromArrayLen", desc := "([BI)B", sig := { parameters := [(.array .byte), .int], returnType := some .byte }, accessFlags := 8, code := some k8c1 }
def k8c2 : Code := { maxStack := 5, maxLocals := 6, code := jdk_52_method_16_code, exceptionTable := #[], attributes := #[] }
def k8m2 : Method := { name := "compress", desc := "([CII)[B", sig := { parameters := [(.array .char), .int, .int], returnType := some (.array .byte) }, accessFlags := 9, code := some k8c2 }
def k8c3 : Code := { maxStack := 3, maxLocals := 7, code := jdk_52_method_21_code, exceptionTable := #[], attributes := #[] }
def k8m3 : Method := { name := "compress", desc := "([CI[BII)I", sig := { parameters := [(.array .char), .int, (.array .byte), .int, .int], returnType := some .int }, accessFlags := 9, code := some k8c3 }
/-- java/lang/StringUTF16 -/
def k8 : Class := { plain "java/lang/StringUTF16" (some 0) with
  accessFlags := 48
  interfaces := #[]
  cf := some (fileOf pool8 12 #[.nestMembers #[627, 629, 369]] #[{ accessFlags := 0, nameIndex := 9, descriptorIndex := 10, attributes := #[] }, { accessFlags := 8, nameIndex := 261, descriptorIndex := 262, attributes := #[] }, { accessFlags := 9, nameIndex := 117, descriptorIndex := 122, attributes := #[] }, { accessFlags := 9, nameIndex := 117, descriptorIndex := 118, attributes := #[] }] 48 6 #[] #[{ accessFlags := 26, nameIndex := 61, descriptorIndex := 62, attributes := #[] }, { accessFlags := 26, nameIndex := 65, descriptorIndex := 62, attributes := #[] }, { accessFlags := 24, nameIndex := 430, descriptorIndex := 62, attributes := #[] }, { accessFlags := 4120, nameIndex := 46, descriptorIndex := 47, attributes := #[] }])
  fields := #[{ name := "HI_BYTE_SHIFT", type := .int, accessFlags := 26, slot := 0, constantValue := 0 }, { name := "LO_BYTE_SHIFT", type := .int, accessFlags := 26, slot := 1, constantValue := 0 }, { name := "MAX_LENGTH", type := .int, accessFlags := 24, slot := 2, constantValue := 0 }, { name := "$assertionsDisabled", type := .boolean, accessFlags := 4120, slot := 3, constantValue := 0 }]
  methods := #[k8m0, k8m1, k8m2, k8m3]
  instanceTypes := #[]
  staticTypes := #[.int, .int, .int, .boolean]
  resolved := Array.replicate 635 none
  statics := none }

def pool9 : Array CpInfo := pool [(1, .methodref 2 3), (0, .class_ 4), (0, .nameAndType 5 6), (0, u "java/lang/Object"), (0, u "<init>"), (0, u "()V"), (0, .class_ 8), (0, u "java/lang/Record")] 13

def k9c0 : Code := { maxStack := 1, maxLocals := 1, code := jdk_30_method_1_code, exceptionTable := #[], attributes := #[] }
def k9m0 : Method := { name := "<init>", desc := "()V", sig := { parameters := [], returnType := none }, accessFlags := 4, code := some k9c0 }
/-- java/lang/Record -/
def k9 : Class := { plain "java/lang/Record" (some 0) with
  accessFlags := 1057
  interfaces := #[]
  cf := some (fileOf pool9 7 #[] #[{ accessFlags := 4, nameIndex := 5, descriptorIndex := 6, attributes := #[] }] 1057 2 #[] #[])
  fields := #[]
  methods := #[k9m0]
  instanceTypes := #[]
  staticTypes := #[]
  resolved := Array.replicate 22 none
  statics := none }

def pool10 : Array CpInfo := pool [(2, .class_ 4), (1, u "com/example/fiddlehead/fiddlehead/check/Flaw"), (64, .class_ 70), (0, u "com/example/fiddlehead/fiddlehead/check/Flaw$Steps"), (16, .class_ 88), (0, u "com/example/fiddlehead/fiddlehead/check/Flaw$Found"), (109, .class_ 199), (0, u "java/lang/Object")] 42

/-- com/example/fiddlehead/fiddlehead/check/Flaw -/
def k10 : Class := { plain "com/example/fiddlehead/fiddlehead/check/Flaw" (some 0) with
  accessFlags := 1536
  interfaces := #[]
  cf := some (fileOf pool10 2 #[.nestMembers #[69, 87]] #[] 1536 198 #[] #[])
  fields := #[]
  methods := #[]
  instanceTypes := #[]
  staticTypes := #[]
  resolved := Array.replicate 242 none
  statics := none }

def pool11 : Array CpInfo := pool [(1, .methodref 2 3), (0, .class_ 4), (0, .nameAndType 5 6), (0, u "java/lang/Record"), (0, u "<init>"), (0, u "()V"), (0, .fieldref 8 9), (0, .class_ 10), (0, .nameAndType 11 12), (0, u "com/example/fiddlehead/fiddlehead/check/Misordered"), (0, u "path"), (0, u "Ljava/lang/String;"), (0, .fieldref 8 14), (0, .nameAndType 15 16), (0, u "line"), (0, u "I"), (0, .fieldref 8 18), (0, .nameAndType 19 12), (0, u "holder"), (0, .fieldref 8 21), (0, .nameAndType 22 12), (0, u "name"), (0, .fieldref 8 24), (0, .nameAndType 25 12), (0, u "sibling"), (0, .methodref 8 27), (0, .nameAndType 5 28), (0, u "(Ljava/lang/String;ILjava/lang/String;Ljava/lang/String;Ljava/lang/String;)V"), (2, u "withPath"), (0, u "(Ljava/lang/String;)Lcom/example/fiddlehead/fiddlehead/check/Misordered;"), (12, .class_ 46), (0, u "com/example/fiddlehead/fiddlehead/check/Flaw"), (3, u "()Ljava/lang/String;"), (0, u "()I")] 26

def k11c0 : Code := { maxStack := 2, maxLocals := 6, code := prog_14_method_1_code, exceptionTable := #[], attributes := #[] }
def k11m0 : Method := { name := "<init>", desc := "(Ljava/lang/String;ILjava/lang/String;Ljava/lang/String;Ljava/lang/String;)V", sig := { parameters := [(.object "java/lang/String"), .int, (.object "java/lang/String"), (.object "java/lang/String"), (.object "java/lang/String")], returnType := none }, accessFlags := 0, code := some k11c0 }
def k11c1 : Code := { maxStack := 7, maxLocals := 2, code := prog_14_method_2_code, exceptionTable := #[], attributes := #[] }
def k11m1 : Method := { name := "withPath", desc := "(Ljava/lang/String;)Lcom/example/fiddlehead/fiddlehead/check/Misordered;", sig := { parameters := [(.object "java/lang/String")], returnType := some (.object "com/example/fiddlehead/fiddlehead/check/Misordered") }, accessFlags := 1, code := some k11c1 }
def k11c2 : Code := { maxStack := 1, maxLocals := 1, code := prog_14_method_6_code, exceptionTable := #[], attributes := #[] }
def k11m2 : Method := { name := "path", desc := "()Ljava/lang/String;", sig := { parameters := [], returnType := some (.object "java/lang/String") }, accessFlags := 1, code := some k11c2 }
def k11c3 : Code := { maxStack := 1, maxLocals := 1, code := prog_14_method_7_code, exceptionTable := #[], attributes := #[] }
def k11m3 : Method := { name := "line", desc := "()I", sig := { parameters := [], returnType := some .int }, accessFlags := 1, code := some k11c3 }
def k11c4 : Code := { maxStack := 1, maxLocals := 1, code := prog_14_method_8_code, exceptionTable := #[], attributes := #[] }
def k11m4 : Method := { name := "holder", desc := "()Ljava/lang/String;", sig := { parameters := [], returnType := some (.object "java/lang/String") }, accessFlags := 1, code := some k11c4 }
def k11c5 : Code := { maxStack := 1, maxLocals := 1, code := prog_14_method_9_code, exceptionTable := #[], attributes := #[] }
def k11m5 : Method := { name := "name", desc := "()Ljava/lang/String;", sig := { parameters := [], returnType := some (.object "java/lang/String") }, accessFlags := 1, code := some k11c5 }
def k11c6 : Code := { maxStack := 1, maxLocals := 1, code := prog_14_method_10_code, exceptionTable := #[], attributes := #[] }
def k11m6 : Method := { name := "sibling", desc := "()Ljava/lang/String;", sig := { parameters := [], returnType := some (.object "java/lang/String") }, accessFlags := 1, code := some k11c6 }
/-- com/example/fiddlehead/fiddlehead/check/Misordered -/
def k11 : Class := { plain "com/example/fiddlehead/fiddlehead/check/Misordered" (some 9) with
  accessFlags := 48
  interfaces := #[10]
  cf := some (fileOf pool11 8 #[] #[{ accessFlags := 0, nameIndex := 5, descriptorIndex := 28, attributes := #[] }, { accessFlags := 1, nameIndex := 31, descriptorIndex := 32, attributes := #[] }, { accessFlags := 1, nameIndex := 11, descriptorIndex := 50, attributes := #[] }, { accessFlags := 1, nameIndex := 15, descriptorIndex := 51, attributes := #[] }, { accessFlags := 1, nameIndex := 19, descriptorIndex := 50, attributes := #[] }, { accessFlags := 1, nameIndex := 22, descriptorIndex := 50, attributes := #[] }, { accessFlags := 1, nameIndex := 25, descriptorIndex := 50, attributes := #[] }] 48 2 #[45] #[{ accessFlags := 18, nameIndex := 11, descriptorIndex := 12, attributes := #[] }, { accessFlags := 18, nameIndex := 15, descriptorIndex := 16, attributes := #[] }, { accessFlags := 18, nameIndex := 19, descriptorIndex := 12, attributes := #[] }, { accessFlags := 18, nameIndex := 22, descriptorIndex := 12, attributes := #[] }, { accessFlags := 18, nameIndex := 25, descriptorIndex := 12, attributes := #[] }])
  fields := #[{ name := "path", type := (.object "java/lang/String"), accessFlags := 18, slot := 0, constantValue := 0 }, { name := "line", type := .int, accessFlags := 18, slot := 1, constantValue := 0 }, { name := "holder", type := (.object "java/lang/String"), accessFlags := 18, slot := 2, constantValue := 0 }, { name := "name", type := (.object "java/lang/String"), accessFlags := 18, slot := 3, constantValue := 0 }, { name := "sibling", type := (.object "java/lang/String"), accessFlags := 18, slot := 4, constantValue := 0 }]
  methods := #[k11m0, k11m1, k11m2, k11m3, k11m4, k11m5, k11m6]
  instanceTypes := #[(.object "java/lang/String"), .int, (.object "java/lang/String"), (.object "java/lang/String"), (.object "java/lang/String")]
  staticTypes := #[]
  resolved := Array.replicate 78 none
  statics := none }

def pool12 : Array CpInfo := pool [(4, .class_ 6), (1, u "java/lang/Object"), (0, u "<init>"), (0, u "()V"), (5, .class_ 16), (1, u "java/lang/StringLatin1"), (104, u "$assertionsDisabled"), (0, u "Z"), (98, .class_ 223), (1, u "java/lang/StringLatin1$LinesSpliterator"), (166, .class_ 391), (0, u "java/lang/StringLatin1$CharsSpliterator")] 3

def k12m0 : Method := { name := "<init>", desc := "()V", sig := { parameters := [], returnType := none }, accessFlags := 0, code := none }
/-- java/lang/StringLatin1 -/
def k12 : Class := { plain "java/lang/StringLatin1" (some 0) with
  accessFlags := 48
  interfaces := #[]
  cf := some (fileOf pool12 14 #[.nestMembers #[390, 221]] #[{ accessFlags := 0, nameIndex := 7, descriptorIndex := 8, attributes := #[] }] 48 4 #[] #[{ accessFlags := 4120, nameIndex := 121, descriptorIndex := 122, attributes := #[] }])
  fields := #[{ name := "$assertionsDisabled", type := .boolean, accessFlags := 4120, slot := 0, constantValue := 0 }]
  methods := #[k12m0]
  instanceTypes := #[]
  staticTypes := #[.boolean]
  resolved := Array.replicate 395 none
  statics := none }

def pool13 : Array CpInfo := pool [(2, .class_ 4), (1, u "java/lang/Object"), (0, u "<init>"), (0, u "()V"), (17, .class_ 26), (1, u "jdk/internal/util/Preconditions"), (28, .class_ 56), (0, u "jdk/internal/util/Preconditions$4"), (57, .class_ 115), (0, u "jdk/internal/util/Preconditions$1"), (7, u "SIOOBE_FORMATTER"), (0, u "Ljava/util/function/BiFunction;"), (0, .class_ 126), (0, u "jdk/internal/util/Preconditions$2"), (3, u "AIOOBE_FORMATTER"), (0, .class_ 132), (0, u "jdk/internal/util/Preconditions$3"), (3, u "IOOBE_FORMATTER")] 57

def k13m0 : Method := { name := "<init>", desc := "()V", sig := { parameters := [], returnType := none }, accessFlags := 1, code := none }
/-- jdk/internal/util/Preconditions -/
def k13 : Class := { plain "jdk/internal/util/Preconditions" (some 0) with
  accessFlags := 33
  interfaces := #[]
  cf := some (fileOf pool13 24 #[.nestMembers #[55, 131, 125, 114]] #[{ accessFlags := 1, nameIndex := 5, descriptorIndex := 6, attributes := #[] }] 33 2 #[] #[{ accessFlags := 25, nameIndex := 123, descriptorIndex := 124, attributes := #[] }, { accessFlags := 25, nameIndex := 130, descriptorIndex := 124, attributes := #[] }, { accessFlags := 25, nameIndex := 136, descriptorIndex := 124, attributes := #[] }])
  fields := #[{ name := "SIOOBE_FORMATTER", type := (.object "java/util/function/BiFunction"), accessFlags := 25, slot := 0, constantValue := 0 }, { name := "AIOOBE_FORMATTER", type := (.object "java/util/function/BiFunction"), accessFlags := 25, slot := 1, constantValue := 0 }, { name := "IOOBE_FORMATTER", type := (.object "java/util/function/BiFunction"), accessFlags := 25, slot := 2, constantValue := 0 }]
  methods := #[k13m0]
  instanceTypes := #[]
  staticTypes := #[(.object "java/util/function/BiFunction"), (.object "java/util/function/BiFunction"), (.object "java/util/function/BiFunction")]
  resolved := Array.replicate 194 none
  statics := some 1 }

def pool14 : Array CpInfo := pool [(9, u "<init>"), (6, .class_ 18), (1, u "java/lang/Object"), (0, u "()V"), (1, .class_ 23), (1, u "jdk/internal/util/ArraysSupport"), (0, u "LOG2_ARRAY_LONG_INDEX_SCALE"), (0, u "I"), (2, u "U"), (0, u "Ljdk/internal/misc/Unsafe;"), (8, u "BIG_ENDIAN"), (0, u "Z"), (8, u "LOG2_BYTE_BIT_SIZE"), (4, u "LOG2_ARRAY_INT_INDEX_SCALE"), (54, u "JLA"), (0, u "Ljdk/internal/access/JavaLangAccess;"), (11, u "LOG2_ARRAY_BOOLEAN_INDEX_SCALE"), (9, u "LOG2_ARRAY_BYTE_INDEX_SCALE"), (5, u "LOG2_ARRAY_CHAR_INDEX_SCALE"), (5, u "LOG2_ARRAY_SHORT_INDEX_SCALE"), (18, u "LOG2_ARRAY_FLOAT_INDEX_SCALE"), (24, u "LOG2_ARRAY_DOUBLE_INDEX_SCALE"), (89, u "T_BOOLEAN"), (2, u "T_CHAR"), (1, u "T_FLOAT"), (1, u "T_DOUBLE"), (1, u "T_BYTE"), (1, u "T_SHORT"), (1, u "T_INT"), (1, u "T_LONG"), (1, u "SOFT_MAX_ARRAY_LENGTH")] 83

def k14m0 : Method := { name := "<init>", desc := "()V", sig := { parameters := [], returnType := none }, accessFlags := 2, code := none }
/-- jdk/internal/util/ArraysSupport -/
def k14 : Class := { plain "jdk/internal/util/ArraysSupport" (some 0) with
  accessFlags := 33
  interfaces := #[]
  cf := some (fileOf pool14 21 #[] #[{ accessFlags := 2, nameIndex := 9, descriptorIndex := 19, attributes := #[] }] 33 16 #[] #[{ accessFlags := 24, nameIndex := 28, descriptorIndex := 29, attributes := #[] }, { accessFlags := 26, nameIndex := 38, descriptorIndex := 39, attributes := #[] }, { accessFlags := 25, nameIndex := 121, descriptorIndex := 25, attributes := #[] }, { accessFlags := 25, nameIndex := 131, descriptorIndex := 25, attributes := #[] }, { accessFlags := 25, nameIndex := 137, descriptorIndex := 25, attributes := #[] }, { accessFlags := 25, nameIndex := 143, descriptorIndex := 25, attributes := #[] }, { accessFlags := 25, nameIndex := 53, descriptorIndex := 25, attributes := #[] }, { accessFlags := 25, nameIndex := 24, descriptorIndex := 25, attributes := #[] }, { accessFlags := 25, nameIndex := 162, descriptorIndex := 25, attributes := #[] }, { accessFlags := 25, nameIndex := 187, descriptorIndex := 25, attributes := #[] }, { accessFlags := 26, nameIndex := 48, descriptorIndex := 25, attributes := #[] }, { accessFlags := 25, nameIndex := 277, descriptorIndex := 25, attributes := #[] }, { accessFlags := 25, nameIndex := 280, descriptorIndex := 25, attributes := #[] }, { accessFlags := 25, nameIndex := 282, descriptorIndex := 25, attributes := #[] }, { accessFlags := 25, nameIndex := 284, descriptorIndex := 25, attributes := #[] }, { accessFlags := 25, nameIndex := 286, descriptorIndex := 25, attributes := #[] }, { accessFlags := 25, nameIndex := 288, descriptorIndex := 25, attributes := #[] }, { accessFlags := 25, nameIndex := 290, descriptorIndex := 25, attributes := #[] }, { accessFlags := 25, nameIndex := 292, descriptorIndex := 25, attributes := #[] }, { accessFlags := 26, nameIndex := 108, descriptorIndex := 109, attributes := #[] }, { accessFlags := 25, nameIndex := 294, descriptorIndex := 25, attributes := #[] }])
  fields := #[{ name := "U", type := (.object "jdk/internal/misc/Unsafe"), accessFlags := 24, slot := 0, constantValue := 0 }, { name := "BIG_ENDIAN", type := .boolean, accessFlags := 26, slot := 1, constantValue := 0 }, { name := "LOG2_ARRAY_BOOLEAN_INDEX_SCALE", type := .int, accessFlags := 25, slot := 2, constantValue := 0 }, { name := "LOG2_ARRAY_BYTE_INDEX_SCALE", type := .int, accessFlags := 25, slot := 3, constantValue := 0 }, { name := "LOG2_ARRAY_CHAR_INDEX_SCALE", type := .int, accessFlags := 25, slot := 4, constantValue := 0 }, { name := "LOG2_ARRAY_SHORT_INDEX_SCALE", type := .int, accessFlags := 25, slot := 5, constantValue := 0 }, { name := "LOG2_ARRAY_INT_INDEX_SCALE", type := .int, accessFlags := 25, slot := 6, constantValue := 0 }, { name := "LOG2_ARRAY_LONG_INDEX_SCALE", type := .int, accessFlags := 25, slot := 7, constantValue := 0 }, { name := "LOG2_ARRAY_FLOAT_INDEX_SCALE", type := .int, accessFlags := 25, slot := 8, constantValue := 0 }, { name := "LOG2_ARRAY_DOUBLE_INDEX_SCALE", type := .int, accessFlags := 25, slot := 9, constantValue := 0 }, { name := "LOG2_BYTE_BIT_SIZE", type := .int, accessFlags := 26, slot := 10, constantValue := 0 }, { name := "T_BOOLEAN", type := .int, accessFlags := 25, slot := 11, constantValue := 0 }, { name := "T_CHAR", type := .int, accessFlags := 25, slot := 12, constantValue := 0 }, { name := "T_FLOAT", type := .int, accessFlags := 25, slot := 13, constantValue := 0 }, { name := "T_DOUBLE", type := .int, accessFlags := 25, slot := 14, constantValue := 0 }, { name := "T_BYTE", type := .int, accessFlags := 25, slot := 15, constantValue := 0 }, { name := "T_SHORT", type := .int, accessFlags := 25, slot := 16, constantValue := 0 }, { name := "T_INT", type := .int, accessFlags := 25, slot := 17, constantValue := 0 }, { name := "T_LONG", type := .int, accessFlags := 25, slot := 18, constantValue := 0 }, { name := "JLA", type := (.object "jdk/internal/access/JavaLangAccess"), accessFlags := 26, slot := 19, constantValue := 0 }, { name := "SOFT_MAX_ARRAY_LENGTH", type := .int, accessFlags := 25, slot := 20, constantValue := 0 }]
  methods := #[k14m0]
  instanceTypes := #[]
  staticTypes := #[(.object "jdk/internal/misc/Unsafe"), .boolean, .int, .int, .int, .int, .int, .int, .int, .int, .int, .int, .int, .int, .int, .int, .int, .int, .int, (.object "jdk/internal/access/JavaLangAccess"), .int]
  resolved := Array.replicate 378 none
  statics := none }

def pool15 : Array CpInfo := pool [(1, u "java/lang/Cloneable"), (0, .class_ 1), (0, u "java/lang/Object"), (0, .class_ 3)] 3

/-- java/lang/Cloneable -/
def k15 : Class := { plain "java/lang/Cloneable" (some 0) with
  accessFlags := 1537
  interfaces := #[]
  cf := some (fileOf pool15 2 #[] #[] 1537 4 #[] #[])
  fields := #[]
  methods := #[]
  instanceTypes := #[]
  staticTypes := #[]
  resolved := Array.replicate 8 none
  statics := none }

/-- the primitive byte -/
def k16 : Class := { plain "byte" none with kind := .primitive 'B', accessFlags := 0x411 }
/-- [B -/
def k17 : Class := { plain "[B" (some 0) with kind := .array 16 .byte, interfaces := #[15, 2], accessFlags := 1041 }

/-- the primitive char -/
def k18 : Class := { plain "char" none with kind := .primitive 'C', accessFlags := 0x411 }
/-- [C -/
def k19 : Class := { plain "[C" (some 0) with kind := .array 18 .char, interfaces := #[15, 2], accessFlags := 1041 }

/-- the primitive int -/
def k20 : Class := { plain "int" none with kind := .primitive 'I', accessFlags := 0x411 }
/-- [I -/
def k21 : Class := { plain "[I" (some 0) with kind := .array 20 .int, interfaces := #[15, 2], accessFlags := 1041 }

def heap : Heap := #[{ cls := 7, slots := #[.long 0, .int 1, .null, .int 0, .null, .int 0, .int 0], vm := .statics 7 },
  { cls := 13, slots := #[.null, .null, .null], vm := .statics 13 }]
def classes : Array Class := #[k0, k1, k2, k3, k4, k5, k6, k7, k8, k9, k10, k11, k12, k13, k14, k15, k16, k17, k18, k19, k20, k21]
def interned : List (Array UInt16 × Addr) := []
def slotsUsed : Nat := 10
def theMethod : MethodId := ⟨1, 2⟩
def args0 : Array Value := #[.int 1, .int 2, .int 3, .int 4, .int 5, .int 6]
def aboutOver (below : List Frame) : State where
  vm := { classes := classes, interned := interned.toArray }
  heap := heap
  slotsUsed := slotsUsed
  threads := #[{ frames := .invoking theMethod args0 :: below }]
def below0 : List Frame := [.native { method := ⟨0, 0⟩, args := #[] }]
def about1 : State := aboutOver below0
def p0 : Program := .bare "" "" ""
def e0 : Env := launch0.env 0 0 0
theorem w_frames : about1.frames = Frame.invoking theMethod args0 :: below0 := rfl
set_option maxRecDepth 65536 in
theorem w_args : argsFit about1.vm theMethod args0 = true := by decide +kernel
set_option maxRecDepth 65536 in
theorem w_heap : heapFits about1 = true := by decide +kernel
set_option maxRecDepth 65536 in
theorem w_runnable : about1.curStatus? = some .runnable := by decide +kernel
set_option maxRecDepth 65536 in
theorem w_alone : about1.alone = true := by decide +kernel
set_option maxRecDepth 65536 in
theorem w_named : about1.methodNamed? x = some theMethod := by decide +kernel
set_option maxRecDepth 65536 in
theorem w_hears : about1.hears theMethod below0 = true := by decide +kernel
set_option maxRecDepth 65536 in
theorem w_ripe : about1.ripe theMethod args0 below0 = true := by decide +kernel
theorem w_running : about1.status = .running := rfl
set_option maxRecDepth 65536 in
theorem w_room : about1.hasRoom e0.platform room_1 = true :=
  launch0.hasRoom_least _ room_1 (by decide +kernel) (by decide +kernel) (by decide +kernel) (by decide +kernel) (by decide +kernel) (by decide +kernel)
theorem allAtoms_all (ts : List Jvm.Cond) (a : Array Jvm.Value) (st : Jvm.State) : (allAtoms ts).before a st = ts.all (fun c => c.before a st) := by
  induction ts with
  | nil => rfl
  | cons c t ih =>
    show (Jvm.Cond.and c (allAtoms t)).before a st = _
    rw [Jvm.Cond.before_and, ih, List.all_cons]
def words1 : List Jvm.Cond := Jvm.Cond.code x code maxLocals ret :: tables_1
/-- a 'code' word, met by the world's own term for the bytes: nothing is compared byte by byte -/
theorem code_word {y : MethodName} {bytes : ByteArray} {mx : Nat} {rt : Option FieldType} {a : Array Value} {s : State} {m : MethodId} {meth : Method} {c : Code} (h1 : s.methodNamed? y = some m) (h2 : s.vm.method? m = some meth) (h3 : meth.code = some c) (h4 : c.code = bytes)
    (h5 : (c.maxLocals == mx && c.exceptionTable.isEmpty && decide (c.maxStack ≤ mostOperands) && decide (meth.sig.returnType = rt) && !meth.locks && decide (parseMethodDescriptor y.desc = some meth.sig)) = true) : (Jvm.Cond.code y bytes mx rt).before a s = true := by
  simp only [Bool.and_eq_true, beq_iff_eq, Bool.not_eq_true', decide_eq_true_eq] at h5
  obtain ⟨⟨⟨⟨⟨g1, g2⟩, g3⟩, g4⟩, g5⟩, g6⟩ := h5
  simp [Cond.before, Cond.holds, Cond.value, h1, h2, h3, h4, g1, g2, g3, g4, g5, g6]
def isCode : Jvm.Cond → Bool
  | .code _ _ _ _ => true
  | _ => false
theorem all_split {L : List Jvm.Cond} {P : Jvm.Cond → Bool} (h1 : L.all (fun c => isCode c || P c) = true) (h2 : ∀ c ∈ L.filter isCode, P c = true) : L.all P = true := by
  refine List.all_eq_true.mpr fun c hc => ?_
  have h := List.all_eq_true.mp h1 c hc
  rcases Bool.eq_false_or_eq_true (isCode c) with hi | hi
  · exact h2 c (List.mem_filter.mpr ⟨hc, hi⟩)
  · simpa [hi] using h
set_option maxRecDepth 65536 in
theorem w_c0 : (Jvm.Cond.code x code maxLocals ret).before args0 about1 = true := code_word (m := ⟨1, 2⟩) (meth := k1m2) (c := k1c2) (by decide +kernel) rfl rfl rfl (by decide +kernel)
set_option maxRecDepth 65536 in
theorem w_c1 : (Jvm.Cond.code ({ cls := "com/example/fiddlehead/fiddlehead/check/MisorderedWithPathPinLaw", name := "str", desc := "(I)Ljava/lang/String;" } : Jvm.MethodName) method_2_code (6 : Nat) (Option.some (Jvm.ClassFile.FieldType.object "java/lang/String"))).before args0 about1 = true := code_word (m := ⟨1, 1⟩) (meth := k1m1) (c := k1c1) (by decide +kernel) rfl rfl rfl (by decide +kernel)
set_option maxRecDepth 65536 in
theorem w_c2 : (Jvm.Cond.code ({ cls := "java/lang/String", name := "<init>", desc := "([C)V" } : Jvm.MethodName) jdk_42_method_3_code (2 : Nat) (Option.none : Option Jvm.ClassFile.FieldType)).before args0 about1 = true := code_word (m := ⟨7, 1⟩) (meth := k7m1) (c := k7c1) (by decide +kernel) rfl rfl rfl (by decide +kernel)
set_option maxRecDepth 65536 in
theorem w_c3 : (Jvm.Cond.code ({ cls := "java/lang/String", name := "<init>", desc := "([CIILjava/lang/Void;)V" } : Jvm.MethodName) jdk_42_method_149_code (6 : Nat) (Option.none : Option Jvm.ClassFile.FieldType)).before args0 about1 = true := code_word (m := ⟨7, 3⟩) (meth := k7m3) (c := k7c3) (by decide +kernel) rfl rfl rfl (by decide +kernel)
set_option maxRecDepth 65536 in
theorem w_c4 : (Jvm.Cond.code ({ cls := "java/lang/Object", name := "<init>", desc := "()V" } : Jvm.MethodName) object_method_1_code (1 : Nat) (Option.none : Option Jvm.ClassFile.FieldType)).before args0 about1 = true := code_word (m := ⟨0, 0⟩) (meth := k0m0) (c := k0c0) (by decide +kernel) rfl rfl rfl (by decide +kernel)
set_option maxRecDepth 65536 in
theorem w_c5 : (Jvm.Cond.code ({ cls := "java/lang/StringUTF16", name := "compress", desc := "([CII)[B" } : Jvm.MethodName) jdk_52_method_16_code (6 : Nat) (Option.some (Jvm.ClassFile.FieldType.array Jvm.ClassFile.FieldType.byte))).before args0 about1 = true := code_word (m := ⟨8, 2⟩) (meth := k8m2) (c := k8c2) (by decide +kernel) rfl rfl rfl (by decide +kernel)
set_option maxRecDepth 65536 in
theorem w_c6 : (Jvm.Cond.code ({ cls := "java/lang/StringUTF16", name := "compress", desc := "([CI[BII)I" } : Jvm.MethodName) jdk_52_method_21_code (7 : Nat) (Option.some Jvm.ClassFile.FieldType.int)).before args0 about1 = true := code_word (m := ⟨8, 3⟩) (meth := k8m3) (c := k8c3) (by decide +kernel) rfl rfl rfl (by decide +kernel)
set_option maxRecDepth 65536 in
theorem w_c7 : (Jvm.Cond.code ({ cls := "java/lang/StringUTF16", name := "coderFromArrayLen", desc := "([BI)B" } : Jvm.MethodName) jdk_52_method_15_code (2 : Nat) (Option.some Jvm.ClassFile.FieldType.byte)).before args0 about1 = true := code_word (m := ⟨8, 1⟩) (meth := k8m1) (c := k8c1) (by decide +kernel) rfl rfl rfl (by decide +kernel)
set_option maxRecDepth 65536 in
theorem w_c8 : (Jvm.Cond.code ({ cls := "com/example/fiddlehead/fiddlehead/check/Misordered", name := "<init>", desc := "(Ljava/lang/String;ILjava/lang/String;Ljava/lang/String;Ljava/lang/String;)V" } : Jvm.MethodName) prog_14_method_1_code (6 : Nat) (Option.none : Option Jvm.ClassFile.FieldType)).before args0 about1 = true := code_word (m := ⟨11, 0⟩) (meth := k11m0) (c := k11c0) (by decide +kernel) rfl rfl rfl (by decide +kernel)
set_option maxRecDepth 65536 in
theorem w_c9 : (Jvm.Cond.code ({ cls := "java/lang/Record", name := "<init>", desc := "()V" } : Jvm.MethodName) jdk_30_method_1_code (1 : Nat) (Option.none : Option Jvm.ClassFile.FieldType)).before args0 about1 = true := code_word (m := ⟨9, 0⟩) (meth := k9m0) (c := k9c0) (by decide +kernel) rfl rfl rfl (by decide +kernel)
set_option maxRecDepth 65536 in
theorem w_c10 : (Jvm.Cond.code ({ cls := "com/example/fiddlehead/fiddlehead/check/Misordered", name := "withPath", desc := "(Ljava/lang/String;)Lcom/example/fiddlehead/fiddlehead/check/Misordered;" } : Jvm.MethodName) prog_14_method_2_code (2 : Nat) (Option.some (Jvm.ClassFile.FieldType.object "com/example/fiddlehead/fiddlehead/check/Misordered"))).before args0 about1 = true := code_word (m := ⟨11, 1⟩) (meth := k11m1) (c := k11c1) (by decide +kernel) rfl rfl rfl (by decide +kernel)
set_option maxRecDepth 65536 in
theorem w_c11 : (Jvm.Cond.code ({ cls := "com/example/fiddlehead/fiddlehead/check/Misordered", name := "path", desc := "()Ljava/lang/String;" } : Jvm.MethodName) prog_14_method_6_code (1 : Nat) (Option.some (Jvm.ClassFile.FieldType.object "java/lang/String"))).before args0 about1 = true := code_word (m := ⟨11, 2⟩) (meth := k11m2) (c := k11c2) (by decide +kernel) rfl rfl rfl (by decide +kernel)
set_option maxRecDepth 65536 in
theorem w_c12 : (Jvm.Cond.code ({ cls := "java/lang/String", name := "equals", desc := "(Ljava/lang/Object;)Z" } : Jvm.MethodName) jdk_42_method_66_code (3 : Nat) (Option.some Jvm.ClassFile.FieldType.boolean)).before args0 about1 = true := code_word (m := ⟨7, 2⟩) (meth := k7m2) (c := k7c2) (by decide +kernel) rfl rfl rfl (by decide +kernel)
set_option maxRecDepth 65536 in
theorem w_c13 : (Jvm.Cond.code ({ cls := "com/example/fiddlehead/fiddlehead/check/Misordered", name := "line", desc := "()I" } : Jvm.MethodName) prog_14_method_7_code (1 : Nat) (Option.some Jvm.ClassFile.FieldType.int)).before args0 about1 = true := code_word (m := ⟨11, 3⟩) (meth := k11m3) (c := k11c3) (by decide +kernel) rfl rfl rfl (by decide +kernel)
set_option maxRecDepth 65536 in
theorem w_c14 : (Jvm.Cond.code ({ cls := "com/example/fiddlehead/fiddlehead/check/Misordered", name := "holder", desc := "()Ljava/lang/String;" } : Jvm.MethodName) prog_14_method_8_code (1 : Nat) (Option.some (Jvm.ClassFile.FieldType.object "java/lang/String"))).before args0 about1 = true := code_word (m := ⟨11, 4⟩) (meth := k11m4) (c := k11c4) (by decide +kernel) rfl rfl rfl (by decide +kernel)
set_option maxRecDepth 65536 in
theorem w_c15 : (Jvm.Cond.code ({ cls := "com/example/fiddlehead/fiddlehead/check/Misordered", name := "name", desc := "()Ljava/lang/String;" } : Jvm.MethodName) prog_14_method_9_code (1 : Nat) (Option.some (Jvm.ClassFile.FieldType.object "java/lang/String"))).before args0 about1 = true := code_word (m := ⟨11, 5⟩) (meth := k11m5) (c := k11c5) (by decide +kernel) rfl rfl rfl (by decide +kernel)
set_option maxRecDepth 65536 in
theorem w_c16 : (Jvm.Cond.code ({ cls := "com/example/fiddlehead/fiddlehead/check/Misordered", name := "sibling", desc := "()Ljava/lang/String;" } : Jvm.MethodName) prog_14_method_10_code (1 : Nat) (Option.some (Jvm.ClassFile.FieldType.object "java/lang/String"))).before args0 about1 = true := code_word (m := ⟨11, 6⟩) (meth := k11m6) (c := k11c6) (by decide +kernel) rfl rfl rfl (by decide +kernel)
def codes1 : List Jvm.Cond := [Jvm.Cond.code x code maxLocals ret, Jvm.Cond.code ({ cls := "com/example/fiddlehead/fiddlehead/check/MisorderedWithPathPinLaw", name := "str", desc := "(I)Ljava/lang/String;" } : Jvm.MethodName) method_2_code (6 : Nat) (Option.some (Jvm.ClassFile.FieldType.object "java/lang/String")), Jvm.Cond.code ({ cls := "java/lang/String", name := "<init>", desc := "([C)V" } : Jvm.MethodName) jdk_42_method_3_code (2 : Nat) (Option.none : Option Jvm.ClassFile.FieldType), Jvm.Cond.code ({ cls := "java/lang/String", name := "<init>", desc := "([CIILjava/lang/Void;)V" } : Jvm.MethodName) jdk_42_method_149_code (6 : Nat) (Option.none : Option Jvm.ClassFile.FieldType), Jvm.Cond.code ({ cls := "java/lang/Object", name := "<init>", desc := "()V" } : Jvm.MethodName) object_method_1_code (1 : Nat) (Option.none : Option Jvm.ClassFile.FieldType), Jvm.Cond.code ({ cls := "java/lang/StringUTF16", name := "compress", desc := "([CII)[B" } : Jvm.MethodName) jdk_52_method_16_code (6 : Nat) (Option.some (Jvm.ClassFile.FieldType.array Jvm.ClassFile.FieldType.byte)), Jvm.Cond.code ({ cls := "java/lang/StringUTF16", name := "compress", desc := "([CI[BII)I" } : Jvm.MethodName) jdk_52_method_21_code (7 : Nat) (Option.some Jvm.ClassFile.FieldType.int), Jvm.Cond.code ({ cls := "java/lang/StringUTF16", name := "coderFromArrayLen", desc := "([BI)B" } : Jvm.MethodName) jdk_52_method_15_code (2 : Nat) (Option.some Jvm.ClassFile.FieldType.byte), Jvm.Cond.code ({ cls := "com/example/fiddlehead/fiddlehead/check/Misordered", name := "<init>", desc := "(Ljava/lang/String;ILjava/lang/String;Ljava/lang/String;Ljava/lang/String;)V" } : Jvm.MethodName) prog_14_method_1_code (6 : Nat) (Option.none : Option Jvm.ClassFile.FieldType), Jvm.Cond.code ({ cls := "java/lang/Record", name := "<init>", desc := "()V" } : Jvm.MethodName) jdk_30_method_1_code (1 : Nat) (Option.none : Option Jvm.ClassFile.FieldType), Jvm.Cond.code ({ cls := "com/example/fiddlehead/fiddlehead/check/Misordered", name := "withPath", desc := "(Ljava/lang/String;)Lcom/example/fiddlehead/fiddlehead/check/Misordered;" } : Jvm.MethodName) prog_14_method_2_code (2 : Nat) (Option.some (Jvm.ClassFile.FieldType.object "com/example/fiddlehead/fiddlehead/check/Misordered")), Jvm.Cond.code ({ cls := "com/example/fiddlehead/fiddlehead/check/Misordered", name := "path", desc := "()Ljava/lang/String;" } : Jvm.MethodName) prog_14_method_6_code (1 : Nat) (Option.some (Jvm.ClassFile.FieldType.object "java/lang/String")), Jvm.Cond.code ({ cls := "java/lang/String", name := "equals", desc := "(Ljava/lang/Object;)Z" } : Jvm.MethodName) jdk_42_method_66_code (3 : Nat) (Option.some Jvm.ClassFile.FieldType.boolean), Jvm.Cond.code ({ cls := "com/example/fiddlehead/fiddlehead/check/Misordered", name := "line", desc := "()I" } : Jvm.MethodName) prog_14_method_7_code (1 : Nat) (Option.some Jvm.ClassFile.FieldType.int), Jvm.Cond.code ({ cls := "com/example/fiddlehead/fiddlehead/check/Misordered", name := "holder", desc := "()Ljava/lang/String;" } : Jvm.MethodName) prog_14_method_8_code (1 : Nat) (Option.some (Jvm.ClassFile.FieldType.object "java/lang/String")), Jvm.Cond.code ({ cls := "com/example/fiddlehead/fiddlehead/check/Misordered", name := "name", desc := "()Ljava/lang/String;" } : Jvm.MethodName) prog_14_method_9_code (1 : Nat) (Option.some (Jvm.ClassFile.FieldType.object "java/lang/String")), Jvm.Cond.code ({ cls := "com/example/fiddlehead/fiddlehead/check/Misordered", name := "sibling", desc := "()Ljava/lang/String;" } : Jvm.MethodName) prog_14_method_10_code (1 : Nat) (Option.some (Jvm.ClassFile.FieldType.object "java/lang/String"))]
set_option maxRecDepth 65536 in
theorem codes_eq : words1.filter isCode = codes1 := rfl
theorem w_codes : ∀ c ∈ words1.filter isCode, c.before args0 about1 = true := by
  rw [codes_eq]
  intro c hc
  simp only [codes1, List.mem_cons, List.not_mem_nil, or_false] at hc
  rcases hc with rfl | rfl | rfl | rfl | rfl | rfl | rfl | rfl | rfl | rfl | rfl | rfl | rfl | rfl | rfl | rfl | rfl
  · exact w_c0
  · exact w_c1
  · exact w_c2
  · exact w_c3
  · exact w_c4
  · exact w_c5
  · exact w_c6
  · exact w_c7
  · exact w_c8
  · exact w_c9
  · exact w_c10
  · exact w_c11
  · exact w_c12
  · exact w_c13
  · exact w_c14
  · exact w_c15
  · exact w_c16
set_option maxRecDepth 65536 in
theorem w_t1 : (words1.take 24).all (fun c => isCode c || c.before args0 about1) = true := by decide +kernel
set_option maxRecDepth 65536 in
theorem w_t2 : ((words1.drop 24).take 24).all (fun c => isCode c || c.before args0 about1) = true := by decide +kernel
set_option maxRecDepth 65536 in
theorem w_t3 : (((words1.drop 24).drop 24).take 24).all (fun c => isCode c || c.before args0 about1) = true := by decide +kernel
set_option maxRecDepth 65536 in
theorem w_t4 : ((((words1.drop 24).drop 24).drop 24).take 24).all (fun c => isCode c || c.before args0 about1) = true := by decide +kernel
set_option maxRecDepth 65536 in
theorem w_t5 : ((((words1.drop 24).drop 24).drop 24).drop 24).all (fun c => isCode c || c.before args0 about1) = true := by decide +kernel
theorem w_tables : (allAtoms (Jvm.Cond.code x code maxLocals ret :: tables_1)).before args0 about1 = true := by
  rw [allAtoms_all]
  show words1.all (fun c => c.before args0 about1) = true
  refine all_split ?_ w_codes
  rw [← List.take_append_drop 24 words1, List.all_append, w_t1, ← List.take_append_drop 24 (words1.drop 24), List.all_append, w_t2, ← List.take_append_drop 24 ((words1.drop 24).drop 24), List.all_append, w_t3, ← List.take_append_drop 24 (((words1.drop 24).drop 24).drop 24), List.all_append, w_t4, w_t5]
  rfl
set_option maxRecDepth 65536 in
theorem w_rest : rest_1_c.before args0 about1 = true := by decide +kernel
set_option maxRecDepth 65536 in
theorem w_case : (Jvm.Cond.and given_1 narrow_1).before args0 about1 = true := by decide +kernel
set_option maxRecDepth 65536 in
theorem w_consts : constsHeld consts_1 about1 := Jvm.Lit.constsHeldB_iff.mp (by decide +kernel)
theorem w_applies : (headSpec (Jvm.Cond.code x code maxLocals ret :: tables_1) room_1).applies x e0.platform about1 = true :=
  (Spec.applies_iff w_frames).mpr ⟨w_running, w_runnable, w_alone, w_named, w_hears, w_ripe, w_room, w_tables⟩
theorem atStart : AtStart classFile x code maxLocals ret World_1 tables_1 room_1 Calls_1 rest_1 Pre_1 launch0 p0 e0 about1 theMethod args0 below0 :=
  ⟨lists_1, trivial, launch0.admits_env _ _ _, launch0.least_env, fairChoices_fair.cas, fairChoices_fair.clock, w_frames, w_args, w_heap, w_applies, ⟨w_consts, trivial⟩, w_rest, w_case⟩
end start1
theorem witness_1 : WitnessClaimed_1 := ⟨start1.p0, start1.e0, start1.about1, start1.theMethod, start1.args0, start1.below0, start1.atStart⟩
end Jvm.Pilot.@@N@@
