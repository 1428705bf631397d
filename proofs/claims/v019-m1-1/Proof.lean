import JvmDerived
import JvmDerived.Pilot.@@N@@Statement
import JvmDerived.Pilot.@@N@@Code
set_option linter.unusedVariables false
set_option linter.unusedSimpArgs false
/- laws to paste: Road.backV (cut by pick.py; bodies as the Statement names them) -/
namespace Jvm.Pilot.@@N@@
namespace StrChars
open Jvm Sem ClassFile Op Lib Jvm.Stand Jvm.Free.XT Jvm.Free.ALB Jvm.Free.JM Jvm.Free
open Jvm.Lib.Cold (StaticIs)
/-- a char array whose places are chars -/
def Ch (a : Addr) (A : Cell) (U : State) : Prop := Arr .char a A U ∧ Typed .char A
theorem Ch.mv {a : Addr} {A : Cell} {U U' : State} (h : Ch a A U) (hal : U.vm.Alike U'.vm) (hh : U'.heap = U.heap) : Ch a A U' := ⟨h.1.mv hal hh, h.2⟩
theorem Ch.keep {a : Addr} {A : Cell} {U U' : State} (h : Ch a A U) (hal : U.vm.Alike U'.vm) (hk : U'.heap[a]? = some A) : Ch a A U' := ⟨h.1.keep hal hk, h.2⟩
/-- what place i of a char[]'s cell holds -/
def cv (A : Cell) (i : Nat) : Int32 := match A.slots[i]? with | some (.int x) => x | _ => 0
theorem Ch.get {a : Addr} {A : Cell} {U : State} (h : Ch a A U) {i : Nat} (hi : i < A.slots.size) : A.slots[i]? = some (.int (cv A i)) := by
  have e := Array.getElem?_eq_getElem hi
  have f := h.2 i _ e
  unfold cv; rw [e]
  generalize A.slots[i] = v at f
  cases v <;> simp [fits] at f ⊢
/-- the byte that i2b leaves of a char -/
def lo8 (x : Int32) : Int32 := x.toInt8.toInt32
theorem fits_lo8 (y : Int32) : fits .byte (.int (lo8 y)) = true := by
  have h1 := y.toInt8.le_toInt
  have h2 := y.toInt8.toInt_lt
  simp only [lo8, fits, Bool.and_eq_true, decide_eq_true_eq, Int32.le_iff_toInt_le, Int8.toInt_toInt32, show (-128 : Int32).toInt = -128 from by decide, show (127 : Int32).toInt = 127 from by decide]
  omega
/-- A' is A but that each place j of lo .. hi - 1 holds f j -/
def Laid (A A' : Cell) (lo hi : Nat) (f : Nat → Value) : Prop := A'.cls = A.cls ∧ A'.vm = A.vm ∧ A'.slots.size = A.slots.size ∧ ∀ i, A'.slots[i]? = if lo ≤ i ∧ i < hi then some (f i) else A.slots[i]?
theorem Laid.zero (A : Cell) (lo : Nat) (f : Nat → Value) : Laid A A lo (lo + 0) f := ⟨rfl, rfl, rfl, fun i => by rw [if_neg (by omega)]⟩
theorem Laid.step {A Ak : Cell} {lo k : Nat} {f : Nat → Value} {v : Value} (h : Laid A Ak lo k f) (hlo : lo ≤ k) (hk : k < Ak.slots.size) (hv : v = f k) : Laid A (Ak.setSlot k v) lo (k + 1) f := by
  refine ⟨h.1, h.2.1, by simpa [Cell.setSlot] using h.2.2.1, fun i => ?_⟩
  by_cases e : k = i
  · subst e; rw [Cell.slots_setSlot_self v hk, if_pos (by omega), hv]
  · rw [Cell.slots_setSlot_ne v e, h.2.2.2 i]
    by_cases q : lo ≤ i ∧ i < k
    · rw [if_pos q, if_pos (by omega)]
    · rw [if_neg q, if_neg (by omega)]
def U16 : String := "java/lang/StringUTF16"
namespace Cmp5
def yN : MethodName := ⟨"java/lang/StringUTF16", "compress", "([CI[BII)I"⟩
abbrev yB : ByteArray := jdk_52_method_21_code
theorem d0 : decode yB 0 = .ok (.iconst 0, 1) := by decide +kernel
theorem d1 : decode yB 1 = .ok (.istore 5, 2) := by decide +kernel
theorem d3 : decode yB 3 = .ok (.iload 5, 2) := by decide +kernel
theorem d5 : decode yB 5 = .ok (.iload 4, 2) := by decide +kernel
theorem d7 : decode yB 7 = .ok (.if_icmp (.ge) 37, 3) := by decide +kernel
theorem d10 : decode yB 10 = .ok (.aload_n 0, 1) := by decide +kernel
theorem d11 : decode yB 11 = .ok (.iload_n 1, 1) := by decide +kernel
theorem d12 : decode yB 12 = .ok (.caload, 1) := by decide +kernel
theorem d13 : decode yB 13 = .ok (.istore 6, 2) := by decide +kernel
theorem d15 : decode yB 15 = .ok (.iload 6, 2) := by decide +kernel
theorem d17 : decode yB 17 = .ok (.sipush 255, 3) := by decide +kernel
theorem d20 : decode yB 20 = .ok (.if_icmp (.le) 6, 3) := by decide +kernel
theorem d26 : decode yB 26 = .ok (.aload_n 2, 1) := by decide +kernel
theorem d27 : decode yB 27 = .ok (.iload_n 3, 1) := by decide +kernel
theorem d28 : decode yB 28 = .ok (.iload 6, 2) := by decide +kernel
theorem d30 : decode yB 30 = .ok (.i2b, 1) := by decide +kernel
theorem d31 : decode yB 31 = .ok (.bastore, 1) := by decide +kernel
theorem d32 : decode yB 32 = .ok (.iinc 1 1, 3) := by decide +kernel
theorem d35 : decode yB 35 = .ok (.iinc 3 1, 3) := by decide +kernel
theorem d38 : decode yB 38 = .ok (.iinc 5 1, 3) := by decide +kernel
theorem d41 : decode yB 41 = .ok (.goto (-38), 3) := by decide +kernel
theorem d44 : decode yB 44 = .ok (.iload 4, 2) := by decide +kernel
theorem d46 : decode yB 46 = .ok (.ireturn, 1) := by decide +kernel
def site : List Cond := []
def tab : Cond := tabOf yN yB 7 (some .int) site
def P (b : Addr) (A : Cell) (d : Addr) (B : Cell) (o q len : Nat) (args : Array Value) (s : State) : Prop := args = #[.ref b, .int (Int32.ofNat o), .ref d, .int (Int32.ofNat q), .int (Int32.ofNat len)] ∧ Ch b A s ∧ Arr .byte d B s ∧ b ≠ d ∧ o + len ≤ A.slots.size ∧ q + len ≤ B.slots.size ∧ ∀ i, i < len → ¬ 255 < cv A (o + i)
def E (b : Addr) (A : Cell) (d : Addr) (B : Cell) (o q len : Nat) (r : Option Value) (s u : State) : Prop := r = some (.int (Int32.ofNat len)) ∧ ∃ B', Put d B' s u ∧ Laid B B' q (q + len) (fun j => Value.int (lo8 (cv A (o + (j - q)))))
/-- no char of the range above 255: len; the places written hold each char's low byte -/
theorem law (l : Launch) (b : Addr) (A : Cell) (d : Addr) (B : Cell) (o q len : Nat) : Law l yN 5 5 0 0 yB 7 (some .int) site (P b A d B o q len) (E b A d B o q len) (copyLocs d q len) 0 0 := by
  refine Law.of_walk (plainFor_of_name (by decide +kernel)) (by decide +kernel) (by decide +kernel) (by decide) (fun _ _ h => by rw [h.1]; rfl) (fun _ U U' hal hh h => ⟨h.1, h.2.1.mv hal hh, h.2.2.1.mv hal hh, h.2.2.2⟩) (fun r U U' V V' h1 hal h2 h => ⟨h.1, h.2.elim fun B' q => ⟨B', q.1.mv h1 h2, q.2⟩⟩) ?_
  intro p e s m args below meth c s₁ X0 hexec hbytes hml hret hlk hnm hown hh0 W hP
  obtain ⟨rfl, hA, hB, hne, l1, l2, hp⟩ := hP
  have c1 : Steps p.tables e below (s₁.setTop (entryFrame m #[.ref b, .int (Int32.ofNat o), .ref d, .int (Int32.ofNat q), .int (Int32.ofNat len)] 7)) (s₁.setTop (mkF m 0 #[.val (.ref b), .val (.int (Int32.ofNat o)), .val (.ref d), .val (.int (Int32.ofNat q)), .val (.int (Int32.ofNat len)), .unset, .unset] [])) := entry rfl
  have hA0 := hA.1.mv X0.warmed.alike hh0
  have hB0 := hB.mv X0.warmed.alike hh0
  have a31 := hA.1.2.2.2
  have c2 : Steps p.tables e below (s₁.setTop (entryFrame m #[.ref b, .int (Int32.ofNat o), .ref d, .int (Int32.ofNat q), .int (Int32.ofNat len)] 7)) (s₁.setTop (mkF m 3 #[.val (.ref b), .val (.int (Int32.ofNat o)), .val (.ref d), .val (.int (Int32.ofNat q)), .val (.int (Int32.ofNat len)), .val (.int 0), .unset] [])) := c1.trans (by
    refine iconstV X0.here hexec rfl 0 (hb hbytes d0) (by decide) ?_
    refine XS.istore X0.here hexec rfl (hb hbytes d1) rfl rfl ?_
    exact Steps.refl _)
  have loop : ∀ (r i : Nat), i + r = len → ∀ (z : Slot), (z = .unset ∨ ∃ w, z = .val w ∧ w.category = 1) → ∀ (Tl : State) (Bk : Cell), Stand p l e { frames := 0, locals := 0, cells := 0, slots := 0 } s m #[.ref b, .int (Int32.ofNat o), .ref d, .int (Int32.ofNat q), .int (Int32.ofNat len)] below meth c Tl ([] ++ copyLocs d q i) 0 0 → Put d Bk s₁ Tl → Laid B Bk q (q + i) (fun j => Value.int (lo8 (cv A (o + (j - q))))) →
      Steps p.tables e below (s₁.setTop (entryFrame m #[.ref b, .int (Int32.ofNat o), .ref d, .int (Int32.ofNat q), .int (Int32.ofNat len)] 7)) (Tl.setTop (mkF m 3 #[.val (.ref b), .val (.int (Int32.ofNat (o + i))), .val (.ref d), .val (.int (Int32.ofNat (q + i))), .val (.int (Int32.ofNat len)), .val (.int (Int32.ofNat i)), z] [])) → ∃ (T' : State) (B' : Cell) (z' : Slot), Stand p l e { frames := 0, locals := 0, cells := 0, slots := 0 } s m #[.ref b, .int (Int32.ofNat o), .ref d, .int (Int32.ofNat q), .int (Int32.ofNat len)] below meth c T' ([] ++ copyLocs d q len) 0 0 ∧ Put d B' s₁ T' ∧ Laid B B' q (q + len) (fun j => Value.int (lo8 (cv A (o + (j - q))))) ∧
      Steps p.tables e below (s₁.setTop (entryFrame m #[.ref b, .int (Int32.ofNat o), .ref d, .int (Int32.ofNat q), .int (Int32.ofNat len)] 7)) (T'.setTop (mkF m 3 #[.val (.ref b), .val (.int (Int32.ofNat (o + len))), .val (.ref d), .val (.int (Int32.ofNat (q + len))), .val (.int (Int32.ofNat len)), .val (.int (Int32.ofNat len)), z'] [])) := by
    intro r
    induction r with
    | zero =>
      intro i hi z hz Tl Bk Xl pl fl cl
      have hil : i = len := by omega
      rw [hil] at Xl fl cl
      exact ⟨Tl, Bk, z, Xl, pl, fl, cl⟩
    | succ r ih =>
      intro i hi z hz Tl Bk Xl pl fl cl
      have all := X0.warmed.alike.symm.trans Xl.warmed.alike
      have hAl := hA0.keep all (pl.other hne hA0.1)
      have hBk := hB0.like all pl.1 fl.1 fl.2.1 fl.2.2.1
      have hlt : q + i < Bk.slots.size := by rw [fl.2.2.1]; omega
      have c3 : Steps p.tables e below (s₁.setTop (entryFrame m #[.ref b, .int (Int32.ofNat o), .ref d, .int (Int32.ofNat q), .int (Int32.ofNat len)] 7)) (Tl.setTop (mkF m 12 #[.val (.ref b), .val (.int (Int32.ofNat (o + i))), .val (.ref d), .val (.int (Int32.ofNat (q + i))), .val (.int (Int32.ofNat len)), .val (.int (Int32.ofNat i)), z] [.int (Int32.ofNat (o + i)), .ref b])) := cl.trans (by
        refine XS.iload Xl.here hexec rfl (hb hbytes d3) rfl ?_
        refine XS.iload Xl.here hexec rfl (hb hbytes d5) rfl ?_
        refine XS.icmpNo Xl.here hexec rfl (hb hbytes d7) rfl (ii_ge_f (lt32 (by omega) (by omega))) ?_
        refine XS.aloadN Xl.here hexec rfl (hb hbytes d10) rfl rfl ?_
        refine XS.iloadN Xl.here hexec rfl (hb hbytes d11) rfl ?_
        exact Steps.refl _)
      have c4 : Steps p.tables e below (s₁.setTop (entryFrame m #[.ref b, .int (Int32.ofNat o), .ref d, .int (Int32.ofNat q), .int (Int32.ofNat len)] 7)) (Tl.setTop (mkF m 13 #[.val (.ref b), .val (.int (Int32.ofNat (o + i))), .val (.ref d), .val (.int (Int32.ofNat (q + i))), .val (.int (Int32.ofNat len)), .val (.int (Int32.ofNat i)), z] [.int (cv A (o + i))])) := c3.trans (by
        refine Xl.aget hexec hAl rfl (hA.get (i := o + i) (by omega)) rfl rfl (hb hbytes d12) ?_
        exact Steps.refl _)
      have c5 : Steps p.tables e below (s₁.setTop (entryFrame m #[.ref b, .int (Int32.ofNat o), .ref d, .int (Int32.ofNat q), .int (Int32.ofNat len)] 7)) (Tl.setTop (mkF m 15 #[.val (.ref b), .val (.int (Int32.ofNat (o + i))), .val (.ref d), .val (.int (Int32.ofNat (q + i))), .val (.int (Int32.ofNat len)), .val (.int (Int32.ofNat i)), .val (.int (cv A (o + i)))] [])) := c4.trans (by
        refine XS.istoreS Xl.here hexec rfl (hb hbytes d13) rfl rfl hz ?_
        exact Steps.refl _)
      have c6 : Steps p.tables e below (s₁.setTop (entryFrame m #[.ref b, .int (Int32.ofNat o), .ref d, .int (Int32.ofNat q), .int (Int32.ofNat len)] 7)) (Tl.setTop (mkF m 31 #[.val (.ref b), .val (.int (Int32.ofNat (o + i))), .val (.ref d), .val (.int (Int32.ofNat (q + i))), .val (.int (Int32.ofNat len)), .val (.int (Int32.ofNat i)), .val (.int (cv A (o + i)))] [.int (lo8 (cv A (o + i))), .int (Int32.ofNat (q + i)), .ref d])) := c5.trans (by
        refine XS.iload Xl.here hexec rfl (hb hbytes d15) rfl ?_
        refine sipushV Xl.here hexec rfl 255 (hb hbytes d17) (by decide) ?_
        refine XS.icmpYes Xl.here hexec rfl (pc0 := 20) rfl (hb hbytes d20) rfl (ii_le_t (hp i (by omega))) (by decide) rfl ?_
        refine XS.aloadN Xl.here hexec rfl (hb hbytes d26) rfl rfl ?_
        refine XS.iloadN Xl.here hexec rfl (hb hbytes d27) rfl ?_
        refine XS.iload Xl.here hexec rfl (hb hbytes d28) rfl ?_
        refine i2b Xl.here hexec rfl (hb hbytes d30) rfl ?_
        exact Steps.refl _)
      obtain ⟨T7, X7, p7, st7⟩ := Xl.aput hexec hBk rfl hlt rfl (fits_lo8 (cv A (o + i))) (g := (mkF m 31 #[.val (.ref b), .val (.int (Int32.ofNat (o + i))), .val (.ref d), .val (.int (Int32.ofNat (q + i))), .val (.int (Int32.ofNat len)), .val (.int (Int32.ofNat i)), .val (.int (cv A (o + i)))] [.int (lo8 (cv A (o + i))), .int (Int32.ofNat (q + i)), .ref d])) rfl (rest := []) rfl (hb hbytes d31)
      have c8 : Steps p.tables e below (s₁.setTop (entryFrame m #[.ref b, .int (Int32.ofNat o), .ref d, .int (Int32.ofNat q), .int (Int32.ofNat len)] 7)) (T7.setTop (mkF m 32 #[.val (.ref b), .val (.int (Int32.ofNat (o + i))), .val (.ref d), .val (.int (Int32.ofNat (q + i))), .val (.int (Int32.ofNat len)), .val (.int (Int32.ofNat i)), .val (.int (cv A (o + i)))] [])) := c6.trans (st7 _ (Steps.refl _))
      have c9 : Steps p.tables e below (s₁.setTop (entryFrame m #[.ref b, .int (Int32.ofNat o), .ref d, .int (Int32.ofNat q), .int (Int32.ofNat len)] 7)) (T7.setTop (mkF m 3 #[.val (.ref b), .val (.int (Int32.ofNat (o + i) + 1)), .val (.ref d), .val (.int (Int32.ofNat (q + i) + 1)), .val (.int (Int32.ofNat len)), .val (.int (Int32.ofNat i + 1)), .val (.int (cv A (o + i)))] [])) := c8.trans (by
        refine iincV X7.here hexec rfl 1 (hb hbytes d32) (by decide) rfl rfl ?_
        refine iincV X7.here hexec rfl 1 (hb hbytes d35) (by decide) rfl rfl ?_
        refine iincV X7.here hexec rfl 1 (hb hbytes d38) (by decide) rfl rfl ?_
        refine XS.goto X7.here hexec rfl (pc0 := 41) rfl (hb hbytes d41) (by decide) rfl ?_
        exact Steps.refl _)
      have c10 : Steps p.tables e below (s₁.setTop (entryFrame m #[.ref b, .int (Int32.ofNat o), .ref d, .int (Int32.ofNat q), .int (Int32.ofNat len)] 7)) (T7.setTop (mkF m 3 #[.val (.ref b), .val (.int (Int32.ofNat (o + (i + 1)))), .val (.ref d), .val (.int (Int32.ofNat (q + (i + 1)))), .val (.int (Int32.ofNat len)), .val (.int (Int32.ofNat (i + 1))), .val (.int (cv A (o + i)))] [])) := by
        have := c9
        rw [succ32, succ32, succ32] at this
        exact this
      exact ih (i + 1) (by omega) _ (Or.inr ⟨_, rfl, rfl⟩) T7 _ (by rw [copyLocs_step, ← List.append_assoc]; exact X7) (pl.trans p7) (fl.step (by omega) hlt (by simp)) c10
  obtain ⟨T9, B9, z9, X9, p9, f9, g9⟩ := loop len 0 (by omega) .unset (Or.inl rfl) s₁ B (by simpa [copyLocs] using X0) ⟨hB0.1, fun _ _ => rfl, rfl⟩ (Laid.zero _ _ _) c2
  have c11 : Steps p.tables e below (s₁.setTop (entryFrame m #[.ref b, .int (Int32.ofNat o), .ref d, .int (Int32.ofNat q), .int (Int32.ofNat len)] 7)) (T9.setTop (mkF m 46 #[.val (.ref b), .val (.int (Int32.ofNat (o + len))), .val (.ref d), .val (.int (Int32.ofNat (q + len))), .val (.int (Int32.ofNat len)), .val (.int (Int32.ofNat len)), z9] [.int (Int32.ofNat len)])) := g9.trans (by
    refine XS.iload X9.here hexec rfl (hb hbytes d3) rfl ?_
    refine XS.iload X9.here hexec rfl (hb hbytes d5) rfl ?_
    refine XS.icmpYes X9.here hexec rfl (pc0 := 7) rfl (hb hbytes d7) rfl (ii_ge_t (nlt32 (by omega) (Nat.le_refl _))) (by decide) rfl ?_
    refine XS.iload X9.here hexec rfl (hb hbytes d44) rfl ?_
    exact Steps.refl _)
  exact ⟨T9, some (.int (Int32.ofNat len)), _, _, _, X9, by simp, rfl, rfl, (fun h => by cases h), ⟨rfl, B9, p9.from hh0, f9⟩, fun fs hl => c11.trans (X9.ireturnOut hexec hret rfl (Or.inl rfl) (hb hbytes d46) hl)⟩
end Cmp5
namespace Cmp3
def yN : MethodName := ⟨"java/lang/StringUTF16", "compress", "([CII)[B"⟩
abbrev yB : ByteArray := jdk_52_method_16_code
theorem d0 : decode yB 0 = .ok (.iload_n 2, 1) := by decide +kernel
theorem d1 : decode yB 1 = .ok (.newarray .byte, 2) := by decide +kernel
theorem d3 : decode yB 3 = .ok (.astore_n 3, 1) := by decide +kernel
theorem d4 : decode yB 4 = .ok (.aload_n 0, 1) := by decide +kernel
theorem d5 : decode yB 5 = .ok (.iload_n 1, 1) := by decide +kernel
theorem d6 : decode yB 6 = .ok (.aload_n 3, 1) := by decide +kernel
theorem d7 : decode yB 7 = .ok (.iconst 0, 1) := by decide +kernel
theorem d8 : decode yB 8 = .ok (.iload_n 2, 1) := by decide +kernel
theorem d9 : decode yB 9 = .ok (.invokestatic 115, 3) := by decide +kernel
theorem d12 : decode yB 12 = .ok (.istore 4, 2) := by decide +kernel
theorem d14 : decode yB 14 = .ok (.iload 4, 2) := by decide +kernel
theorem d16 : decode yB 16 = .ok (.iload_n 2, 1) := by decide +kernel
theorem d17 : decode yB 17 = .ok (.if_icmp (.eq) 40, 3) := by decide +kernel
theorem d57 : decode yB 57 = .ok (.aload_n 3, 1) := by decide +kernel
theorem d58 : decode yB 58 = .ok (.areturn, 1) := by decide +kernel
def site : List Cond := [.arrayClass .byte, Cmp5.tab] ++ staticW U16 115 Cmp5.yN
def tab : Cond := tabOf yN yB 6 (some (.array .byte)) site
def P (b : Addr) (A : Cell) (o len : Nat) (args : Array Value) (s : State) : Prop := args = #[.ref b, .int (Int32.ofNat o), .int (Int32.ofNat len)] ∧ Ch b A s ∧ o + len ≤ A.slots.size ∧ len ≤ 536870912 ∧ ∀ i, i < len → ¬ 255 < cv A (o + i)
def E (b : Addr) (A : Cell) (o len : Nat) (r : Option Value) (s u : State) : Prop := NewArr .byte "[B" len (fun j => .int (lo8 (cv A (o + j)))) r s u ∧ u.heap.size = s.heap.size + 1
/-- no char of the range above 255: a new byte[] of their low bytes -/
theorem law (l : Launch) (b : Addr) (A : Cell) (o len : Nat) : Law l yN 3 3 1 18 yB 6 (some (.array .byte)) site (P b A o len) (E b A o len) [] 1 len := by
  refine Law.of_walk (plainFor_of_name (by decide +kernel)) (by decide +kernel) (by decide +kernel) (by decide) (fun _ _ h => by rw [h.1]; rfl) (fun _ U U' hal hh h => ⟨h.1, h.2.1.mv hal hh, h.2.2⟩) (fun r U U' V V' h1 hal h2 h => ⟨NewArr.mv r U U' V V' h1 hal h2 h.1, by rw [h1, h2]; exact h.2⟩) ?_
  intro p e s m args below meth c s₁ X0 hexec hbytes hml hret hlk hnm hown hh0 W hP
  obtain ⟨rfl, hA, l1, l2, hp⟩ := hP
  have a31 := hA.1.2.2.2
  have c1 : Steps p.tables e below (s₁.setTop (entryFrame m #[.ref b, .int (Int32.ofNat o), .int (Int32.ofNat len)] 6)) (s₁.setTop (mkF m 0 #[.val (.ref b), .val (.int (Int32.ofNat o)), .val (.int (Int32.ofNat len)), .unset, .unset, .unset] [])) := entry rfl
  have c2 : Steps p.tables e below (s₁.setTop (entryFrame m #[.ref b, .int (Int32.ofNat o), .int (Int32.ofNat len)] 6)) (s₁.setTop (mkF m 1 #[.val (.ref b), .val (.int (Int32.ofNat o)), .val (.int (Int32.ofNat len)), .unset, .unset, .unset] [.int (Int32.ofNat len)])) := c1.trans (by
    refine XS.iloadN X0.here hexec rfl (hb hbytes d0) rfl ?_
    exact Steps.refl _)
  obtain ⟨T3, B3, X3, ba3, bs3, bv3, bh3, bf3, st3⟩ := X0.anew hexec (atype := .byte) (wk W (.arrayClass .byte)) rfl (by show len * 1 ≤ _; omega) (by omega) (g := (mkF m 1 #[.val (.ref b), .val (.int (Int32.ofNat o)), .val (.int (Int32.ofNat len)), .unset, .unset, .unset] [.int (Int32.ofNat len)])) rfl (hb hbytes d1) (rest := []) rfl (Nat.le_refl _) (by show 0 + len ≤ len; omega)
  rw [hh0] at ba3 st3
  have kp3 : XT.Kept s T3 := (XT.Kept.of_eq hh0).push bh3
  have hA3 := hA.keep X3.warmed.alike (kp3 _ _ hA.1.1)
  have hne : b ≠ s.heap.size := hA.1.ne
  have c4 : Steps p.tables e below (s₁.setTop (entryFrame m #[.ref b, .int (Int32.ofNat o), .int (Int32.ofNat len)] 6)) (T3.setTop (mkF m 3 #[.val (.ref b), .val (.int (Int32.ofNat o)), .val (.int (Int32.ofNat len)), .unset, .unset, .unset] [.ref s.heap.size])) := c2.trans (st3 _ (Steps.refl _))
  have c5 : Steps p.tables e below (s₁.setTop (entryFrame m #[.ref b, .int (Int32.ofNat o), .int (Int32.ofNat len)] 6)) (T3.setTop (mkF m 9 #[.val (.ref b), .val (.int (Int32.ofNat o)), .val (.int (Int32.ofNat len)), .val (.ref s.heap.size), .unset, .unset] [.int (Int32.ofNat len), .int 0, .ref s.heap.size, .int (Int32.ofNat o), .ref b])) := c4.trans (by
    refine XS.astoreN X3.here hexec rfl (hb hbytes d3) rfl rfl rfl ?_
    refine XS.aloadN X3.here hexec rfl (hb hbytes d4) rfl rfl ?_
    refine XS.iloadN X3.here hexec rfl (hb hbytes d5) rfl ?_
    refine XS.aloadN X3.here hexec rfl (hb hbytes d6) rfl rfl ?_
    refine iconstV X3.here hexec rfl 0 (hb hbytes d7) (by decide) ?_
    refine XS.iloadN X3.here hexec rfl (hb hbytes d8) rfl ?_
    exact Steps.refl _)
  obtain ⟨v6, T6, X6, E6, g6⟩ := X3.callS hexec (Cmp5.law l b A s.heap.size B3 o 0 len) hown (wks W (staticW U16 115 Cmp5.yN)) (wk W Cmp5.tab) (W := 0) (Nat.le_of_ble_eq_true rfl) (Nat.le_of_ble_eq_true rfl) (Nat.le_refl _) (by show 0 + len + 0 ≤ len; omega) (g := (mkF m 9 #[.val (.ref b), .val (.int (Int32.ofNat o)), .val (.int (Int32.ofNat len)), .val (.ref s.heap.size), .unset, .unset] [.int (Int32.ofNat len), .int (Int32.ofNat 0), .ref s.heap.size, .int (Int32.ofNat o), .ref b])) rfl (by rw [hml]; rfl) c5 (argsL := [.ref b, .int (Int32.ofNat o), .ref s.heap.size, .int (Int32.ofNat 0), .int (Int32.ofNat len)]) (rest := []) rfl rfl (by show 2 * 0 + 0 ≤ _; decide) (hb hbytes d9) (⟨rfl, hA3, ba3, hne, l1, by rw [bs3]; simp, hp⟩)
  obtain ⟨rfl, B6, p6, f6⟩ := E6
  have c7 : Steps p.tables e below (s₁.setTop (entryFrame m #[.ref b, .int (Int32.ofNat o), .int (Int32.ofNat len)] 6)) (T6.setTop (mkF m 12 #[.val (.ref b), .val (.int (Int32.ofNat o)), .val (.int (Int32.ofNat len)), .val (.ref s.heap.size), .unset, .unset] [.int (Int32.ofNat len)])) := g6
  have c8 : Steps p.tables e below (s₁.setTop (entryFrame m #[.ref b, .int (Int32.ofNat o), .int (Int32.ofNat len)] 6)) (T6.setTop (mkF m 58 #[.val (.ref b), .val (.int (Int32.ofNat o)), .val (.int (Int32.ofNat len)), .val (.ref s.heap.size), .val (.int (Int32.ofNat len)), .unset] [.ref s.heap.size])) := c7.trans (by
    refine XS.istore X6.here hexec rfl (hb hbytes d12) rfl rfl ?_
    refine XS.iload X6.here hexec rfl (hb hbytes d14) rfl ?_
    refine XS.iloadN X6.here hexec rfl (hb hbytes d16) rfl ?_
    refine XS.icmpYes X6.here hexec rfl (pc0 := 17) rfl (hb hbytes d17) rfl (ii_eq_t rfl) (by decide) rfl ?_
    refine XS.aloadN X6.here hexec rfl (hb hbytes d57) rfl rfl ?_
    exact Steps.refl _)
  have X8 := X6.wide (L' := []) (cells' := 1) (slots' := len) (fun x hx hlt => by
    simp only [List.nil_append, copyLocs, List.mem_map, List.mem_range] at hx
    obtain ⟨i, -, rfl⟩ := hx
    exact absurd hlt (Nat.lt_irrefl _)) (Nat.le_refl _) (by omega)
  exact ⟨T6, some (.ref s.heap.size), _, _, _, X8, rfl, rfl, rfl, (fun h => by cases h), ⟨⟨rfl, B6, ba3.like (X3.warmed.alike.symm.trans X6.warmed.alike) p6.1 f6.1 f6.2.1 f6.2.2.1, f6.2.1.trans bv3, by rw [X6.warmed.alike.findClass, f6.1]; exact bf3, by rw [f6.2.2.1, bs3]; simp, fun j hj => by rw [f6.2.2.2 j, if_pos (by omega)]; rfl, kp3.put p6 (Nat.le_refl _)⟩, by rw [p6.2.2, bh3, hh0]; simp⟩, fun fs hl => c8.trans (X8.areturnOut hexec rfl hret rfl (hb hbytes d58) hl)⟩
end Cmp3
namespace CodL
def yN : MethodName := ⟨"java/lang/StringUTF16", "coderFromArrayLen", "([BI)B"⟩
abbrev yB : ByteArray := jdk_52_method_15_code
theorem d0 : decode yB 0 = .ok (.iload_n 1, 1) := by decide +kernel
theorem d1 : decode yB 1 = .ok (.aload_n 0, 1) := by decide +kernel
theorem d2 : decode yB 2 = .ok (.arraylength, 1) := by decide +kernel
theorem d3 : decode yB 3 = .ok (.isub, 1) := by decide +kernel
theorem d4 : decode yB 4 = .ok (.bipush 31, 2) := by decide +kernel
theorem d6 : decode yB 6 = .ok (.iushr, 1) := by decide +kernel
theorem d7 : decode yB 7 = .ok (.i2b, 1) := by decide +kernel
theorem d8 : decode yB 8 = .ok (.ireturn, 1) := by decide +kernel
def site : List Cond := []
def tab : Cond := tabOf yN yB 2 (some .byte) site
def P (d : Addr) (B : Cell) (args : Array Value) (s : State) : Prop := args = #[.ref d, .int (Int32.ofNat B.slots.size)] ∧ Arr .byte d B s
def E (r : Option Value) (s u : State) : Prop := XT.PureE (some (.int 0)) r s u
/-- an array as long as the number of chars: LATIN1 -/
theorem law (l : Launch) (d : Addr) (B : Cell) : Law l yN 2 2 0 0 yB 2 (some .byte) site (P d B) E [] 0 0 := by
  refine Law.of_walk (plainFor_of_name (by decide +kernel)) (by decide +kernel) (by decide +kernel) (by decide) (fun _ _ h => by rw [h.1]; rfl) (fun _ U U' hal hh h => ⟨h.1, h.2.mv hal hh⟩) (fun r U U' V V' h1 hal h2 h => XT.PureE.mv r U U' V V' h1 hal h2 h) ?_
  intro p e s m args below meth c s₁ X0 hexec hbytes hml hret hlk hnm hown hh0 W hP
  obtain ⟨rfl, hB⟩ := hP
  have hB0 := hB.mv X0.warmed.alike hh0
  have c1 : Steps p.tables e below (s₁.setTop (entryFrame m #[.ref d, .int (Int32.ofNat B.slots.size)] 2)) (s₁.setTop (mkF m 0 #[.val (.ref d), .val (.int (Int32.ofNat B.slots.size))] [])) := entry rfl
  have c2 : Steps p.tables e below (s₁.setTop (entryFrame m #[.ref d, .int (Int32.ofNat B.slots.size)] 2)) (s₁.setTop (mkF m 2 #[.val (.ref d), .val (.int (Int32.ofNat B.slots.size))] [.ref d, .int (Int32.ofNat B.slots.size)])) := c1.trans (by
    refine XS.iloadN X0.here hexec rfl (hb hbytes d0) rfl ?_
    refine XS.aloadN X0.here hexec rfl (hb hbytes d1) rfl rfl ?_
    exact Steps.refl _)
  have c3 : Steps p.tables e below (s₁.setTop (entryFrame m #[.ref d, .int (Int32.ofNat B.slots.size)] 2)) (s₁.setTop (mkF m 8 #[.val (.ref d), .val (.int (Int32.ofNat B.slots.size))] [.int (lo8 (ushr (Int32.ofNat B.slots.size - Int32.ofNat B.slots.size) 31))])) := c2.trans (by
    refine X0.alen hexec hB0 rfl rfl (hb hbytes d2) ?_
    refine XS.isub X0.here hexec rfl (hb hbytes d3) rfl ?_
    refine bipushV X0.here hexec rfl 31 (hb hbytes d4) (by decide) ?_
    refine iushr X0.here hexec rfl (hb hbytes d6) rfl ?_
    refine i2b X0.here hexec rfl (hb hbytes d7) rfl ?_
    exact Steps.refl _)
  have e0 : lo8 (ushr (Int32.ofNat B.slots.size - Int32.ofNat B.slots.size) 31) = 0 := by rw [Int32.sub_self]; decide
  rw [e0] at c3
  exact ⟨s₁, some (.int 0), _, _, _, X0, rfl, rfl, rfl, (fun h => by cases h), ⟨rfl, hh0⟩, fun fs hl => c3.trans (X0.ireturnOut hexec hret rfl (Or.inr (Or.inr (Or.inl rfl))) (hb hbytes d8) hl)⟩
end CodL
/-- the String at a is Latin-1 over a new byte[] (the heap's one new cell): the low bytes of the len chars of A from o on; every cell but a is kept -/
def Got (a : Addr) (D : Cell) (fV fC : Field) (A : Cell) (o len : Nat) (r : Option Value) (s u : State) : Prop := r = none ∧ ∃ D' V : Cell, Blank "java/lang/String" a D' u ∧ Same D D' [fV.slot, fC.slot] ∧ D'.slots[fV.slot]? = some (.ref s.heap.size) ∧ D'.slots[fC.slot]? = some (.int 0) ∧ Arr .byte s.heap.size V u ∧ V.vm = .none ∧ u.vm.findClass "[B" = some V.cls ∧ V.slots.size = len ∧ (∀ j, j < len → V.slots[j]? = some (.int (lo8 (cv A (o + j))))) ∧ (∀ (y : Addr) (c : Cell), y ≠ a → s.heap[y]? = some c → u.heap[y]? = some c) ∧ u.heap.size = s.heap.size + 1
theorem Got.mv {a : Addr} {D A : Cell} {fV fC : Field} {o len : Nat} : ∀ r (U U' V V' : State), U'.heap = U.heap → V.vm.Alike V'.vm → V'.heap = V.heap → Got a D fV fC A o len r U V → Got a D fV fC A o len r U' V' :=
  fun r U U' V V' h1 hal h2 ⟨e0, D', X, a1, a2, a3, a4, a5, a6, a7, a8, a9, a10, a11⟩ => ⟨e0, D', X, a1.mv hal h2, a2, by rw [h1]; exact a3, a4, by rw [h1]; exact a5.mv hal h2, a6, by rw [hal.findClass]; exact a7, a8, a9, by rw [h1, h2]; exact a10, by rw [h1, h2]; exact a11⟩
namespace New4
def yN : MethodName := ⟨"java/lang/String", "<init>", "([CIILjava/lang/Void;)V"⟩
abbrev yB : ByteArray := jdk_42_method_149_code
theorem d0 : decode yB 0 = .ok (.aload_n 0, 1) := by decide +kernel
theorem d1 : decode yB 1 = .ok (.invokespecial 1, 3) := by decide +kernel
theorem d4 : decode yB 4 = .ok (.iload_n 3, 1) := by decide +kernel
theorem d5 : decode yB 5 = .ok (.ifCond (.ne) 22, 3) := by decide +kernel
theorem d27 : decode yB 27 = .ok (.getstatic 38, 3) := by decide +kernel
theorem d30 : decode yB 30 = .ok (.ifCond (.eq) 28, 3) := by decide +kernel
theorem d33 : decode yB 33 = .ok (.aload_n 1, 1) := by decide +kernel
theorem d34 : decode yB 34 = .ok (.iload_n 2, 1) := by decide +kernel
theorem d35 : decode yB 35 = .ok (.iload_n 3, 1) := by decide +kernel
theorem d36 : decode yB 36 = .ok (.invokestatic 177, 3) := by decide +kernel
theorem d39 : decode yB 39 = .ok (.astore 5, 2) := by decide +kernel
theorem d41 : decode yB 41 = .ok (.aload_n 0, 1) := by decide +kernel
theorem d42 : decode yB 42 = .ok (.aload 5, 2) := by decide +kernel
theorem d44 : decode yB 44 = .ok (.iload_n 3, 1) := by decide +kernel
theorem d45 : decode yB 45 = .ok (.invokestatic 47, 3) := by decide +kernel
theorem d48 : decode yB 48 = .ok (.putfield 15, 3) := by decide +kernel
theorem d51 : decode yB 51 = .ok (.aload_n 0, 1) := by decide +kernel
theorem d52 : decode yB 52 = .ok (.aload 5, 2) := by decide +kernel
theorem d54 : decode yB 54 = .ok (.putfield 9, 3) := by decide +kernel
theorem d57 : decode yB 57 = .ok (.return_, 1) := by decide +kernel
def site : List Cond := [.fieldLink "java/lang/String" 38 "java/lang/String" "COMPACT_STRINGS" "Z", Cmp3.tab, CodL.tab, .laysFinal "java/lang/String" "java/lang/String" "value" "[B", .fieldLink "java/lang/String" 9 "java/lang/String" "value" "[B", .laysFinal "java/lang/String" "java/lang/String" "coder" "B", .fieldLink "java/lang/String" 15 "java/lang/String" "coder" "B"] ++ objW "java/lang/String" 1 ++ staticW "java/lang/String" 177 Cmp3.yN ++ staticW "java/lang/String" 47 CodL.yN
def tab : Cond := tabOf yN yB 6 none site
def P (a : Addr) (D : Cell) (fV fC : Field) (b : Addr) (A : Cell) (z : Int32) (o len : Nat) (args : Array Value) (s : State) : Prop := args = #[.ref a, .ref b, .int (Int32.ofNat o), .int (Int32.ofNat len), .null] ∧ Blank "java/lang/String" a D s ∧ Found "java/lang/String" "value" "[B" fV s ∧ Found "java/lang/String" "coder" "B" fC s ∧ Ch b A s ∧ StaticIs s "java/lang/String" "COMPACT_STRINGS" "Z" (.int z) ∧ ¬ z = 0 ∧ 0 < len ∧ o + len ≤ A.slots.size ∧ len ≤ 536870912 ∧ ∀ i, i < len → ¬ 255 < cv A (o + i)
def E (a : Addr) (D : Cell) (fV fC : Field) (A : Cell) (o len : Nat) (r : Option Value) (s u : State) : Prop := Got a D fV fC A o len r s u
/-- len > 0, no char of the range above 255: a Latin-1 String of their low bytes -/
theorem law (l : Launch) (a : Addr) (D : Cell) (fV fC : Field) (b : Addr) (A : Cell) (z : Int32) (o len : Nat) : Law l yN 5 4 2 35 yB 6 none site (P a D fV fC b A z o len) (E a D fV fC A o len) [⟨a, fC.slot⟩, ⟨a, fV.slot⟩] 1 len := by
  refine Law.of_walk (plainFor_of_name (by decide +kernel)) (by decide +kernel) (by decide +kernel) (by decide) (fun _ _ h => by rw [h.1]; rfl) (fun _ U U' hal hh h => ⟨h.1, h.2.1.mv hal hh, h.2.2.1.al hal, h.2.2.2.1.al hal, h.2.2.2.2.1.mv hal hh, h.2.2.2.2.2.1.there hal hh, h.2.2.2.2.2.2⟩) (fun r U U' V V' h1 hal h2 h => Got.mv r U U' V V' h1 hal h2 h) ?_
  intro p e s m args below meth c s₁ X0 hexec hbytes hml hret hlk hnm hown hh0 W hP
  obtain ⟨rfl, hB, f1, f2, hA, s1, hz, l0, l1, l2, hp⟩ := hP
  have a31 := hA.1.2.2.2
  have c1 : Steps p.tables e below (s₁.setTop (entryFrame m #[.ref a, .ref b, .int (Int32.ofNat o), .int (Int32.ofNat len), .null] 6)) (s₁.setTop (mkF m 0 #[.val (.ref a), .val (.ref b), .val (.int (Int32.ofNat o)), .val (.int (Int32.ofNat len)), .val .null, .unset] [])) := entry rfl
  have c2 : Steps p.tables e below (s₁.setTop (entryFrame m #[.ref a, .ref b, .int (Int32.ofNat o), .int (Int32.ofNat len), .null] 6)) (s₁.setTop (mkF m 1 #[.val (.ref a), .val (.ref b), .val (.int (Int32.ofNat o)), .val (.int (Int32.ofNat len)), .val .null, .unset] [.ref a])) := c1.trans (by
    refine XS.aloadN X0.here hexec rfl (hb hbytes d0) rfl rfl ?_
    exact Steps.refl _)
  obtain ⟨T3, X3, q3, st3⟩ := X0.oinit hexec hown (wks W (objW "java/lang/String" 1)) (g := (mkF m 1 #[.val (.ref a), .val (.ref b), .val (.int (Int32.ofNat o)), .val (.int (Int32.ofNat len)), .val .null, .unset] [.ref a])) rfl (by rw [hml]; rfl) (rest := []) rfl (hb hbytes d1) (W := 0) (by show 2 * 0 + 0 ≤ _; decide) (Nat.le_of_ble_eq_true rfl) (Nat.le_of_ble_eq_true rfl)
  have hh3 := q3.trans hh0
  have c4 : Steps p.tables e below (s₁.setTop (entryFrame m #[.ref a, .ref b, .int (Int32.ofNat o), .int (Int32.ofNat len), .null] 6)) (T3.setTop (mkF m 27 #[.val (.ref a), .val (.ref b), .val (.int (Int32.ofNat o)), .val (.int (Int32.ofNat len)), .val .null, .unset] [])) := (c2.trans (st3 _ (Steps.refl _))).trans (by
    refine XS.iloadN X3.here hexec rfl (hb hbytes d4) rfl ?_
    refine XS.ifYes X3.here hexec rfl (pc0 := 5) rfl (hb hbytes d5) rfl (i0_ne_t (nz32 (by omega) l0)) (by decide) rfl ?_
    exact Steps.refl _)
  obtain ⟨T5, X5, q5, st5⟩ := X3.sget hexec hown (wk W (.fieldLink "java/lang/String" 38 "java/lang/String" "COMPACT_STRINGS" "Z")) s1 (fun _ _ h => by rw [hh3]; exact h) (g := (mkF m 27 #[.val (.ref a), .val (.ref b), .val (.int (Int32.ofNat o)), .val (.int (Int32.ofNat len)), .val .null, .unset] [])) rfl (hb hbytes d27)
  have hh5 := q5.trans hh3
  have c6 : Steps p.tables e below (s₁.setTop (entryFrame m #[.ref a, .ref b, .int (Int32.ofNat o), .int (Int32.ofNat len), .null] 6)) (T5.setTop (mkF m 30 #[.val (.ref a), .val (.ref b), .val (.int (Int32.ofNat o)), .val (.int (Int32.ofNat len)), .val .null, .unset] [.int z])) := c4.trans (st5 _ (Steps.refl _))
  have c7 : Steps p.tables e below (s₁.setTop (entryFrame m #[.ref a, .ref b, .int (Int32.ofNat o), .int (Int32.ofNat len), .null] 6)) (T5.setTop (mkF m 36 #[.val (.ref a), .val (.ref b), .val (.int (Int32.ofNat o)), .val (.int (Int32.ofNat len)), .val .null, .unset] [.int (Int32.ofNat len), .int (Int32.ofNat o), .ref b])) := c6.trans (by
    refine XS.ifNo X5.here hexec rfl (hb hbytes d30) rfl (i0_eq_f hz) ?_
    refine XS.aloadN X5.here hexec rfl (hb hbytes d33) rfl rfl ?_
    refine XS.iloadN X5.here hexec rfl (hb hbytes d34) rfl ?_
    refine XS.iloadN X5.here hexec rfl (hb hbytes d35) rfl ?_
    exact Steps.refl _)
  obtain ⟨v8, T8, X8, E8, g8⟩ := X5.callS hexec (Cmp3.law l b A o len) hown (wks W (staticW "java/lang/String" 177 Cmp3.yN)) (wk W Cmp3.tab) (W := 0) (Nat.le_of_ble_eq_true rfl) (Nat.le_of_ble_eq_true rfl) (Nat.le_refl _) (by show 0 + len ≤ len; omega) (g := (mkF m 36 #[.val (.ref a), .val (.ref b), .val (.int (Int32.ofNat o)), .val (.int (Int32.ofNat len)), .val .null, .unset] [.int (Int32.ofNat len), .int (Int32.ofNat o), .ref b])) rfl (by rw [hml]; rfl) c7 (argsL := [.ref b, .int (Int32.ofNat o), .int (Int32.ofNat len)]) (rest := []) rfl rfl (by show 2 * 0 + 0 ≤ _; decide) (hb hbytes d36) (⟨rfl, hA.mv X5.warmed.alike hh5, l1, l2, hp⟩)
  obtain ⟨e8, z8⟩ := E8
  obtain ⟨rfl, N, n1, n2, n3, n4, n5, n6⟩ := NewArr.mv _ T5 s _ _ hh5.symm (Vm.Alike.refl _) rfl e8
  rw [hh5] at z8
  have hB1 := hB.keep X8.warmed.alike (n6 _ _ hB.1)
  have hne : s.heap.size ≠ a := (Nat.ne_of_lt (Array.getElem?_eq_some_iff.mp hB.1).1).symm
  have c9 : Steps p.tables e below (s₁.setTop (entryFrame m #[.ref a, .ref b, .int (Int32.ofNat o), .int (Int32.ofNat len), .null] 6)) (T8.setTop (mkF m 39 #[.val (.ref a), .val (.ref b), .val (.int (Int32.ofNat o)), .val (.int (Int32.ofNat len)), .val .null, .unset] [.ref s.heap.size])) := g8
  have c10 : Steps p.tables e below (s₁.setTop (entryFrame m #[.ref a, .ref b, .int (Int32.ofNat o), .int (Int32.ofNat len), .null] 6)) (T8.setTop (mkF m 45 #[.val (.ref a), .val (.ref b), .val (.int (Int32.ofNat o)), .val (.int (Int32.ofNat len)), .val .null, .val (.ref s.heap.size)] [.int (Int32.ofNat N.slots.size), .ref s.heap.size, .ref a])) := by
    have hc : Steps p.tables e below (s₁.setTop (entryFrame m #[.ref a, .ref b, .int (Int32.ofNat o), .int (Int32.ofNat len), .null] 6)) (T8.setTop (mkF m 45 #[.val (.ref a), .val (.ref b), .val (.int (Int32.ofNat o)), .val (.int (Int32.ofNat len)), .val .null, .val (.ref s.heap.size)] [.int (Int32.ofNat len), .ref s.heap.size, .ref a])) := c9.trans (by
      refine XS.astore X8.here hexec rfl (hb hbytes d39) rfl rfl rfl ?_
      refine XS.aloadN X8.here hexec rfl (hb hbytes d41) rfl rfl ?_
      refine XS.aload X8.here hexec rfl (hb hbytes d42) rfl rfl ?_
      refine XS.iloadN X8.here hexec rfl (hb hbytes d44) rfl ?_
      exact Steps.refl _)
    rw [n4]; exact hc
  obtain ⟨v11, T11, X11, E11, g11⟩ := X8.callS hexec (CodL.law l s.heap.size N) hown (wks W (staticW "java/lang/String" 47 CodL.yN)) (wk W CodL.tab) (W := 1) (Nat.le_of_ble_eq_true rfl) (Nat.le_of_ble_eq_true rfl) (Nat.le_refl _) (by show 0 + len + 0 ≤ len; omega) (g := (mkF m 45 #[.val (.ref a), .val (.ref b), .val (.int (Int32.ofNat o)), .val (.int (Int32.ofNat len)), .val .null, .val (.ref s.heap.size)] [.int (Int32.ofNat N.slots.size), .ref s.heap.size, .ref a])) rfl (by rw [hml]; rfl) c10 (argsL := [.ref s.heap.size, .int (Int32.ofNat N.slots.size)]) (rest := [.ref a]) rfl rfl (by show 2 * 0 + (1 + 0) ≤ _; decide) (hb hbytes d45) (⟨rfl, n1⟩)
  obtain ⟨rfl, q11⟩ := E11
  have hB11 := hB1.mv (X8.warmed.alike.symm.trans X11.warmed.alike) q11
  have c12 : Steps p.tables e below (s₁.setTop (entryFrame m #[.ref a, .ref b, .int (Int32.ofNat o), .int (Int32.ofNat len), .null] 6)) (T11.setTop (mkF m 48 #[.val (.ref a), .val (.ref b), .val (.int (Int32.ofNat o)), .val (.int (Int32.ofNat len)), .val .null, .val (.ref s.heap.size)] [.int 0, .ref a])) := g11
  obtain ⟨T13, X13, p13, bl13, sl13, st13⟩ := X11.finit hexec hown (wk W (.fieldLink "java/lang/String" 15 "java/lang/String" "coder" "B")) (Or.inr ⟨_, (wk W (.laysFinal "java/lang/String" "java/lang/String" "coder" "B"))⟩) (Or.inl ⟨rfl, hnm⟩) f2 (Or.inl rfl) hB11 (t := .byte) (by decide +kernel) rfl (g := (mkF m 48 #[.val (.ref a), .val (.ref b), .val (.int (Int32.ofNat o)), .val (.int (Int32.ofNat len)), .val .null, .val (.ref s.heap.size)] [.int 0, .ref a])) rfl (rest := []) rfl (hb hbytes d48)
  have c14 : Steps p.tables e below (s₁.setTop (entryFrame m #[.ref a, .ref b, .int (Int32.ofNat o), .int (Int32.ofNat len), .null] 6)) (T13.setTop (mkF m 54 #[.val (.ref a), .val (.ref b), .val (.int (Int32.ofNat o)), .val (.int (Int32.ofNat len)), .val .null, .val (.ref s.heap.size)] [.ref s.heap.size, .ref a])) := (c12.trans (st13 _ (Steps.refl _))).trans (by
    refine XS.aloadN X13.here hexec rfl (hb hbytes d51) rfl rfl ?_
    refine XS.aload X13.here hexec rfl (hb hbytes d52) rfl rfl ?_
    exact Steps.refl _)
  obtain ⟨T15, X15, p15, bl15, sl15, st15⟩ := X13.finit hexec hown (wk W (.fieldLink "java/lang/String" 9 "java/lang/String" "value" "[B")) (Or.inr ⟨_, (wk W (.laysFinal "java/lang/String" "java/lang/String" "value" "[B"))⟩) (Or.inl ⟨rfl, hnm⟩) f1 (Or.inl rfl) bl13 (t := (.array .byte)) (by decide +kernel) rfl (g := (mkF m 54 #[.val (.ref a), .val (.ref b), .val (.int (Int32.ofNat o)), .val (.int (Int32.ofNat len)), .val .null, .val (.ref s.heap.size)] [.ref s.heap.size, .ref a])) rfl (rest := []) rfl (hb hbytes d54)
  have c16 : Steps p.tables e below (s₁.setTop (entryFrame m #[.ref a, .ref b, .int (Int32.ofNat o), .int (Int32.ofNat len), .null] 6)) (T15.setTop (mkF m 57 #[.val (.ref a), .val (.ref b), .val (.int (Int32.ofNat o)), .val (.int (Int32.ofNat len)), .val .null, .val (.ref s.heap.size)] [])) := c14.trans (st15 _ (Steps.refl _))
  have ap := apart (Or.inr ⟨_, (wk W (.laysFinal "java/lang/String" "java/lang/String" "value" "[B"))⟩) (Or.inr ⟨_, (wk W (.laysFinal "java/lang/String" "java/lang/String" "coder" "B"))⟩) f1 f2 (t₁ := .array .byte) (t₂ := .byte) (by decide +kernel) (by decide +kernel) (by decide)
  have al := X8.warmed.alike.symm.trans X15.warmed.alike
  have n7 : T11.heap[s.heap.size]? = some N := by rw [q11]; exact n1.1
  exact ⟨T15, none, _, _, _, X15, by simp, rfl, by omega, (fun _ => rfl), ⟨rfl, _, N, bl15, ((Same.refl D _).set _ (by simp)).set _ (by simp), sl15, (Cell.slots_setSlot_ne _ ap).trans sl13, n1.keep al (p15.other hne (p13.other hne n7)), n2, by rw [al.findClass]; exact n3, n4, n5, fun y c h1 h2 => p15.other h1 (p13.other h1 (by rw [q11]; exact n6 y c h2)), by rw [p15.2.2, p13.2.2, q11]; exact z8⟩, fun fs hl => c16.trans (X15.returnOut hexec hret (hb hbytes d57) hl)⟩
end New4
namespace New1
def yN : MethodName := ⟨"java/lang/String", "<init>", "([C)V"⟩
abbrev yB : ByteArray := jdk_42_method_3_code
theorem d0 : decode yB 0 = .ok (.aload_n 0, 1) := by decide +kernel
theorem d1 : decode yB 1 = .ok (.aload_n 1, 1) := by decide +kernel
theorem d2 : decode yB 2 = .ok (.iconst 0, 1) := by decide +kernel
theorem d3 : decode yB 3 = .ok (.aload_n 1, 1) := by decide +kernel
theorem d4 : decode yB 4 = .ok (.arraylength, 1) := by decide +kernel
theorem d5 : decode yB 5 = .ok (.aconst_null, 1) := by decide +kernel
theorem d6 : decode yB 6 = .ok (.invokespecial 27, 3) := by decide +kernel
theorem d9 : decode yB 9 = .ok (.return_, 1) := by decide +kernel
def site : List Cond := [New4.tab] ++ initW "java/lang/String" 27 New4.yN
def tab : Cond := tabOf yN yB 2 none site
def P (a : Addr) (D : Cell) (fV fC : Field) (b : Addr) (A : Cell) (z : Int32) (args : Array Value) (s : State) : Prop := args = #[.ref a, .ref b] ∧ Blank "java/lang/String" a D s ∧ Found "java/lang/String" "value" "[B" fV s ∧ Found "java/lang/String" "coder" "B" fC s ∧ Ch b A s ∧ StaticIs s "java/lang/String" "COMPACT_STRINGS" "Z" (.int z) ∧ ¬ z = 0 ∧ 0 < A.slots.size ∧ A.slots.size ≤ 536870912 ∧ ∀ i, i < A.slots.size → ¬ 255 < cv A i
def E (a : Addr) (D : Cell) (fV fC : Field) (A : Cell) (r : Option Value) (s u : State) : Prop := Got a D fV fC A 0 A.slots.size r s u
/-- new String(chars), not empty, no char above 255: a Latin-1 String of their low bytes -/
theorem law (l : Launch) (a : Addr) (D : Cell) (fV fC : Field) (b : Addr) (A : Cell) (z : Int32) : Law l yN 2 1 3 52 yB 2 none site (P a D fV fC b A z) (E a D fV fC A) [⟨a, fC.slot⟩, ⟨a, fV.slot⟩] 1 A.slots.size := by
  refine Law.of_walk (plainFor_of_name (by decide +kernel)) (by decide +kernel) (by decide +kernel) (by decide) (fun _ _ h => by rw [h.1]; rfl) (fun _ U U' hal hh h => ⟨h.1, h.2.1.mv hal hh, h.2.2.1.al hal, h.2.2.2.1.al hal, h.2.2.2.2.1.mv hal hh, h.2.2.2.2.2.1.there hal hh, h.2.2.2.2.2.2⟩) (fun r U U' V V' h1 hal h2 h => Got.mv r U U' V V' h1 hal h2 h) ?_
  intro p e s m args below meth c s₁ X0 hexec hbytes hml hret hlk hnm hown hh0 W hP
  obtain ⟨rfl, hB, f1, f2, hA, s1, hz, l0, l2, hp⟩ := hP
  have c1 : Steps p.tables e below (s₁.setTop (entryFrame m #[.ref a, .ref b] 2)) (s₁.setTop (mkF m 0 #[.val (.ref a), .val (.ref b)] [])) := entry rfl
  have c2 : Steps p.tables e below (s₁.setTop (entryFrame m #[.ref a, .ref b] 2)) (s₁.setTop (mkF m 6 #[.val (.ref a), .val (.ref b)] [.null, .int (Int32.ofNat A.slots.size), .int 0, .ref b, .ref a])) := c1.trans (by
    refine XS.aloadN X0.here hexec rfl (hb hbytes d0) rfl rfl ?_
    refine XS.aloadN X0.here hexec rfl (hb hbytes d1) rfl rfl ?_
    refine iconstV X0.here hexec rfl 0 (hb hbytes d2) (by decide) ?_
    refine XS.aloadN X0.here hexec rfl (hb hbytes d3) rfl rfl ?_
    refine X0.alen hexec (hA.1.mv X0.warmed.alike hh0) rfl rfl (hb hbytes d4) ?_
    refine XS.aconstNull X0.here hexec rfl (hb hbytes d5) ?_
    exact Steps.refl _)
  obtain ⟨v3, T3, X3, E3, g3⟩ := X0.callN hexec (New4.law l a D fV fC b A z 0 A.slots.size) rfl hown (wks W (initW "java/lang/String" 27 New4.yN)) (W New4.tab (by simp only [site, List.mem_cons, List.mem_append, true_or, or_true])) (W := 0) (Nat.le_of_ble_eq_true rfl) (Nat.le_of_ble_eq_true rfl) (Nat.le_refl _) (by show 0 + A.slots.size ≤ A.slots.size; omega) (g := (mkF m 6 #[.val (.ref a), .val (.ref b)] [.null, .int (Int32.ofNat A.slots.size), .int (Int32.ofNat 0), .ref b, .ref a])) rfl (by rw [hml]; rfl) c2 (argsL := [.ref b, .int (Int32.ofNat 0), .int (Int32.ofNat A.slots.size), .null]) (rest := []) rfl rfl (by show 2 * 0 + 0 ≤ _; decide) (hb hbytes d6) (⟨rfl, hB.mv X0.warmed.alike hh0, f1.al X0.warmed.alike, f2.al X0.warmed.alike, hA.mv X0.warmed.alike hh0, s1.there X0.warmed.alike hh0, hz, l0, by omega, l2, fun i hi => by rw [Nat.zero_add]; exact hp i hi⟩)
  have e0 := Got.mv _ s₁ s _ _ hh0.symm (Vm.Alike.refl _) rfl E3
  obtain rfl := e0.1
  have c4 : Steps p.tables e below (s₁.setTop (entryFrame m #[.ref a, .ref b] 2)) (T3.setTop (mkF m 9 #[.val (.ref a), .val (.ref b)] [])) := g3
  exact ⟨T3, none, _, _, _, X3, by simp, rfl, by omega, (fun _ => rfl), e0, fun fs hl => c4.trans (X3.returnOut hexec hret (hb hbytes d9) hl)⟩
theorem pays {l : Launch} {R : Room} {p : Program} {e : Env} {below : List Frame} {s : State} {sargs : Array Value} {len W : Nat} (a : Addr) (D : Cell) (fV fC : Field) (b : Addr) (A : Cell) (z : Int32) (htab : tab.before sargs s = true) (hfr : 4 ≤ R.frames) (hlo : W + 65 ≤ R.locals) :
    Back l R p e below s sargs yN len W (fun A₁ a₁ => A₁.cells + 1 ≤ R.cells ∧ A₁.slots + A.slots.size ≤ R.slots ∧ P a D fV fC b A z a₁ A₁.U) (fun A₁ _ v₁ B₁ => E a D fV fC A v₁ A₁.U B₁.U ∧ B₁.locs = A₁.locs ++ [⟨a, fC.slot⟩, ⟨a, fV.slot⟩] ∧ B₁.cells = A₁.cells + 1 ∧ B₁.slots = A₁.slots + A.slots.size) :=
  (law l a D fV fC b A z).pays htab hfr (by omega)
end New1
end StrChars
namespace StrChars.Road
open Jvm Sem ClassFile Op Lib Jvm.Stand Jvm.Free Jvm.Free.XT
open Jvm.Lib.Cold (StaticIs)
abbrev ST : String := "java/lang/String"
/-- every table word that New1's law asks, flat -/
abbrev words : List Jvm.Cond := [.code New1.yN New1.yB 2 none, .initialized ST, .methodLink ST 27 New4.yN, .instanceMethod New4.yN,
  .code New4.yN New4.yB 6 none, .fieldLink ST 38 ST "COMPACT_STRINGS" "Z", .laysFinal ST ST "value" "[B", .fieldLink ST 9 ST "value" "[B", .laysFinal ST ST "coder" "B", .fieldLink ST 15 ST "coder" "B",
  .methodLink ST 1 Lib.objectInit, .instanceMethod Lib.objectInit, .code Lib.objectInit ⟨#[0xb1]⟩ 1 none, .methodLink ST 177 Cmp3.yN, .static Cmp3.yN, .methodLink ST 47 CodL.yN, .static CodL.yN,
  .code Cmp3.yN Cmp3.yB 6 (some (.array .byte)), .initialized U16, .arrayClass .byte, .methodLink U16 115 Cmp5.yN, .static Cmp5.yN, .code Cmp5.yN Cmp5.yB 7 (some .int), .code CodL.yN CodL.yB 2 (some .byte)]
theorem tab_of {a : Array Value} {s : State} (h : ∀ w ∈ words, w.before a s = true) : New1.tab.before a s = true := by
  have h5 : Cmp5.tab.before a s = true := unparts (wk h (.code Cmp5.yN Cmp5.yB 7 (some .int))) (wks h (.initialized Cmp5.yN.cls :: Cmp5.site))
  have hc : CodL.tab.before a s = true := unparts (wk h (.code CodL.yN CodL.yB 2 (some .byte))) (wks h (.initialized CodL.yN.cls :: CodL.site))
  have q5 : ∀ w ∈ Cmp5.tab :: words, w.before a s = true := fun w hw => (List.mem_cons.mp hw).elim (fun e => e ▸ h5) (h w)
  have h3 : Cmp3.tab.before a s = true := unparts (wk q5 (.code Cmp3.yN Cmp3.yB 6 (some (.array .byte)))) (wks q5 (.initialized Cmp3.yN.cls :: Cmp3.site))
  have q3 : ∀ w ∈ Cmp3.tab :: CodL.tab :: words, w.before a s = true := fun w hw => (List.mem_cons.mp hw).elim (fun e => e ▸ h3) fun hw => (List.mem_cons.mp hw).elim (fun e => e ▸ hc) (h w)
  have h4 : New4.tab.before a s = true := unparts (wk q3 (.code New4.yN New4.yB 6 none)) (wks q3 (.initialized New4.yN.cls :: New4.site))
  have q4 : ∀ w ∈ New4.tab :: words, w.before a s = true := fun w hw => (List.mem_cons.mp hw).elim (fun e => e ▸ h4) (h w)
  exact unparts (wk q4 (.code New1.yN New1.yB 2 none)) (wks q4 (.initialized New1.yN.cls :: New1.site))
/-- the words ride from the start Z to the walk's own state -/
theorem moved {Z s : State} {a0 args : Array Value} (hZ : Z.Warmed39 s.vm) (hw : ∀ d ∈ words, d.before a0 Z = true) : ∀ d ∈ words, d.before args s = true := fun d hd => by
  have q := hw d hd
  have t : ∀ d ∈ words, d = .arrayClass .byte ∨ (d.onTables && d.keepsFace) = true := by decide +kernel
  rcases t d hd with rfl | t
  · exact RoadKit.mvA hZ q
  · exact RoadKit.mv hZ q t
/-- WHAT COMES BACK, over the tables of the start Z: h the heap at the call, h' behind it -/
def Q (Z : State) (x : Addr) (A : Cell) (h : Heap) (v : Option Value) (h' : Heap) (L : List Loc) : Prop := v = none ∧ (∀ y ∈ L, y.base = x) ∧ RoadKit.Keep h h' [x] ∧ h'.size = h.size + 1 ∧ RoadKit.Exa Z h' x ST ∧ RoadKit.Fld Z h' x ST "value" "[B" (.ref h.size) ∧ RoadKit.Fld Z h' x ST "coder" "B" (.int 0) ∧
  (∃ V : Cell, RoadKit.Arr Z h' h.size V .byte ∧ V.vm = .none ∧ Z.vm.findClass "[B" = some V.cls ∧ V.slots.size = A.slots.size ∧ ∀ j, j < A.slots.size → V.slots[j]? = some (.int (lo8 (cv A j)))) ∧
  ∀ (O n d : String) (w : Value), RoadKit.Fld Z h x O n d w → RoadKit.slotOf Z O n d ≠ RoadKit.slotOf Z ST "value" "[B" → RoadKit.slotOf Z O n d ≠ RoadKit.slotOf Z ST "coder" "B" → RoadKit.Fld Z h' x O n d w
/-- **new String(chars) AT A CALL, IN THE ROAD'S FORM**: for specialBack behind newO: x the fresh String, b the char[] with the cell A -/
theorem back {p : Program} {l : Launch} {e : Env} {R : Room} {s : State} {args : Array Value} {below : List Frame} {len W : Nat} {Z : State} {a0 : Array Value} {h : Heap} (hZ : Z.Warmed39 s.vm) (hw : ∀ d ∈ words, d.before a0 Z = true) {kI : Nat} (wi : (Jvm.Cond.instantiable ST kI).before a0 Z = true)
    {x b : Addr} {A : Cell} {z : Int32} {v0 c0 : Value} (E : RoadKit.Exa Z h x ST) (V : RoadKit.Fld Z h x ST "value" "[B" v0) (C : RoadKit.Fld Z h x ST "coder" "B" c0) (K : RoadKit.Arr Z h b A .char) (hty : Typed .char A) (S : RoadKit.Sta Z h ST "COMPACT_STRINGS" "Z" (.int z)) (hz : ¬ z = 0)
    (l0 : 0 < A.slots.size) (l2 : A.slots.size ≤ 536870912) (hp : ∀ i, i < A.slots.size → ¬ 255 < cv A i) (hfr : 4 ≤ R.frames) (hlo : W + 65 ≤ R.locals) :
    Back l R p e below s args New1.yN len W (fun P a => a = #[.ref x, .ref b] ∧ P.U.heap = h ∧ P.cells + 1 ≤ R.cells ∧ P.slots + A.slots.size ≤ R.slots)
      (fun P _ v B => ∃ L, Q Z x A h v B.U.heap L ∧ B.locs = P.locs ++ L ∧ B.cells = P.cells + 1 ∧ B.slots = P.slots + A.slots.size) := by
  intro m meth c P g ig mk a X hg hsize hdg hW hn hp'
  obtain ⟨rfl, rfl, r1, r2⟩ := hp'
  have al : Z.vm.Alike P.U.vm := hZ.alike.trans X.warmed.alike
  obtain ⟨D, cfV, kV, iV, fV, hD, gV, stV, knV, obV, asV, slV⟩ := id V
  obtain ⟨D', cfC, kC, iC, fC, hD', gC, stC, -, -, asC, slC⟩ := id C
  cases hD.symm.trans hD'
  obtain ⟨D2, kD, e1, e2, e3, e4, e5⟩ := id E
  cases hD.symm.trans e1
  obtain ⟨c2, k2, i1, i2, i3, -⟩ := Cond.instantiable_spec wi
  cases e2.symm.trans i1
  cases e3.symm.trans i2
  obtain ⟨kU, u1, u2⟩ := al.2.2 _ _ e3
  have hB : Blank ST x D P.U := ⟨hD, ⟨knV, fun q hq => by rw [hq] at obV; cases obV⟩, by rw [al.findClass]; exact e2, kU, u1, by rw [u2]; exact i3, by rw [u2]; exact e5 i3⟩
  have F1 : Found ST "value" "[B" fV P.U := ⟨SBG.found_only al ⟨cfV, kV, iV, gV⟩, stV⟩
  have F2 : Found ST "coder" "B" fC P.U := ⟨SBG.found_only al ⟨cfC, kC, iC, gC⟩, stC⟩
  have hA : Ch b A P.U := ⟨⟨K.1, State.isArrayOf_alike al K.2.1, K.2.2, by omega⟩, hty⟩
  have hS : StaticIs P.U ST "COMPACT_STRINGS" "Z" (.int z) := by
    obtain ⟨cfS, iS, kS, fS, st, cS, t1, t2, t3, t4, t5, t6, t7⟩ := S
    exact StaticIs.there (s := { Z with heap := P.U.heap }) ⟨cfS, iS, kS, fS, st, cS, t1, t2, t3, t4, t5, (fun q => by rw [q] at t6; cases t6), t7⟩ al rfl
  obtain ⟨v, B, X', ⟨⟨hv, E', V', q1, q2, q3, q4, q5, q6, q7, q8, q9, q10, q11⟩, hl, hc, hs⟩, st⟩ := New1.pays x D fV fC b A z (tab_of (moved hZ hw)) hfr hlo m meth c P g ig mk _ X hg hsize hdg hW hn ⟨r1, r2, rfl, hB, F1, F2, hA, hS, hz, l0, l2, hp⟩
  have al' : Z.vm.Alike B.U.vm := hZ.alike.trans X'.warmed.alike
  have hsz : E'.slots.size = D.slots.size := by
    obtain ⟨-, -, -, kB, w1, w2, w3⟩ := q1
    obtain ⟨kB', y1, y2⟩ := al'.2.2 _ _ e3
    rw [q2.2.1] at w1
    cases w1.symm.trans y1
    rw [w3, e5 i3, y2]
  refine ⟨v, B, X', ⟨_, ⟨hv, ?_, ⟨by omega, fun y cy hy hn' => q10 y cy (by simpa using hn') hy, fun y cy hy => ?_⟩, q11, ⟨E', _, q1.1, by rw [q2.2.1]; exact e2, by rw [q2.2.1]; exact e3, by rw [q2.1]; exact obV, fun _ => by rw [hsz]; exact e5 i3⟩,
    ⟨E', cfV, kV, iV, fV, q1.1, gV, stV, by rw [q2.1]; exact knV, by rw [q2.1]; exact obV, by rw [q2.2.1]; exact asV, q3⟩, ⟨E', cfC, kC, iC, fC, q1.1, gC, stC, by rw [q2.1]; exact knV, by rw [q2.1]; exact obV, by rw [q2.2.1]; exact asC, q4⟩,
    ⟨V', ⟨q5.1, State.isArrayOf_alike al'.symm q5.2.1, q5.2.2.1⟩, q6, by rw [← al'.findClass]; exact q7, q8, fun j hj => by have := q9 j hj; rwa [Nat.zero_add] at this⟩, fun O n d w F n1 n2 => ?_⟩, hl, hc, hs⟩, st⟩
  · intro y hy
    simp only [List.mem_cons, List.not_mem_nil, or_false] at hy
    rcases hy with rfl | rfl <;> rfl
  · by_cases q : y = x
    · subst q
      cases hD.symm.trans hy
      exact ⟨E', q1.1, q2.2.1, q2.1, hsz⟩
    · exact ⟨cy, q10 y cy q hy, rfl, rfl, rfl⟩
  · obtain ⟨D3, cf, k, i, f, g1, g2, g3, g4, g5, g6, g7⟩ := F
    cases hD.symm.trans g1
    simp only [RoadKit.slotOf, g2, gV, gC, Option.map_some, Option.getD_some] at n1 n2
    exact ⟨E', cf, k, i, f, q1.1, g2, g3, by rw [q2.1]; exact g4, by rw [q2.1]; exact g5, by rw [q2.2.1]; exact g6, by rw [q2.2.2 f.slot (by simp [n1, n2])]; exact g7⟩
end StrChars.Road
namespace StrChars.Road
open Jvm Sem ClassFile Op Lib Jvm.Stand Jvm.Free Jvm.Free.XT
/-- WHAT COMES BACK, the byte[] as a list of values -/
def QA (Z : State) (x : Addr) (zn : Int32) (cs : List Int32) (h : Heap) (v : Option Value) (h' : Heap) (L : List Loc) : Prop := v = none ∧ (∀ y ∈ L, y.base = x) ∧ RoadKit.Keep h h' [x] ∧ h'.size = h.size + 1 ∧ RoadKit.Exa Z h' x ST ∧ RoadKit.Fld Z h' x ST "value" "[B" (.ref h.size) ∧ RoadKit.Fld Z h' x ST "coder" "B" (.int 0) ∧
  (∃ kb, Z.vm.findClass "[B" = some kb ∧ RoadKit.Arv Z h' h.size kb .byte zn (cs.map fun c => .int (lo8 c)) (.int 0)) ∧
  ∀ (O n d : String) (w : Value), RoadKit.Fld Z h x O n d w → RoadKit.slotOf Z O n d ≠ RoadKit.slotOf Z ST "value" "[B" → RoadKit.slotOf Z O n d ≠ RoadKit.slotOf Z ST "coder" "B" → RoadKit.Fld Z h' x O n d w
/-- **new String(chars) AT A CALL, THE ARRAYS AS LISTS**: the char[] at b holds cs, not empty, no char above 255 -/
theorem backArv {p : Program} {l : Launch} {e : Env} {R : Room} {s : State} {args : Array Value} {below : List Frame} {len W : Nat} {Z : State} {a0 : Array Value} {h : Heap} (hZ : Z.Warmed39 s.vm) (hw : ∀ d ∈ words, d.before a0 Z = true) {kI : Nat} (wi : (Jvm.Cond.instantiable ST kI).before a0 Z = true)
    {x b : Addr} {k : ClassId} {zn z : Int32} {cs : List Int32} {dv v0 c0 : Value} (E : RoadKit.Exa Z h x ST) (V : RoadKit.Fld Z h x ST "value" "[B" v0) (C : RoadKit.Fld Z h x ST "coder" "B" c0) (K : RoadKit.Arv Z h b k .char zn (cs.map Value.int) dv) (S : RoadKit.Sta Z h ST "COMPACT_STRINGS" "Z" (.int z)) (hz : ¬ z = 0)
    (hlen : zn.toNatClampNeg = cs.length) (h0 : 0 < cs.length) (hbig : cs.length ≤ 536870912) (hall : ∀ c ∈ cs, ¬ 255 < c) (hfr : 4 ≤ R.frames) (hlo : W + 65 ≤ R.locals) :
    Back l R p e below s args New1.yN len W (fun P a => a = #[.ref x, .ref b] ∧ P.U.heap = h ∧ P.cells + 1 ≤ R.cells ∧ P.slots + cs.length ≤ R.slots)
      (fun P _ v B => ∃ L, QA Z x zn cs h v B.U.heap L ∧ B.locs = P.locs ++ L ∧ B.cells = P.cells + 1 ∧ B.slots = P.slots + cs.length) := by
  obtain ⟨A, K1, K2, K3, K4, K5, K6⟩ := K
  have e : A.slots.size = cs.length := K3.trans hlen
  have hat : ∀ (i : Nat) (hi : i < cs.length), A.slots[i]? = some (.int cs[i]) := fun i hi => by rw [K5 i (by omega)]; simp [List.getD_eq_getElem?_getD, hi]
  have hcv : ∀ (i : Nat) (hi : i < cs.length), cv A i = cs[i] := fun i hi => by unfold cv; rw [hat i hi]
  have hty : Typed .char A := fun i v hv => by
    have hi : i < A.slots.size := (Array.getElem?_eq_some_iff.mp hv).1
    have q := K5 i hi
    rw [hv] at q
    rw [Option.some.inj q]
    exact K6 i hi
  refine Back.mono (back hZ hw wi E V C K1 hty S hz (by omega) (by omega) (fun i hi => by rw [hcv i (by omega)]; exact hall _ (List.getElem_mem _)) hfr hlo) (fun P a hp => ⟨hp.1, hp.2.1, hp.2.2.1, by rw [e]; exact hp.2.2.2⟩) (fun P a v B hp hq => ?_)
  obtain ⟨L, ⟨q1, q2, q3, q4, q5, q6, q7, ⟨V', v1, v2, v3, v4, v5⟩, q9⟩, hl, hc, hs⟩ := hq
  refine ⟨L, ⟨q1, q2, q3, q4, q5, q6, q7, ⟨V'.cls, v3, V', v1, rfl, by rw [v4, e, hlen], K4, fun i hi => ?_, fun i hi => ?_⟩, q9⟩, hl, hc, by rw [hs, e]⟩
  · have hi' : i < cs.length := by omega
    rw [v5 i (by omega), hcv i hi']; simp [List.getD_eq_getElem?_getD, hi']
  · have hi' : i < cs.length := by omega
    simp only [List.getD_eq_getElem?_getD, List.getElem?_map, List.getElem?_eq_getElem hi', Option.map_some, Option.getD_some]
    exact fits_lo8 _
end StrChars.Road
namespace StrChars.Road
open Jvm Sem ClassFile Op Lib Jvm.Stand Jvm.Free Jvm.Free.XT
/-- WHAT COMES BACK, in the writer's own shape -/
def QV (Z : State) (x : Addr) (N : Int32) (bs : List Int32) (h : Heap) (n0 : Nat) (v : Option Value) (h' : Heap) (L : List Loc) : Prop := v = none ∧ RoadKit.Fr n0 L ∧ RoadKit.Keep h h' [x] ∧ RoadKit.Exa Z h' x ST ∧ RoadKit.Fld Z h' x ST "coder" "B" (.int 0) ∧
  ∃ (t : Addr) (kb : ClassId), n0 ≤ t ∧ h.size ≤ t ∧ ¬ t = x ∧ RoadKit.Fld Z h' x ST "value" "[B" (.ref t) ∧ RoadKit.Arv Z h' t kb .byte N (bs.map Value.int) (.int 0)
/-- **new String(chars) AT A CALL, FOR THE WRITER**: a char[] of n known ints, each 0 to 255 -/
theorem backV {p : Program} {l : Launch} {e : Env} {R : Room} {s : State} {args : Array Value} {below : List Frame} {len W : Nat} {Z : State} {a0 : Array Value} {h : Heap} (hZ : Z.Warmed39 s.vm) (hw : ∀ d ∈ words, d.before a0 Z = true) {kI : Nat} (wi : (Jvm.Cond.instantiable ST kI).before a0 Z = true)
    {x b : Addr} {kC : ClassId} {cs bs : List Int32} {d v0 c0 : Value} {z N : Int32} {n n0 : Nat} (hx0 : n0 ≤ x) (hh0 : n0 ≤ h.size) (E : RoadKit.Exa Z h x ST) (V : RoadKit.Fld Z h x ST "value" "[B" v0) (C : RoadKit.Fld Z h x ST "coder" "B" c0) (K : RoadKit.Arv Z h b kC .char N (cs.map Value.int) d) (S : RoadKit.Sta Z h ST "COMPACT_STRINGS" "Z" (.int z)) (hz : ¬ z = 0)
    (hn : cs.length = n) (hN : N = Int32.ofNat n) (l0 : 0 < n) (l2 : n ≤ 4000) (hp : ∀ c ∈ cs, ¬ c < 0 ∧ ¬ (255 : Int32) < c) (hb : bs = cs.map (fun c => c.toInt8.toInt32)) (hfr : 4 ≤ R.frames) (hlo : W + 65 ≤ R.locals) :
    Back l R p e below s args (⟨"java/lang/String", "<init>", "([C)V"⟩ : MethodName) len W (fun P a => a = #[.ref x, .ref b] ∧ P.U.heap = h ∧ P.cells + 1 ≤ R.cells ∧ P.slots + n ≤ R.slots)
      (fun P _ v B => ∃ L, QV Z x N bs h n0 v B.U.heap L ∧ B.locs = P.locs ++ L ∧ B.cells = P.cells + 1 ∧ B.slots = P.slots + n) := by
  subst hn hN hb
  refine Back.mono (backArv hZ hw wi E V C K S hz (n32 (by omega)) l0 (by omega) (fun c hc => (hp c hc).2) hfr hlo) (fun P a hp => hp) (fun P a v B hp hq => ?_)
  obtain ⟨L, ⟨q1, q2, q3, q4, q5, q6, q7, ⟨kb, v1, v2⟩, q9⟩, hl, hc, hs⟩ := hq
  exact ⟨L, ⟨q1, fun y hy => by rw [q2 y hy]; exact hx0, q3, q5, q7, h.size, kb, hh0, Nat.le_refl _, Nat.ne_of_gt E.lt, q6, by rw [List.map_map]; exact v2⟩, hl, hc, hs⟩
end StrChars.Road
end Jvm.Pilot.@@N@@
namespace Jvm.Pilot.@@N@@
open Jvm Jvm.ClassFile Sem Op Lib Jvm.Free Jvm.Stand Jvm.LawKit Jvm.RoadKit Bundle Jvm.Pilot.@@N@@.Jvm.D
section Own
variable {p : Program} {l : Launch} {e : Env} {R : Room} {s : State} {m : MethodId} {args : Array Value} {below : List Frame} {meth : Method} {c : Code} {T : State} {locs : List Loc} {cells slots : Nat} {Z : State} {h h' h2 : Heap}
theorem own_cR (a : Addr) : (Value.ref a).category = 1 := rfl
theorem own_cI (x : Int32) : (Value.int x).category = 1 := rfl
theorem own_cN : Value.null.category = 1 := rfl
theorem own_cJ (x : Int64) : (Value.long x).category = 2 := rfl
/-- from U the walk comes to its end, where P holds -/
def Ends (tb : Tables) (e : Env) (below : List Frame) (P : Outcome → State → Prop) (U : State) : Prop := ∃ s₂ o, Steps tb e below U s₂ ∧ s₂.status = .running ∧ Ended s₂ below o ∧ P o s₂
theorem Ends.step {tb : Tables} {P : Outcome → State → Prop} {U U' : State} (k : ∀ t, Steps tb e below U' t → Steps tb e below U t) (h : Ends tb e below P U') : Ends tb e below P U := by
  obtain ⟨t, o, a, r⟩ := h; exact ⟨t, o, k t a, r⟩
theorem Ends.go {tb : Tables} {P : Outcome → State → Prop} {U U' : State} (k : Steps tb e below U U') (h : Ends tb e below P U') : Ends tb e below P U := Ends.step (fun _ q => k.trans q) h
theorem own_mono (X : Stand p l e R s m args below meth c T locs cells slots) {cells' slots' : Nat} (h1 : cells ≤ cells') (h2 : slots ≤ slots') : Stand p l e R s m args below meth c T locs cells' slots' := { X with same := X.same.mono h1 h2 }
theorem own_end {Q : Option Value → Heap → List Loc → Prop} {K N : Nat} {v : Option Value} {g : JFrame} (X : Stand p l e R s m args below meth c T locs cells slots) (hlk : meth.locks = false) (hv : meth.sig.returnType = none → v = none)
    (st : ∀ fs : List Frame, (∀ (f : JFrame) (acts : List Action), f.method = m → f.locked = none → f.entered = [] → (doReturn e (T.setTop f) acts v).1 = T.setFrames fs) → Steps p.tables e below (T.setTop g) (T.setFrames fs))
    (eT : T.heap = h) (hQ : Q v h locs) (hk : cells ≤ K) (hn : slots ≤ N) : Ends p.tables e below (fun o U => ∃ v L, o = .returned v ∧ Q v U.heap L ∧ FrameEnd s o U L K N) (T.setTop g) := by
  obtain ⟨fs, hr, hrun, hended, hW, hsame⟩ := X.leave (v := v) hv hlk
  refine ⟨_, _, st fs hr, hrun, hended, v, locs, rfl, ?_, ⟨_, rfl⟩, hW, hsame.mono hk hn⟩
  show Q v T.heap locs
  rw [eT]; exact hQ
theorem own_finV {Q : Option Value → Heap → List Loc → Prop} {K N : Nat} (X : Stand p l e R s m args below meth c T locs cells slots) (hx : p.tables.exec = Jvm.exec) (hlk : meth.locks = false) (hret : meth.sig.returnType = none) {pc : Nat} {Ls : Array Slot} (hd : decode c.code pc = .ok (.return_, 1)) (eT : T.heap = h) (hQ : Q none h locs) (hk : cells ≤ K) (hn : slots ≤ N) :
    Ends p.tables e below (fun o U => ∃ v L, o = .returned v ∧ Q v U.heap L ∧ FrameEnd s o U L K N) (T.setTop (mkF m pc Ls [])) := own_end X hlk (fun _ => rfl) (fun _ hr => X.returnOut hx hret hd hr) eT hQ hk hn
theorem own_finR {Q : Option Value → Heap → List Loc → Prop} {K N : Nat} (X : Stand p l e R s m args below meth c T locs cells slots) (hx : p.tables.exec = Jvm.exec) (hlk : meth.locks = false) {t : FieldType} (hret : meth.sig.returnType = some t) (ht : t.isReference = true) {w : Value} (hw : w.isRef = true) {pc : Nat} {Ls : Array Slot} {rest : List Value} (hd : decode c.code pc = .ok (.areturn, 1)) (eT : T.heap = h) (hQ : Q (some w) h locs) (hk : cells ≤ K) (hn : slots ≤ N) :
    Ends p.tables e below (fun o U => ∃ v L, o = .returned v ∧ Q v U.heap L ∧ FrameEnd s o U L K N) (T.setTop (mkF m pc Ls (w :: rest))) :=
  own_end X hlk (fun q => by rw [hret] at q; cases q) (fun _ hr => retOut X hx hret (by rcases ref_cases hw with rfl | ⟨a, rfl⟩ <;> cases t <;> first | rfl | (exact absurd ht (by decide))) (Or.inr (Or.inr (Or.inr (Or.inr ⟨rfl, ht, hw⟩)))) hd hr) eT hQ hk hn
theorem own_finJ {Q : Option Value → Heap → List Loc → Prop} {K N : Nat} (X : Stand p l e R s m args below meth c T locs cells slots) (hx : p.tables.exec = Jvm.exec) (hlk : meth.locks = false) (hret : meth.sig.returnType = some .long) {w : Int64} {pc : Nat} {Ls : Array Slot} {rest : List Value} (hd : decode c.code pc = .ok (.lreturn, 1)) (eT : T.heap = h) (hQ : Q (some (.long w)) h locs) (hk : cells ≤ K) (hn : slots ≤ N) :
    Ends p.tables e below (fun o U => ∃ v L, o = .returned v ∧ Q v U.heap L ∧ FrameEnd s o U L K N) (T.setTop (mkF m pc Ls (.long w :: rest))) :=
  own_end X hlk (fun q => by rw [hret] at q; cases q) (fun _ hr => retOut X hx hret rfl (Or.inr (Or.inl ⟨rfl, rfl, w, rfl⟩)) hd hr) eT hQ hk hn
theorem own_finI {Q : Option Value → Heap → List Loc → Prop} {K N : Nat} (X : Stand p l e R s m args below meth c T locs cells slots) (hx : p.tables.exec = Jvm.exec) (hlk : meth.locks = false) {t : FieldType} (hret : meth.sig.returnType = some t) (ht : t = .int ∨ t = .boolean ∨ t = .byte ∨ t = .char ∨ t = .short) {w : Int32} (hnr : narrow t (.int w) = .int w) {pc : Nat} {Ls : Array Slot} {rest : List Value} (hd : decode c.code pc = .ok (.ireturn, 1)) (eT : T.heap = h) (hQ : Q (some (.int w)) h locs) (hk : cells ≤ K) (hn : slots ≤ N) :
    Ends p.tables e below (fun o U => ∃ v L, o = .returned v ∧ Q v U.heap L ∧ FrameEnd s o U L K N) (T.setTop (mkF m pc Ls (.int w :: rest))) :=
  own_end X hlk (fun q => by rw [hret] at q; cases q) (fun _ hr => retOut X hx hret hnr (Or.inl ⟨rfl, ht, w, rfl⟩) hd hr) eT hQ hk hn
theorem own_narrow_ref {v : Value} {t : FieldType} (h : v.isRef = true) (ht : t.isReference = true) : narrow t v = v := by
  rcases ref_cases h with rfl | ⟨a, rfl⟩ <;> cases t <;> first | rfl | (exact absurd ht (by decide))
theorem own_fits_ref {v : Value} {t : FieldType} (h : v.isRef = true) (ht : t.isReference = true) : fits t v = true := by
  rcases ref_cases h with rfl | ⟨a, rfl⟩ <;> cases t <;> first | rfl | (exact absurd ht (by decide))
theorem own_narZ {z : Int32} (h : z = (0 : Int32) ∨ z = (1 : Int32)) : narrow .boolean (.int z) = .int z := by rcases h with rfl | rfl <;> rfl
theorem own_and255 (x : Int32) : ¬ nar .char ((x &&& (255 : Int32)).toUInt32.toUInt16.toUInt32.toInt32) < 0 ∧ ¬ (255 : Int32) < nar .char ((x &&& (255 : Int32)).toUInt32.toUInt16.toUInt32.toInt32) := by
  have t : ∀ k : Fin 256, ¬ nar .char ((Int32.ofNat k.val).toUInt32.toUInt16.toUInt32.toInt32) < 0 ∧ ¬ (255 : Int32) < nar .char ((Int32.ofNat k.val).toUInt32.toUInt16.toUInt32.toInt32) := by decide +kernel
  have h : (x &&& 255).toBitVec.toNat < 256 := by
    simp only [Int32.toBitVec_and, BitVec.toNat_and]
    exact Nat.lt_succ_of_le Nat.and_le_right
  have e : (x &&& 255) = Int32.ofNat (x &&& 255).toBitVec.toNat := by
    apply Int32.toBitVec_inj.mp
    show _ = BitVec.ofNat 32 _
    rw [BitVec.ofNat_toNat]; simp
  rw [e]
  exact t ⟨_, h⟩
theorem own_c255 (x : Int32) : ¬ ((x &&& (255 : Int32)).toUInt32.toUInt16.toUInt32.toInt32) < 0 ∧ ¬ (255 : Int32) < ((x &&& (255 : Int32)).toUInt32.toUInt16.toUInt32.toInt32) := by
  have t : ∀ k : Fin 256, ¬ ((Int32.ofNat k.val).toUInt32.toUInt16.toUInt32.toInt32) < 0 ∧ ¬ (255 : Int32) < ((Int32.ofNat k.val).toUInt32.toUInt16.toUInt32.toInt32) := by decide +kernel
  have h : (x &&& 255).toBitVec.toNat < 256 := by
    simp only [Int32.toBitVec_and, BitVec.toNat_and]
    exact Nat.lt_succ_of_le Nat.and_le_right
  have e : (x &&& 255) = Int32.ofNat (x &&& 255).toBitVec.toNat := by
    apply Int32.toBitVec_inj.mp
    show _ = BitVec.ofNat 32 _
    rw [BitVec.ofNat_toNat]; simp
  rw [e]
  exact t ⟨_, h⟩
theorem own_up (cs : List Int32) (h : ∀ c ∈ cs, ¬ c < 0 ∧ ¬ (255 : Int32) < c) : ∀ c ∈ cs, ¬ c < 0 ∧ ¬ (65535 : Int32) < c := fun c hc => ⟨(h c hc).1, fun q => (h c hc).2 (by rw [Int32.lt_iff_toInt_lt] at q ⊢; have e1 : (65535 : Int32).toInt = 65535 := rfl; have e2 : (255 : Int32).toInt = 255 := rfl; omega)⟩
/-- a reference of class C, or null -/
def Nul (Z : State) (h : Heap) (v : Value) (C : String) : Prop := v = .null ∨ ∃ a, v = .ref a ∧ Exa Z h a C
theorem Nul.keep {v : Value} {C : String} {ws : List Addr} (F : Nul Z h v C) (K : Keep h h' ws) : Nul Z h' v C := F.imp id fun ⟨a, e, E⟩ => ⟨a, e, E.keep K⟩
theorem Nul.ext {v : Value} {C : String} (F : Nul Z h v C) (E : Ext h h') : Nul Z h' v C := F.imp id fun ⟨a, e, A⟩ => ⟨a, e, A.ext E⟩
theorem Nul.wr {v w : Value} {C : String} {a : Addr} {sl : Nat} (F : Nul Z h v C) (W : Wr h h' a sl w) : Nul Z h' v C := F.imp id fun ⟨a, e, A⟩ => ⟨a, e, A.wr W⟩
theorem Nul.ref {v : Value} {C : String} (F : Nul Z h v C) : v.isRef = true := by rcases F with rfl | ⟨a, rfl, -⟩ <;> rfl
theorem own_castN {a0 : Array Value} (X : Stand p l e R s m args below meth c T locs cells slots) (hx : p.tables.exec = Jvm.exec) (hZ : Z.Warmed39 s.vm) {own K : String} {index : Nat} (hown : s.vm.findClass own = some m.cls) (w : (Jvm.Cond.classLink own index K).before a0 Z = true) (eT : T.heap = h) {v : Value} (F : Nul Z h v K)
    {g : JFrame} (hg : g.method = m) {rest : List Value} (hs : g.stack = v :: rest) (hd : decode c.code g.pc = .ok (.checkcast index, 3)) : ∃ T', Stand p l e R s m args below meth c T' locs cells slots ∧ T'.heap = h ∧ ∀ target, Steps p.tables e below (T'.setTop { g with pc := g.pc + 3 }) target → Steps p.tables e below (T.setTop g) target := by
  rcases F with rfl | ⟨a, rfl, E⟩
  · exact ⟨T, X, eT, X.checkcastNull hx hg hs hd⟩
  · exact castY X hx hZ hown w eT (Ins.self E) hg hs hd
theorem own_alen (X : Stand p l e R s m args below meth c T locs cells slots) (hx : p.tables.exec = Jvm.exec) (hZ : Z.Warmed39 s.vm) (eT : T.heap = h) {a : Addr} {cl : Cell} {ty : FieldType} (A : Arr Z h a cl ty) {z : Int32} (hz : cl.slots.size.toInt32 = z) {g : JFrame} (hg : g.method = m) {rest : List Value} (hs : g.stack = .ref a :: rest) (hd : decode c.code g.pc = .ok (.arraylength, 1))
    {target : State} (k : Steps p.tables e below (T.setTop { g with pc := g.pc + 1, stack := .int z :: rest }) target) : Steps p.tables e below (T.setTop g) target := by
  subst hz
  exact X.arraylength hx (by rw [eT]; exact A.1) (State.isArrayOf_alike hZ.alike A.2.1) hg hs hd _ k
end Own
section OwnW
variable {p : Program} {l : Launch} {e : Env} {R : Room} {s : State} {m : MethodId} {args : Array Value} {below : List Frame} {meth : Method} {c : Code} {T : State} {locs : List Loc} {cells slots : Nat} {Z : State} {h h0 h1 h2 : Heap} {EL : List (String × Nat)} {vm vm0 vm1 : Vm} {a0 : Array Value}
theorem own_chrE (R : CHr Z EL vm h vm1 h1) (E : Ext h1 h2) : CHr Z EL vm h vm1 h2 := R.trans (CHr.ext E R.1)
theorem own_chrK (R : CHr Z EL vm h vm1 h1) (K : Keep h1 h2 []) : CHr Z EL vm h vm1 h2 := R.trans (CHr.keep K sf0 R.1)
theorem own_chrS {ws : List Addr} (R : CHr Z EL vm h vm1 h1) (K : Keep h1 h2 ws) (hs : ∀ x ∈ ws, Safe Z EL vm1 h1 x) : CHr Z EL vm h vm1 h2 := R.trans (CHr.keep K hs R.1)
theorem own_chrW {a : Addr} {sl : Nat} {v : Value} (R : CHr Z EL vm h vm1 h1) (W : Wr h1 h2 a sl v) (S : Safe Z EL vm1 h1 a) : CHr Z EL vm h vm1 h2 := R.trans (CHr.wr W S R.1)
/-- a String that is still being made is no literal's -/
theorem own_safeBlank {x : Addr} (hal : Z.vm.Alike vm) (E : Exa Z h x "java/lang/String") (F : Fld Z h x "java/lang/String" "value" "[B" .null) : Safe Z EL vm h x := fun B => by
  obtain ⟨cell, k, e1, e2, e3, -, -⟩ := E
  obtain ⟨cell', cf, k', i, f, f1, f2, -, -, -, -, f7⟩ := F
  cases e1.symm.trans f1
  obtain ⟨p, -, u, a, -, q, -, F, rfl | rfl⟩ := B
  · cases (show h[q.sa]? = some q.sC from F.ha).symm.trans e1
    obtain ⟨cS, ⟨⟨-, -, -, ⟨cv, kv, iv, s4, -⟩, -, -, -, s8, -⟩, -, -⟩, -⟩ := F
    obtain ⟨kv', z4⟩ := ff_back (U := Wst Z vm h) hal s4
    cases f2.symm.trans z4
    rw [s8] at f7
    cases f7
  · cases (show h[q.sd]? = some q.SA from F.hd).symm.trans e1
    obtain ⟨cS, -, -, f, -⟩ := F
    have f' : vm.findClass "[B" = some q.SA.cls := f
    rw [hal.findClass] at f'
    obtain ⟨k1, q1, q2⟩ := Vm.findClass_spec f'
    obtain ⟨k2, q3, q4⟩ := Vm.findClass_spec e2
    cases q1.symm.trans q3
    exact absurd (q2.symm.trans q4) (by decide)
theorem own_endW {Q : Option Value → Heap → List Loc → Prop} {K N k0 : Nat} {v : Option Value} {g : JFrame} (X : Stand p l e R (s.setVm vm0) m args below meth c T locs cells slots) (hS : s.Since vm0 k0) (hlk : meth.locks = false) (hh : s.heap = h0) (hEL : EW Z a0 EL) (hk0 : k0 ≤ h.size) (CR : CHr Z EL s.vm h0 vm0 h) (hZ : Z.Warmed39 vm0) (hv : meth.sig.returnType = none → v = none)
    (st : ∀ fs : List Frame, (∀ (f : JFrame) (acts : List Action), f.method = m → f.locked = none → f.entered = [] → (doReturn e (T.setTop f) acts v).1 = T.setFrames fs) → Steps p.tables e below (T.setTop g) (T.setFrames fs))
    (eT : T.heap = h) (hQ : Q v h locs) (hk : cells ≤ K) (hn : slots ≤ N) : Ends p.tables e below (fun o U => ∃ v L, o = .returned v ∧ Q v U.heap L ∧ CHr Z EL s.vm s.heap U.vm U.heap ∧ ReturnedEndW s o U L K N) (T.setTop g) := by
  subst eT hh
  obtain ⟨fs, hr, hrun, hended, h1, h2, h3, h4⟩ := X.leaveW hS hk0 (v := v) hv hlk
  exact ⟨_, _, st fs hr, hrun, hended, v, locs, rfl, hQ, (show CHr Z EL s.vm s.heap T.vm T.heap from CR.trans (CHv.at X hZ hEL CR.1)), h1, h2, h3, h4.mono hk hn⟩
theorem own_finVW {Q : Option Value → Heap → List Loc → Prop} {K N k0 : Nat} (X : Stand p l e R (s.setVm vm0) m args below meth c T locs cells slots) (hS : s.Since vm0 k0) (hx : p.tables.exec = Jvm.exec) (hlk : meth.locks = false) (hh : s.heap = h0) (hEL : EW Z a0 EL) (hk0 : k0 ≤ h.size) (CR : CHr Z EL s.vm h0 vm0 h) (hZ : Z.Warmed39 vm0) (hret : meth.sig.returnType = none) {pc : Nat} {Ls : Array Slot} (hd : decode c.code pc = .ok (.return_, 1)) (eT : T.heap = h) (hQ : Q none h locs) (hk : cells ≤ K) (hn : slots ≤ N) :
    Ends p.tables e below (fun o U => ∃ v L, o = .returned v ∧ Q v U.heap L ∧ CHr Z EL s.vm s.heap U.vm U.heap ∧ ReturnedEndW s o U L K N) (T.setTop (mkF m pc Ls [])) := own_endW X hS hlk hh hEL hk0 CR hZ (fun _ => rfl) (fun _ hr => X.returnOut hx hret hd hr) eT hQ hk hn
theorem own_finRW {Q : Option Value → Heap → List Loc → Prop} {K N k0 : Nat} (X : Stand p l e R (s.setVm vm0) m args below meth c T locs cells slots) (hS : s.Since vm0 k0) (hx : p.tables.exec = Jvm.exec) (hlk : meth.locks = false) (hh : s.heap = h0) (hEL : EW Z a0 EL) (hk0 : k0 ≤ h.size) (CR : CHr Z EL s.vm h0 vm0 h) (hZ : Z.Warmed39 vm0) {t : FieldType} (hret : meth.sig.returnType = some t) (ht : t.isReference = true) {w : Value} (hw : w.isRef = true) {pc : Nat} {Ls : Array Slot} {rest : List Value} (hd : decode c.code pc = .ok (.areturn, 1)) (eT : T.heap = h) (hQ : Q (some w) h locs) (hk : cells ≤ K) (hn : slots ≤ N) :
    Ends p.tables e below (fun o U => ∃ v L, o = .returned v ∧ Q v U.heap L ∧ CHr Z EL s.vm s.heap U.vm U.heap ∧ ReturnedEndW s o U L K N) (T.setTop (mkF m pc Ls (w :: rest))) :=
  own_endW X hS hlk hh hEL hk0 CR hZ (fun q => by rw [hret] at q; cases q) (fun _ hr => retOut X hx hret (own_narrow_ref hw ht) (Or.inr (Or.inr (Or.inr (Or.inr ⟨rfl, ht, hw⟩)))) hd hr) eT hQ hk hn
theorem own_finIW {Q : Option Value → Heap → List Loc → Prop} {K N k0 : Nat} (X : Stand p l e R (s.setVm vm0) m args below meth c T locs cells slots) (hS : s.Since vm0 k0) (hx : p.tables.exec = Jvm.exec) (hlk : meth.locks = false) (hh : s.heap = h0) (hEL : EW Z a0 EL) (hk0 : k0 ≤ h.size) (CR : CHr Z EL s.vm h0 vm0 h) (hZ : Z.Warmed39 vm0) {t : FieldType} (hret : meth.sig.returnType = some t) (ht : t = .int ∨ t = .boolean ∨ t = .byte ∨ t = .char ∨ t = .short) {w : Int32} (hnr : narrow t (.int w) = .int w) {pc : Nat} {Ls : Array Slot} {rest : List Value} (hd : decode c.code pc = .ok (.ireturn, 1)) (eT : T.heap = h) (hQ : Q (some (.int w)) h locs) (hk : cells ≤ K) (hn : slots ≤ N) :
    Ends p.tables e below (fun o U => ∃ v L, o = .returned v ∧ Q v U.heap L ∧ CHr Z EL s.vm s.heap U.vm U.heap ∧ ReturnedEndW s o U L K N) (T.setTop (mkF m pc Ls (.int w :: rest))) :=
  own_endW X hS hlk hh hEL hk0 CR hZ (fun q => by rw [hret] at q; cases q) (fun _ hr => retOut X hx hret hnr (Or.inl ⟨rfl, ht, w, rfl⟩) hd hr) eT hQ hk hn
end OwnW
theorem own_hws {Z : State} {a0 : Array Value} (hw : ∀ d ∈ tables_1, d.before a0 Z = true) : ∀ d ∈ StrChars.Road.words, d.before a0 Z = true := fun d hd => hw d ((by decide +kernel : ∀ d ∈ StrChars.Road.words, d ∈ tables_1) d hd)
theorem own_hEL {Z : State} {a0 : Array Value} (hw : ∀ d ∈ tables_1, d.before a0 Z = true) : EW Z a0 consts_1 := (EW.cons (hw _ (List.mem_of_getElem? (i := 74) rfl)) (by decide +kernel) EW.nil)
theorem own_wS {Z : State} {a0 : Array Value} (hw : ∀ d ∈ tables_1, d.before a0 Z = true) : ∀ d ∈ Bundle.stringAtoms, d.before a0 Z = true := fun d hd => hw d ((by decide +kernel : ∀ d ∈ Bundle.stringAtoms, d ∈ tables_1) d hd)
theorem d_jdk_42_method_149_code_0 : decode jdk_42_method_149_code 0 = .ok (.aload_n 0, 1) := by decide +kernel
theorem d_jdk_42_method_149_code_1 : decode jdk_42_method_149_code 1 = .ok (.invokespecial 1, 3) := by decide +kernel
theorem d_jdk_42_method_149_code_4 : decode jdk_42_method_149_code 4 = .ok (.iload_n 3, 1) := by decide +kernel
theorem d_jdk_42_method_149_code_5 : decode jdk_42_method_149_code 5 = .ok (.ifCond .ne 22, 3) := by decide +kernel
theorem d_jdk_42_method_149_code_8 : decode jdk_42_method_149_code 8 = .ok (.aload_n 0, 1) := by decide +kernel
theorem d_jdk_42_method_149_code_9 : decode jdk_42_method_149_code 9 = .ok (.ldc 7, 2) := by decide +kernel
theorem d_jdk_42_method_149_code_11 : decode jdk_42_method_149_code 11 = .ok (.getfield 9, 3) := by decide +kernel
theorem d_jdk_42_method_149_code_14 : decode jdk_42_method_149_code 14 = .ok (.putfield 9, 3) := by decide +kernel
theorem d_jdk_42_method_149_code_17 : decode jdk_42_method_149_code 17 = .ok (.aload_n 0, 1) := by decide +kernel
theorem d_jdk_42_method_149_code_18 : decode jdk_42_method_149_code 18 = .ok (.ldc 7, 2) := by decide +kernel
theorem d_jdk_42_method_149_code_20 : decode jdk_42_method_149_code 20 = .ok (.getfield 15, 3) := by decide +kernel
theorem d_jdk_42_method_149_code_23 : decode jdk_42_method_149_code 23 = .ok (.putfield 15, 3) := by decide +kernel
theorem sn_java_lang_String_coder__value {Z : State} {a0 : Array Value} (hw : ∀ d ∈ tables_1, d.before a0 Z = true) : Jvm.RoadKit.slotOf Z "java/lang/String" "coder" "B" ≠ Jvm.RoadKit.slotOf Z "java/lang/String" "value" "[B" := slot_ne (Or.inr (hw _ (List.mem_of_getElem? (i := 31) rfl))) (Or.inr (hw _ (List.mem_of_getElem? (i := 33) rfl))) (by decide) (t := .byte) (t' := (.array .byte)) (by decide) (by decide)
theorem d_jdk_42_method_149_code_26 : decode jdk_42_method_149_code 26 = .ok (.return_, 1) := by decide +kernel
theorem sn_java_lang_String_value__coder {Z : State} {a0 : Array Value} (hw : ∀ d ∈ tables_1, d.before a0 Z = true) : Jvm.RoadKit.slotOf Z "java/lang/String" "value" "[B" ≠ Jvm.RoadKit.slotOf Z "java/lang/String" "coder" "B" := slot_ne (Or.inr (hw _ (List.mem_of_getElem? (i := 33) rfl))) (Or.inr (hw _ (List.mem_of_getElem? (i := 31) rfl))) (by decide) (t := (.array .byte)) (t' := .byte) (by decide) (by decide)
theorem pn_java_lang_String : plainName "java/lang/String" = true := by first | (simp [plainName, overriddenIn]; done) | decide +kernel
theorem d_jdk_42_method_3_code_0 : decode jdk_42_method_3_code 0 = .ok (.aload_n 0, 1) := by decide +kernel
theorem d_jdk_42_method_3_code_1 : decode jdk_42_method_3_code 1 = .ok (.aload_n 1, 1) := by decide +kernel
theorem d_jdk_42_method_3_code_2 : decode jdk_42_method_3_code 2 = .ok (.iconst 0, 1) := by decide +kernel
theorem d_jdk_42_method_3_code_3 : decode jdk_42_method_3_code 3 = .ok (.aload_n 1, 1) := by decide +kernel
theorem d_jdk_42_method_3_code_4 : decode jdk_42_method_3_code 4 = .ok (.arraylength, 1) := by decide +kernel
theorem d_jdk_42_method_3_code_5 : decode jdk_42_method_3_code 5 = .ok (.aconst_null, 1) := by decide +kernel
theorem d_jdk_42_method_3_code_6 : decode jdk_42_method_3_code 6 = .ok (.invokespecial 27, 3) := by decide +kernel
theorem pd_0 : parseMethodDescriptor "([CIILjava/lang/Void;)V" = some ⟨[(.array .char), .int, .int, (.object "java/lang/Void")], none⟩ := by decide +kernel
theorem d_jdk_42_method_3_code_9 : decode jdk_42_method_3_code 9 = .ok (.return_, 1) := by decide +kernel
theorem d_jdk_30_method_1_code_0 : decode jdk_30_method_1_code 0 = .ok (.aload_n 0, 1) := by decide +kernel
theorem d_jdk_30_method_1_code_1 : decode jdk_30_method_1_code 1 = .ok (.invokespecial 1, 3) := by decide +kernel
theorem d_jdk_30_method_1_code_4 : decode jdk_30_method_1_code 4 = .ok (.return_, 1) := by decide +kernel
theorem pn_java_lang_Record : plainName "java/lang/Record" = true := by first | (simp [plainName, overriddenIn]; done) | decide +kernel
theorem d_prog_50_method_2_code_0 : decode prog_50_method_2_code 0 = .ok (.aload_n 0, 1) := by decide +kernel
theorem d_prog_50_method_2_code_1 : decode prog_50_method_2_code 1 = .ok (.invokespecial 1, 3) := by decide +kernel
theorem pd_1 : parseMethodDescriptor "()V" = some ⟨[], none⟩ := by decide +kernel
theorem d_prog_50_method_2_code_4 : decode prog_50_method_2_code 4 = .ok (.aload_n 0, 1) := by decide +kernel
theorem d_prog_50_method_2_code_5 : decode prog_50_method_2_code 5 = .ok (.aload_n 1, 1) := by decide +kernel
theorem d_prog_50_method_2_code_6 : decode prog_50_method_2_code 6 = .ok (.putfield 7, 3) := by decide +kernel
theorem d_prog_50_method_2_code_9 : decode prog_50_method_2_code 9 = .ok (.aload_n 0, 1) := by decide +kernel
theorem d_prog_50_method_2_code_10 : decode prog_50_method_2_code 10 = .ok (.aload_n 2, 1) := by decide +kernel
theorem d_prog_50_method_2_code_11 : decode prog_50_method_2_code 11 = .ok (.putfield 13, 3) := by decide +kernel
theorem sn_com_example_corbel_corbel_Options_Option_value__name {Z : State} {a0 : Array Value} (hw : ∀ d ∈ tables_1, d.before a0 Z = true) : Jvm.RoadKit.slotOf Z "com/example/corbel/corbel/Options$Option" "value" "Ljava/lang/String;" ≠ Jvm.RoadKit.slotOf Z "com/example/corbel/corbel/Options$Option" "name" "Ljava/lang/String;" := slot_ne (Or.inr (hw _ (List.mem_of_getElem? (i := 49) rfl))) (Or.inr (hw _ (List.mem_of_getElem? (i := 47) rfl))) (by decide) (t := (.object "java/lang/String")) (t' := (.object "java/lang/String")) (by decide) (by decide)
theorem d_prog_50_method_2_code_14 : decode prog_50_method_2_code 14 = .ok (.aload_n 0, 1) := by decide +kernel
theorem d_prog_50_method_2_code_15 : decode prog_50_method_2_code 15 = .ok (.aload_n 3, 1) := by decide +kernel
theorem d_prog_50_method_2_code_16 : decode prog_50_method_2_code 16 = .ok (.putfield 16, 3) := by decide +kernel
theorem sn_com_example_corbel_corbel_Options_Option_meaning__name {Z : State} {a0 : Array Value} (hw : ∀ d ∈ tables_1, d.before a0 Z = true) : Jvm.RoadKit.slotOf Z "com/example/corbel/corbel/Options$Option" "meaning" "Ljava/lang/String;" ≠ Jvm.RoadKit.slotOf Z "com/example/corbel/corbel/Options$Option" "name" "Ljava/lang/String;" := slot_ne (Or.inr (hw _ (List.mem_of_getElem? (i := 51) rfl))) (Or.inr (hw _ (List.mem_of_getElem? (i := 47) rfl))) (by decide) (t := (.object "java/lang/String")) (t' := (.object "java/lang/String")) (by decide) (by decide)
theorem sn_com_example_corbel_corbel_Options_Option_meaning__value {Z : State} {a0 : Array Value} (hw : ∀ d ∈ tables_1, d.before a0 Z = true) : Jvm.RoadKit.slotOf Z "com/example/corbel/corbel/Options$Option" "meaning" "Ljava/lang/String;" ≠ Jvm.RoadKit.slotOf Z "com/example/corbel/corbel/Options$Option" "value" "Ljava/lang/String;" := slot_ne (Or.inr (hw _ (List.mem_of_getElem? (i := 51) rfl))) (Or.inr (hw _ (List.mem_of_getElem? (i := 49) rfl))) (by decide) (t := (.object "java/lang/String")) (t' := (.object "java/lang/String")) (by decide) (by decide)
theorem d_prog_50_method_2_code_19 : decode prog_50_method_2_code 19 = .ok (.aload_n 0, 1) := by decide +kernel
theorem d_prog_50_method_2_code_20 : decode prog_50_method_2_code 20 = .ok (.aload 4, 2) := by decide +kernel
theorem d_prog_50_method_2_code_22 : decode prog_50_method_2_code 22 = .ok (.putfield 19, 3) := by decide +kernel
theorem sn_com_example_corbel_corbel_Options_Option_fallback__name {Z : State} {a0 : Array Value} (hw : ∀ d ∈ tables_1, d.before a0 Z = true) : Jvm.RoadKit.slotOf Z "com/example/corbel/corbel/Options$Option" "fallback" "Ljava/lang/String;" ≠ Jvm.RoadKit.slotOf Z "com/example/corbel/corbel/Options$Option" "name" "Ljava/lang/String;" := slot_ne (Or.inr (hw _ (List.mem_of_getElem? (i := 53) rfl))) (Or.inr (hw _ (List.mem_of_getElem? (i := 47) rfl))) (by decide) (t := (.object "java/lang/String")) (t' := (.object "java/lang/String")) (by decide) (by decide)
theorem sn_com_example_corbel_corbel_Options_Option_fallback__value {Z : State} {a0 : Array Value} (hw : ∀ d ∈ tables_1, d.before a0 Z = true) : Jvm.RoadKit.slotOf Z "com/example/corbel/corbel/Options$Option" "fallback" "Ljava/lang/String;" ≠ Jvm.RoadKit.slotOf Z "com/example/corbel/corbel/Options$Option" "value" "Ljava/lang/String;" := slot_ne (Or.inr (hw _ (List.mem_of_getElem? (i := 53) rfl))) (Or.inr (hw _ (List.mem_of_getElem? (i := 49) rfl))) (by decide) (t := (.object "java/lang/String")) (t' := (.object "java/lang/String")) (by decide) (by decide)
theorem sn_com_example_corbel_corbel_Options_Option_fallback__meaning {Z : State} {a0 : Array Value} (hw : ∀ d ∈ tables_1, d.before a0 Z = true) : Jvm.RoadKit.slotOf Z "com/example/corbel/corbel/Options$Option" "fallback" "Ljava/lang/String;" ≠ Jvm.RoadKit.slotOf Z "com/example/corbel/corbel/Options$Option" "meaning" "Ljava/lang/String;" := slot_ne (Or.inr (hw _ (List.mem_of_getElem? (i := 53) rfl))) (Or.inr (hw _ (List.mem_of_getElem? (i := 51) rfl))) (by decide) (t := (.object "java/lang/String")) (t' := (.object "java/lang/String")) (by decide) (by decide)
theorem d_prog_50_method_2_code_25 : decode prog_50_method_2_code 25 = .ok (.aload_n 0, 1) := by decide +kernel
theorem d_prog_50_method_2_code_26 : decode prog_50_method_2_code 26 = .ok (.iload 5, 2) := by decide +kernel
theorem d_prog_50_method_2_code_28 : decode prog_50_method_2_code 28 = .ok (.putfield 22, 3) := by decide +kernel
theorem sn_com_example_corbel_corbel_Options_Option_required__name {Z : State} {a0 : Array Value} (hw : ∀ d ∈ tables_1, d.before a0 Z = true) : Jvm.RoadKit.slotOf Z "com/example/corbel/corbel/Options$Option" "required" "Z" ≠ Jvm.RoadKit.slotOf Z "com/example/corbel/corbel/Options$Option" "name" "Ljava/lang/String;" := slot_ne (Or.inr (hw _ (List.mem_of_getElem? (i := 55) rfl))) (Or.inr (hw _ (List.mem_of_getElem? (i := 47) rfl))) (by decide) (t := .boolean) (t' := (.object "java/lang/String")) (by decide) (by decide)
theorem sn_com_example_corbel_corbel_Options_Option_required__value {Z : State} {a0 : Array Value} (hw : ∀ d ∈ tables_1, d.before a0 Z = true) : Jvm.RoadKit.slotOf Z "com/example/corbel/corbel/Options$Option" "required" "Z" ≠ Jvm.RoadKit.slotOf Z "com/example/corbel/corbel/Options$Option" "value" "Ljava/lang/String;" := slot_ne (Or.inr (hw _ (List.mem_of_getElem? (i := 55) rfl))) (Or.inr (hw _ (List.mem_of_getElem? (i := 49) rfl))) (by decide) (t := .boolean) (t' := (.object "java/lang/String")) (by decide) (by decide)
theorem sn_com_example_corbel_corbel_Options_Option_required__meaning {Z : State} {a0 : Array Value} (hw : ∀ d ∈ tables_1, d.before a0 Z = true) : Jvm.RoadKit.slotOf Z "com/example/corbel/corbel/Options$Option" "required" "Z" ≠ Jvm.RoadKit.slotOf Z "com/example/corbel/corbel/Options$Option" "meaning" "Ljava/lang/String;" := slot_ne (Or.inr (hw _ (List.mem_of_getElem? (i := 55) rfl))) (Or.inr (hw _ (List.mem_of_getElem? (i := 51) rfl))) (by decide) (t := .boolean) (t' := (.object "java/lang/String")) (by decide) (by decide)
theorem sn_com_example_corbel_corbel_Options_Option_required__fallback {Z : State} {a0 : Array Value} (hw : ∀ d ∈ tables_1, d.before a0 Z = true) : Jvm.RoadKit.slotOf Z "com/example/corbel/corbel/Options$Option" "required" "Z" ≠ Jvm.RoadKit.slotOf Z "com/example/corbel/corbel/Options$Option" "fallback" "Ljava/lang/String;" := slot_ne (Or.inr (hw _ (List.mem_of_getElem? (i := 55) rfl))) (Or.inr (hw _ (List.mem_of_getElem? (i := 53) rfl))) (by decide) (t := .boolean) (t' := (.object "java/lang/String")) (by decide) (by decide)
theorem d_prog_50_method_2_code_31 : decode prog_50_method_2_code 31 = .ok (.return_, 1) := by decide +kernel
theorem sn_com_example_corbel_corbel_Options_Option_name__value {Z : State} {a0 : Array Value} (hw : ∀ d ∈ tables_1, d.before a0 Z = true) : Jvm.RoadKit.slotOf Z "com/example/corbel/corbel/Options$Option" "name" "Ljava/lang/String;" ≠ Jvm.RoadKit.slotOf Z "com/example/corbel/corbel/Options$Option" "value" "Ljava/lang/String;" := slot_ne (Or.inr (hw _ (List.mem_of_getElem? (i := 47) rfl))) (Or.inr (hw _ (List.mem_of_getElem? (i := 49) rfl))) (by decide) (t := (.object "java/lang/String")) (t' := (.object "java/lang/String")) (by decide) (by decide)
theorem sn_com_example_corbel_corbel_Options_Option_name__meaning {Z : State} {a0 : Array Value} (hw : ∀ d ∈ tables_1, d.before a0 Z = true) : Jvm.RoadKit.slotOf Z "com/example/corbel/corbel/Options$Option" "name" "Ljava/lang/String;" ≠ Jvm.RoadKit.slotOf Z "com/example/corbel/corbel/Options$Option" "meaning" "Ljava/lang/String;" := slot_ne (Or.inr (hw _ (List.mem_of_getElem? (i := 47) rfl))) (Or.inr (hw _ (List.mem_of_getElem? (i := 51) rfl))) (by decide) (t := (.object "java/lang/String")) (t' := (.object "java/lang/String")) (by decide) (by decide)
theorem sn_com_example_corbel_corbel_Options_Option_name__fallback {Z : State} {a0 : Array Value} (hw : ∀ d ∈ tables_1, d.before a0 Z = true) : Jvm.RoadKit.slotOf Z "com/example/corbel/corbel/Options$Option" "name" "Ljava/lang/String;" ≠ Jvm.RoadKit.slotOf Z "com/example/corbel/corbel/Options$Option" "fallback" "Ljava/lang/String;" := slot_ne (Or.inr (hw _ (List.mem_of_getElem? (i := 47) rfl))) (Or.inr (hw _ (List.mem_of_getElem? (i := 53) rfl))) (by decide) (t := (.object "java/lang/String")) (t' := (.object "java/lang/String")) (by decide) (by decide)
theorem sn_com_example_corbel_corbel_Options_Option_name__required {Z : State} {a0 : Array Value} (hw : ∀ d ∈ tables_1, d.before a0 Z = true) : Jvm.RoadKit.slotOf Z "com/example/corbel/corbel/Options$Option" "name" "Ljava/lang/String;" ≠ Jvm.RoadKit.slotOf Z "com/example/corbel/corbel/Options$Option" "required" "Z" := slot_ne (Or.inr (hw _ (List.mem_of_getElem? (i := 47) rfl))) (Or.inr (hw _ (List.mem_of_getElem? (i := 55) rfl))) (by decide) (t := (.object "java/lang/String")) (t' := .boolean) (by decide) (by decide)
theorem sn_com_example_corbel_corbel_Options_Option_value__meaning {Z : State} {a0 : Array Value} (hw : ∀ d ∈ tables_1, d.before a0 Z = true) : Jvm.RoadKit.slotOf Z "com/example/corbel/corbel/Options$Option" "value" "Ljava/lang/String;" ≠ Jvm.RoadKit.slotOf Z "com/example/corbel/corbel/Options$Option" "meaning" "Ljava/lang/String;" := slot_ne (Or.inr (hw _ (List.mem_of_getElem? (i := 49) rfl))) (Or.inr (hw _ (List.mem_of_getElem? (i := 51) rfl))) (by decide) (t := (.object "java/lang/String")) (t' := (.object "java/lang/String")) (by decide) (by decide)
theorem sn_com_example_corbel_corbel_Options_Option_value__fallback {Z : State} {a0 : Array Value} (hw : ∀ d ∈ tables_1, d.before a0 Z = true) : Jvm.RoadKit.slotOf Z "com/example/corbel/corbel/Options$Option" "value" "Ljava/lang/String;" ≠ Jvm.RoadKit.slotOf Z "com/example/corbel/corbel/Options$Option" "fallback" "Ljava/lang/String;" := slot_ne (Or.inr (hw _ (List.mem_of_getElem? (i := 49) rfl))) (Or.inr (hw _ (List.mem_of_getElem? (i := 53) rfl))) (by decide) (t := (.object "java/lang/String")) (t' := (.object "java/lang/String")) (by decide) (by decide)
theorem sn_com_example_corbel_corbel_Options_Option_value__required {Z : State} {a0 : Array Value} (hw : ∀ d ∈ tables_1, d.before a0 Z = true) : Jvm.RoadKit.slotOf Z "com/example/corbel/corbel/Options$Option" "value" "Ljava/lang/String;" ≠ Jvm.RoadKit.slotOf Z "com/example/corbel/corbel/Options$Option" "required" "Z" := slot_ne (Or.inr (hw _ (List.mem_of_getElem? (i := 49) rfl))) (Or.inr (hw _ (List.mem_of_getElem? (i := 55) rfl))) (by decide) (t := (.object "java/lang/String")) (t' := .boolean) (by decide) (by decide)
theorem sn_com_example_corbel_corbel_Options_Option_meaning__fallback {Z : State} {a0 : Array Value} (hw : ∀ d ∈ tables_1, d.before a0 Z = true) : Jvm.RoadKit.slotOf Z "com/example/corbel/corbel/Options$Option" "meaning" "Ljava/lang/String;" ≠ Jvm.RoadKit.slotOf Z "com/example/corbel/corbel/Options$Option" "fallback" "Ljava/lang/String;" := slot_ne (Or.inr (hw _ (List.mem_of_getElem? (i := 51) rfl))) (Or.inr (hw _ (List.mem_of_getElem? (i := 53) rfl))) (by decide) (t := (.object "java/lang/String")) (t' := (.object "java/lang/String")) (by decide) (by decide)
theorem sn_com_example_corbel_corbel_Options_Option_meaning__required {Z : State} {a0 : Array Value} (hw : ∀ d ∈ tables_1, d.before a0 Z = true) : Jvm.RoadKit.slotOf Z "com/example/corbel/corbel/Options$Option" "meaning" "Ljava/lang/String;" ≠ Jvm.RoadKit.slotOf Z "com/example/corbel/corbel/Options$Option" "required" "Z" := slot_ne (Or.inr (hw _ (List.mem_of_getElem? (i := 51) rfl))) (Or.inr (hw _ (List.mem_of_getElem? (i := 55) rfl))) (by decide) (t := (.object "java/lang/String")) (t' := .boolean) (by decide) (by decide)
theorem sn_com_example_corbel_corbel_Options_Option_fallback__required {Z : State} {a0 : Array Value} (hw : ∀ d ∈ tables_1, d.before a0 Z = true) : Jvm.RoadKit.slotOf Z "com/example/corbel/corbel/Options$Option" "fallback" "Ljava/lang/String;" ≠ Jvm.RoadKit.slotOf Z "com/example/corbel/corbel/Options$Option" "required" "Z" := slot_ne (Or.inr (hw _ (List.mem_of_getElem? (i := 53) rfl))) (Or.inr (hw _ (List.mem_of_getElem? (i := 55) rfl))) (by decide) (t := (.object "java/lang/String")) (t' := .boolean) (by decide) (by decide)
theorem pn_com_example_corbel_corbel_Options_Option : plainName "com/example/corbel/corbel/Options$Option" = true := by first | (simp [plainName, overriddenIn]; done) | decide +kernel
theorem d_prog_50_method_6_code_0 : decode prog_50_method_6_code 0 = .ok (.aload_n 0, 1) := by decide +kernel
theorem d_prog_50_method_6_code_1 : decode prog_50_method_6_code 1 = .ok (.getfield 13, 3) := by decide +kernel
theorem d_prog_50_method_6_code_4 : decode prog_50_method_6_code 4 = .ok (.ifnull 7, 3) := by decide +kernel
theorem d_prog_50_method_6_code_11 : decode prog_50_method_6_code 11 = .ok (.iconst 0, 1) := by decide +kernel
theorem d_prog_50_method_6_code_12 : decode prog_50_method_6_code 12 = .ok (.ireturn, 1) := by decide +kernel
theorem d_prog_50_method_6_code_7 : decode prog_50_method_6_code 7 = .ok (.iconst 1, 1) := by decide +kernel
theorem d_prog_50_method_6_code_8 : decode prog_50_method_6_code 8 = .ok (.goto 4, 3) := by decide +kernel
theorem d_prog_50_method_5_code_0 : decode prog_50_method_5_code 0 = .ok (.new 8, 3) := by decide +kernel
theorem d_prog_50_method_5_code_3 : decode prog_50_method_5_code 3 = .ok (.dup, 1) := by decide +kernel
theorem d_prog_50_method_5_code_4 : decode prog_50_method_5_code 4 = .ok (.aload_n 0, 1) := by decide +kernel
theorem d_prog_50_method_5_code_5 : decode prog_50_method_5_code 5 = .ok (.aconst_null, 1) := by decide +kernel
theorem d_prog_50_method_5_code_6 : decode prog_50_method_5_code 6 = .ok (.aload_n 1, 1) := by decide +kernel
theorem d_prog_50_method_5_code_7 : decode prog_50_method_5_code 7 = .ok (.aconst_null, 1) := by decide +kernel
theorem d_prog_50_method_5_code_8 : decode prog_50_method_5_code 8 = .ok (.iconst 0, 1) := by decide +kernel
theorem d_prog_50_method_5_code_9 : decode prog_50_method_5_code 9 = .ok (.invokespecial 26, 3) := by decide +kernel
theorem pd_2 : parseMethodDescriptor "(Ljava/lang/String;Ljava/lang/String;Ljava/lang/String;Ljava/lang/String;Z)V" = some ⟨[(.object "java/lang/String"), (.object "java/lang/String"), (.object "java/lang/String"), (.object "java/lang/String"), .boolean], none⟩ := by decide +kernel
theorem d_prog_50_method_5_code_12 : decode prog_50_method_5_code 12 = .ok (.areturn, 1) := by decide +kernel
theorem d_prog_50_method_3_code_0 : decode prog_50_method_3_code 0 = .ok (.new 8, 3) := by decide +kernel
theorem d_prog_50_method_3_code_3 : decode prog_50_method_3_code 3 = .ok (.dup, 1) := by decide +kernel
theorem d_prog_50_method_3_code_4 : decode prog_50_method_3_code 4 = .ok (.aload_n 0, 1) := by decide +kernel
theorem d_prog_50_method_3_code_5 : decode prog_50_method_3_code 5 = .ok (.aload_n 1, 1) := by decide +kernel
theorem d_prog_50_method_3_code_6 : decode prog_50_method_3_code 6 = .ok (.aload_n 2, 1) := by decide +kernel
theorem d_prog_50_method_3_code_7 : decode prog_50_method_3_code 7 = .ok (.aconst_null, 1) := by decide +kernel
theorem d_prog_50_method_3_code_8 : decode prog_50_method_3_code 8 = .ok (.iconst 0, 1) := by decide +kernel
theorem d_prog_50_method_3_code_9 : decode prog_50_method_3_code 9 = .ok (.invokespecial 26, 3) := by decide +kernel
theorem d_prog_50_method_3_code_12 : decode prog_50_method_3_code 12 = .ok (.areturn, 1) := by decide +kernel
theorem d_prog_50_method_4_code_0 : decode prog_50_method_4_code 0 = .ok (.aload_n 0, 1) := by decide +kernel
theorem d_prog_50_method_4_code_1 : decode prog_50_method_4_code 1 = .ok (.getfield 7, 3) := by decide +kernel
theorem d_prog_50_method_4_code_4 : decode prog_50_method_4_code 4 = .ok (.aload_n 0, 1) := by decide +kernel
theorem d_prog_50_method_4_code_5 : decode prog_50_method_4_code 5 = .ok (.getfield 13, 3) := by decide +kernel
theorem d_prog_50_method_4_code_8 : decode prog_50_method_4_code 8 = .ok (.aload_n 0, 1) := by decide +kernel
theorem d_prog_50_method_4_code_9 : decode prog_50_method_4_code 9 = .ok (.getfield 16, 3) := by decide +kernel
theorem d_prog_50_method_4_code_12 : decode prog_50_method_4_code 12 = .ok (.invokestatic 29, 3) := by decide +kernel
theorem pd_3 : parseMethodDescriptor "(Ljava/lang/String;Ljava/lang/String;Ljava/lang/String;)Lcom/example/corbel/corbel/Options$Option;" = some ⟨[(.object "java/lang/String"), (.object "java/lang/String"), (.object "java/lang/String")], some (.object "com/example/corbel/corbel/Options$Option")⟩ := by decide +kernel
theorem d_prog_50_method_4_code_15 : decode prog_50_method_4_code 15 = .ok (.areturn, 1) := by decide +kernel
theorem d_method_2_code_0 : decode method_2_code 0 = .ok (.iload_n 1, 1) := by decide +kernel
theorem d_method_2_code_1 : decode method_2_code 1 = .ok (.ifCond .ne 14, 3) := by decide +kernel
theorem d_method_2_code_4 : decode method_2_code 4 = .ok (.new 7, 3) := by decide +kernel
theorem d_method_2_code_7 : decode method_2_code 7 = .ok (.dup, 1) := by decide +kernel
theorem d_method_2_code_8 : decode method_2_code 8 = .ok (.iconst 0, 1) := by decide +kernel
theorem d_method_2_code_9 : decode method_2_code 9 = .ok (.newarray .char, 2) := by decide +kernel
theorem d_method_2_code_11 : decode method_2_code 11 = .ok (.invokespecial 9, 3) := by decide +kernel
theorem pd_4 : parseMethodDescriptor "([C)V" = some ⟨[(.array .char)], none⟩ := by decide +kernel
theorem d_method_2_code_14 : decode method_2_code 14 = .ok (.areturn, 1) := by decide +kernel
theorem d_method_2_code_15 : decode method_2_code 15 = .ok (.iconst 1, 1) := by decide +kernel
theorem d_method_2_code_16 : decode method_2_code 16 = .ok (.newarray .char, 2) := by decide +kernel
theorem d_method_2_code_18 : decode method_2_code 18 = .ok (.astore_n 2, 1) := by decide +kernel
theorem d_method_2_code_19 : decode method_2_code 19 = .ok (.aload_n 2, 1) := by decide +kernel
theorem d_method_2_code_20 : decode method_2_code 20 = .ok (.iconst 0, 1) := by decide +kernel
theorem d_method_2_code_21 : decode method_2_code 21 = .ok (.iload_n 0, 1) := by decide +kernel
theorem d_method_2_code_22 : decode method_2_code 22 = .ok (.sipush 255, 3) := by decide +kernel
theorem d_method_2_code_25 : decode method_2_code 25 = .ok (.iand, 1) := by decide +kernel
theorem d_method_2_code_26 : decode method_2_code 26 = .ok (.i2c, 1) := by decide +kernel
theorem d_method_2_code_27 : decode method_2_code 27 = .ok (.castore, 1) := by decide +kernel
theorem d_method_2_code_28 : decode method_2_code 28 = .ok (.new 7, 3) := by decide +kernel
theorem d_method_2_code_31 : decode method_2_code 31 = .ok (.dup, 1) := by decide +kernel
theorem d_method_2_code_32 : decode method_2_code 32 = .ok (.aload_n 2, 1) := by decide +kernel
theorem d_method_2_code_33 : decode method_2_code 33 = .ok (.invokespecial 9, 3) := by decide +kernel
theorem d_method_2_code_36 : decode method_2_code 36 = .ok (.areturn, 1) := by decide +kernel
theorem pn_com_example_corbel_corbel_OptionTakesValuePinLaw : plainName "com/example/corbel/corbel/OptionTakesValuePinLaw" = true := by first | (simp [plainName, overriddenIn]; done) | decide +kernel
theorem pd_5 : parseMethodDescriptor "(II)Ljava/lang/String;" = some ⟨[.int, .int], some (.object "java/lang/String")⟩ := by decide +kernel
theorem pd_6 : parseMethodDescriptor "()Z" = some ⟨[], some .boolean⟩ := by decide +kernel
theorem pd_7 : parseMethodDescriptor "(Ljava/lang/String;Ljava/lang/String;)Lcom/example/corbel/corbel/Options$Option;" = some ⟨[(.object "java/lang/String"), (.object "java/lang/String")], some (.object "com/example/corbel/corbel/Options$Option")⟩ := by decide +kernel
theorem pd_8 : parseMethodDescriptor "()Lcom/example/corbel/corbel/Options$Option;" = some ⟨[], some (.object "com/example/corbel/corbel/Options$Option")⟩ := by decide +kernel
def QrmSvE (Z : State) (a1 : Addr) (a2 : Addr) (h0 : Heap) (n0 : Nat) (v : Option Value) (h : Heap) (L : List Loc) : Prop := ∃ b : Addr, ∃ kb : ClassId, v = none ∧ Fr n0 L ∧ Keep h0 h [a1] ∧ (Exa Z h a1 "java/lang/String") ∧ (Fld Z h a1 "java/lang/String" "value" "[B" (.ref b)) ∧ (Fld Z h a1 "java/lang/String" "coder" "B" (.int (0 : Int32))) ∧ (Arv Z h b kb .byte (0 : Int32) [] (.int 0))
theorem ef_rmSvE (m : MethodId) (a1 : Addr) (a2 : Addr)  : entryFrame m #[(.ref a1), (.ref a2), (.int (0 : Int32)), (.int (0 : Int32)), .null] 6 = mkF m 0 #[.val (.ref a1), .val (.ref a2), .val (.int (0 : Int32)), .val (.int (0 : Int32)), .val .null, .unset] [] := by first | (simp [entryFrame, mkF, argsToLocals, maxLocals, Value.category]; done) | rfl
set_option maxRecDepth 65536 in
set_option maxHeartbeats 40000000 in
theorem rmSvE (l : Launch) (Z : State) (a0 : Array Value) (hw : ∀ d ∈ tables_1, d.before a0 Z = true) (ws : List Jvm.Cond) (a1 : Addr) (a2 : Addr) (h0 : Heap) (n0 : Nat) (Z0 : n0 ≤ h0.size) (G1 : Int32) (O2 : Sta Z Z.heap "java/lang/String" "COMPACT_STRINGS" "Z" (.int G1)) (P5 : ¬ (G1 = (0 : Int32))) (X00 : Old Z n0 h0) (p_Exa_a1 : Exa Z h0 a1 "java/lang/String") (p_Fld_a1_value : Fld Z h0 a1 "java/lang/String" "value" "[B" .null) (p_Fld_a1_coder : Fld Z h0 a1 "java/lang/String" "coder" "B" (.int (0 : Int32))) (ge1 : n0 ≤ a1) :
    MetFree l (⟨"java/lang/String", "<init>", "([CIILjava/lang/Void;)V"⟩ : MethodName) (head1 (Jvm.Cond.code (⟨"java/lang/String", "<init>", "([CIILjava/lang/Void;)V"⟩ : MethodName) jdk_42_method_149_code 6 (Option.none : Option Jvm.ClassFile.FieldType) :: ws) ({ frames := 1, cells := 2, slots := 4, locals := 12 } : Room)) (fun a U => a = #[(.ref a1), (.ref a2), (.int (0 : Int32)), (.int (0 : Int32)), .null] ∧ Z.Warmed39 U.vm ∧ U.heap = h0 ∧ CHv Z consts_1 U.vm h0) (fun _ _ _ _ _ => True) (fun _ U o U' => ∃ v L, o = .returned v ∧ QrmSvE Z a1 a2 h0 n0 v U'.heap L ∧ CHr Z consts_1 U.vm U.heap U'.vm U'.heap ∧ ReturnedEndW U o U' L ({ frames := 1, cells := 2, slots := 4, locals := 12 } : Room).cells ({ frames := 1, cells := 2, slots := 4, locals := 12 } : Room).slots) := by
  refine MetFree.of_bodySF (plainFor_of_name pn_java_lang_String) hisR ?_
  intro p e s m args below meth c s₁ Bd hml0 hP hK
  obtain ⟨rfl, hZ, hh, CH0⟩ := hP
  have hx := Bd.exec
  have hby := Bd.bytes
  have hml : c.maxLocals = 6 := hml0
  have hown : s.vm.findClass "java/lang/String" = some m.cls := findClass_of_methodNamed Bd.named
  have hnm := (name_of_methodNamed Bd.named Bd.method).1
  have hlk : meth.locks = false := BodyLoose.notSynchronized Bd
  have X0 : Stand p l e ({ frames := 1, cells := 2, slots := 4, locals := 12 } : Room) (s.setVm s.vm) m #[(.ref a1), (.ref a2), (.int (0 : Int32)), (.int (0 : Int32)), .null] below meth c s₁ [] 0 0 := Stand.of_body Bd
  have e0 : s₁.heap = h0 := by rw [← hh, Bd.state]; rfl
  have N0 := Fr.nil n0
  have hS0 : s.Since s.vm 0 := (State.WarmedH.refl s).since 0
  have CR0 : CHr Z consts_1 s.vm h0 s.vm h0 := CHr.refl CH0
  show Ends p.tables e below (fun o U' => ∃ v L, o = .returned v ∧ QrmSvE Z a1 a2 h0 n0 v U'.heap L ∧ CHr Z consts_1 s.vm s.heap U'.vm U'.heap ∧ ReturnedEndW s o U' L ({ frames := 1, cells := 2, slots := 4, locals := 12 } : Room).cells ({ frames := 1, cells := 2, slots := 4, locals := 12 } : Room).slots) (s₁.setTop (entryFrame m #[(.ref a1), (.ref a2), (.int (0 : Int32)), (.int (0 : Int32)), .null] 6))
  refine Ends.step (fun t k => castTop (ef_rmSvE m a1 a2 ) k) ?_
  show Ends _ _ _ _ (s₁.setTop (mkF m 0 #[.val (.ref a1), .val (.ref a2), .val (.int (0 : Int32)), .val (.int (0 : Int32)), .val .null, .unset] []))
  refine Ends.step (fun t k => XS.aloadN X0.here hx rfl (hb hby d_jdk_42_method_149_code_0) rfl rfl k) ?_
  show Ends _ _ _ _ (s₁.setTop (mkF m 1 #[.val (.ref a1), .val (.ref a2), .val (.int (0 : Int32)), .val (.int (0 : Int32)), .val .null, .unset] [(.ref a1)]))
  obtain ⟨T1, X1, e1, st1⟩ := initO X0 hx hZ hown (hw _ (List.mem_of_getElem? (i := 15) rfl)) (hw _ (List.mem_of_getElem? (i := 16) rfl)) (hw _ (List.mem_of_getElem? (i := 17) rfl)) e0 (g := (mkF m 1 #[.val (.ref a1), .val (.ref a2), .val (.int (0 : Int32)), .val (.int (0 : Int32)), .val .null, .unset] [(.ref a1)])) rfl (by rw [hml]; rfl) rfl (hb hby d_jdk_42_method_149_code_1) (by decide) (W := 0) (by show 2 * 0 + _ ≤ _; exact Nat.le_of_eq rfl) (by decide)
  refine Ends.step st1 ?_
  show Ends _ _ _ _ (T1.setTop (mkF m 4 #[.val (.ref a1), .val (.ref a2), .val (.int (0 : Int32)), .val (.int (0 : Int32)), .val .null, .unset] []))
  refine Ends.step (fun t k => XS.iloadN X1.here hx rfl (hb hby d_jdk_42_method_149_code_4) rfl k) ?_
  show Ends _ _ _ _ (T1.setTop (mkF m 5 #[.val (.ref a1), .val (.ref a2), .val (.int (0 : Int32)), .val (.int (0 : Int32)), .val .null, .unset] [(.int (0 : Int32))]))
  refine Ends.step (fun t k => XS.ifNo X1.here hx rfl (hb hby d_jdk_42_method_149_code_5) rfl ((if0 _ _).trans (teq (by decide : ((0 : Int32) = (0 : Int32)))).2) k) ?_
  show Ends _ _ _ _ (T1.setTop (mkF m 8 #[.val (.ref a1), .val (.ref a2), .val (.int (0 : Int32)), .val (.int (0 : Int32)), .val .null, .unset] []))
  refine Ends.step (fun t k => XS.aloadN X1.here hx rfl (hb hby d_jdk_42_method_149_code_8) rfl rfl k) ?_
  show Ends _ _ _ _ (T1.setTop (mkF m 9 #[.val (.ref a1), .val (.ref a2), .val (.int (0 : Int32)), .val (.int (0 : Int32)), .val .null, .unset] [(.ref a1)]))
  obtain ⟨s2, T2, h2, kk2, sb2, sk2, X2, e2, E2, hS2, hk2, hZ2, hown2, Ex2, Fc2, Fv2, Av2, la2, lb2, CRc2, Li2, Sf2, st2⟩ := ldcCH (s := s) (vm0 := s.vm) X1 hx hZ hown (hw _ (List.mem_of_getElem? (i := 74) rfl)) (own_wS hw) e1 hS0 (Nat.zero_le _) (own_hEL hw) (List.mem_of_getElem? (i := 0) rfl) CR0.1 (vs := []) (z := 0) (by decide +kernel) (by decide) rfl (g := (mkF m 9 #[.val (.ref a1), .val (.ref a2), .val (.int (0 : Int32)), .val (.int (0 : Int32)), .val .null, .unset] [(.ref a1)])) rfl (hb hby d_jdk_42_method_149_code_9) (n := 0) (by decide) (by decide) (by decide) (by decide)
  have CR2 := CR0.trans CRc2
  refine Ends.step st2 ?_
  show Ends _ _ _ _ (T2.setTop (mkF m 11 #[.val (.ref a1), .val (.ref a2), .val (.int (0 : Int32)), .val (.int (0 : Int32)), .val .null, .unset] [(.ref s2), (.ref a1)]))
  obtain ⟨T3, X3, e3, st3⟩ := getF X2 hx hZ2 hown2 (host := "") (Or.inl (hw _ (List.mem_of_getElem? (i := 32) rfl))) Via.refl e2 Fv2 (g := (mkF m 11 #[.val (.ref a1), .val (.ref a2), .val (.int (0 : Int32)), .val (.int (0 : Int32)), .val .null, .unset] [(.ref s2), (.ref a1)])) rfl rfl (hb hby d_jdk_42_method_149_code_11)
  refine Ends.step st3 ?_
  show Ends _ _ _ _ (T3.setTop (mkF m 14 #[.val (.ref a1), .val (.ref a2), .val (.int (0 : Int32)), .val (.int (0 : Int32)), .val .null, .unset] [(.ref sb2), (.ref a1)]))
  have F4 : Exa Z h2 a1 "java/lang/String" := (p_Exa_a1.ext E2)
  have F5 : Fld Z h2 a1 "java/lang/String" "value" "[B" .null := (p_Fld_a1_value.ext E2)
  obtain ⟨T6, h6, X6, e6, W6, st6⟩ := putF X3 hx hZ2 hown2 (host := "") (Or.inl (hw _ (List.mem_of_getElem? (i := 32) rfl))) Via.refl e3 F5 F4 (Or.inr ⟨(hw _ (List.mem_of_getElem? (i := 33) rfl)), rfl, hnm⟩) (hw _ (List.mem_of_getElem? (i := 6) rfl)) (ty := (.array .byte)) (by decide) rfl rfl (g := (mkF m 14 #[.val (.ref a1), .val (.ref a2), .val (.int (0 : Int32)), .val (.int (0 : Int32)), .val .null, .unset] [(.ref sb2), (.ref a1)])) rfl rfl (hb hby d_jdk_42_method_149_code_14)
  have N6 := Fr.snoc X6 N0 ge1
  have Fw6 : Fld Z h6 a1 "java/lang/String" "value" "[B" (.ref sb2) := F5.same W6
  refine Ends.step st6 ?_
  show Ends _ _ _ _ (T6.setTop (mkF m 17 #[.val (.ref a1), .val (.ref a2), .val (.int (0 : Int32)), .val (.int (0 : Int32)), .val .null, .unset] []))
  refine Ends.step (fun t k => XS.aloadN X6.here hx rfl (hb hby d_jdk_42_method_149_code_17) rfl rfl k) ?_
  show Ends _ _ _ _ (T6.setTop (mkF m 18 #[.val (.ref a1), .val (.ref a2), .val (.int (0 : Int32)), .val (.int (0 : Int32)), .val .null, .unset] [(.ref a1)]))
  refine Ends.step (fun t k => ldcAgain (s := s) (vm0 := T2.vm) X6 hx hZ2 hown2 (hw _ (List.mem_of_getElem? (i := 74) rfl)) Li2 (g := (mkF m 18 #[.val (.ref a1), .val (.ref a2), .val (.int (0 : Int32)), .val (.int (0 : Int32)), .val .null, .unset] [(.ref a1)])) rfl (hb hby d_jdk_42_method_149_code_18) _ k) ?_
  show Ends _ _ _ _ (T6.setTop (mkF m 20 #[.val (.ref a1), .val (.ref a2), .val (.int (0 : Int32)), .val (.int (0 : Int32)), .val .null, .unset] [(.ref s2), (.ref a1)]))
  have F7 : Fld Z h6 s2 "java/lang/String" "coder" "B" (.int (0 : Int32)) := (Fc2.other W6 (Or.inl (Ne.symm (Sf2 _ (own_safeBlank (State.Warmed39.alike hZ2) (p_Exa_a1.ext E2) (p_Fld_a1_value.ext E2))).1)))
  obtain ⟨T8, X8, e8, st8⟩ := getF X6 hx hZ2 hown2 (host := "") (Or.inl (hw _ (List.mem_of_getElem? (i := 30) rfl))) Via.refl e6 F7 (g := (mkF m 20 #[.val (.ref a1), .val (.ref a2), .val (.int (0 : Int32)), .val (.int (0 : Int32)), .val .null, .unset] [(.ref s2), (.ref a1)])) rfl rfl (hb hby d_jdk_42_method_149_code_20)
  refine Ends.step st8 ?_
  show Ends _ _ _ _ (T8.setTop (mkF m 23 #[.val (.ref a1), .val (.ref a2), .val (.int (0 : Int32)), .val (.int (0 : Int32)), .val .null, .unset] [(.int (0 : Int32)), (.ref a1)]))
  have F9 : Exa Z h6 a1 "java/lang/String" := (F4.wr W6)
  have F10 : Fld Z h6 a1 "java/lang/String" "coder" "B" (.int (0 : Int32)) := ((p_Fld_a1_coder.ext E2).other W6 (Or.inr (sn_java_lang_String_coder__value hw)))
  obtain ⟨T11, h11, X11, e11, W11, st11⟩ := putF X8 hx hZ2 hown2 (host := "") (Or.inl (hw _ (List.mem_of_getElem? (i := 30) rfl))) Via.refl e8 F10 F9 (Or.inr ⟨(hw _ (List.mem_of_getElem? (i := 31) rfl)), rfl, hnm⟩) (hw _ (List.mem_of_getElem? (i := 6) rfl)) (ty := .byte) (by decide) rfl rfl (g := (mkF m 23 #[.val (.ref a1), .val (.ref a2), .val (.int (0 : Int32)), .val (.int (0 : Int32)), .val .null, .unset] [(.int (0 : Int32)), (.ref a1)])) rfl rfl (hb hby d_jdk_42_method_149_code_23)
  have N11 := Fr.snoc X11 N6 ge1
  have Fw11 : Fld Z h11 a1 "java/lang/String" "coder" "B" (.int (0 : Int32)) := F10.same W11
  refine Ends.step st11 ?_
  show Ends _ _ _ _ (T11.setTop (mkF m 26 #[.val (.ref a1), .val (.ref a2), .val (.int (0 : Int32)), .val (.int (0 : Int32)), .val .null, .unset] []))
  have F12 : Exa Z h11 a1 "java/lang/String" := (F9.wr W11)
  have F13 : Fld Z h11 a1 "java/lang/String" "value" "[B" (.ref sb2) := (Fw6.other W11 (Or.inr (sn_java_lang_String_value__coder hw)))
  have F14 : Arv Z h11 sb2 sk2 .byte (0 : Int32) [] (.int 0) := ((Av2.other W6 (Ne.symm (Sf2 _ (own_safeBlank (State.Warmed39.alike hZ2) (p_Exa_a1.ext E2) (p_Fld_a1_value.ext E2))).2)).other W11 (Ne.symm (Sf2 _ (own_safeBlank (State.Warmed39.alike hZ2) (p_Exa_a1.ext E2) (p_Fld_a1_value.ext E2))).2))
  have SF16 := Safe.wr W6 (own_safeBlank (State.Warmed39.alike hZ2) (p_Exa_a1.ext E2) (p_Fld_a1_value.ext E2)) CR2.1 (own_safeBlank (State.Warmed39.alike hZ2) (p_Exa_a1.ext E2) (p_Fld_a1_value.ext E2))
  have CR15 := own_chrW CR2 W6 (own_safeBlank (State.Warmed39.alike hZ2) (p_Exa_a1.ext E2) (p_Fld_a1_value.ext E2))
  have SF18 := Safe.wr W11 SF16 CR15.1 SF16
  have CR17 := own_chrW CR15 W11 SF16
  exact own_finVW X11 hS2 hx hlk hh (own_hEL hw) (Nat.le_trans hk2 (Nat.le_trans (Nat.le_of_eq W6.size.symm) (Nat.le_of_eq W11.size.symm))) CR17 hZ2 Bd.returns (hb hby d_jdk_42_method_149_code_26) e11 ⟨sb2, sk2, rfl, N11, ((((Keep.refl h0 [a1]).ext E2).wr W6 (Or.inl (List.mem_of_getElem? (i := 0) rfl))).wr W11 (Or.inl (List.mem_of_getElem? (i := 0) rfl))), F12, F13, Fw11, F14⟩ (by decide) (by decide)
def QrmScE (Z : State) (a1 : Addr) (a2 : Addr) (kc : ClassId) (h0 : Heap) (n0 : Nat) (v : Option Value) (h : Heap) (L : List Loc) : Prop := ∃ b : Addr, ∃ kb : ClassId, v = none ∧ Fr n0 L ∧ Keep h0 h [a1] ∧ (Exa Z h a1 "java/lang/String") ∧ (Fld Z h a1 "java/lang/String" "value" "[B" (.ref b)) ∧ (Fld Z h a1 "java/lang/String" "coder" "B" (.int (0 : Int32))) ∧ (Arv Z h b kb .byte (0 : Int32) [] (.int 0))
theorem ef_rmScE (m : MethodId) (a1 : Addr) (a2 : Addr)  : entryFrame m #[(.ref a1), (.ref a2)] 2 = mkF m 0 #[.val (.ref a1), .val (.ref a2)] [] := by first | (simp [entryFrame, mkF, argsToLocals, maxLocals, Value.category]; done) | rfl
set_option maxRecDepth 65536 in
set_option maxHeartbeats 40000000 in
theorem rmScE (l : Launch) (Z : State) (a0 : Array Value) (hw : ∀ d ∈ tables_1, d.before a0 Z = true) (ws : List Jvm.Cond) (a1 : Addr) (a2 : Addr) (kc : ClassId) (h0 : Heap) (n0 : Nat) (Z0 : n0 ≤ h0.size) (G1 : Int32) (O2 : Sta Z Z.heap "java/lang/String" "COMPACT_STRINGS" "Z" (.int G1)) (P5 : ¬ (G1 = (0 : Int32))) (X00 : Old Z n0 h0) (p_Exa_a1 : Exa Z h0 a1 "java/lang/String") (p_Fld_a1_value : Fld Z h0 a1 "java/lang/String" "value" "[B" .null) (p_Fld_a1_coder : Fld Z h0 a1 "java/lang/String" "coder" "B" (.int (0 : Int32))) (ge1 : n0 ≤ a1) (p_Arv_a2 : Arv Z h0 a2 kc .char (0 : Int32) [] (.int (0 : Int32))) :
    MetFree l (⟨"java/lang/String", "<init>", "([C)V"⟩ : MethodName) (head1 (Jvm.Cond.code (⟨"java/lang/String", "<init>", "([C)V"⟩ : MethodName) jdk_42_method_3_code 2 (Option.none : Option Jvm.ClassFile.FieldType) :: ws) ({ frames := 2, cells := 2, slots := 4, locals := 29 } : Room)) (fun a U => a = #[(.ref a1), (.ref a2)] ∧ Z.Warmed39 U.vm ∧ U.heap = h0 ∧ CHv Z consts_1 U.vm h0) (fun _ _ _ _ _ => True) (fun _ U o U' => ∃ v L, o = .returned v ∧ QrmScE Z a1 a2 kc h0 n0 v U'.heap L ∧ CHr Z consts_1 U.vm U.heap U'.vm U'.heap ∧ ReturnedEndW U o U' L ({ frames := 2, cells := 2, slots := 4, locals := 29 } : Room).cells ({ frames := 2, cells := 2, slots := 4, locals := 29 } : Room).slots) := by
  refine MetFree.of_bodySF (plainFor_of_name pn_java_lang_String) hisR ?_
  intro p e s m args below meth c s₁ Bd hml0 hP hK
  obtain ⟨rfl, hZ, hh, CH0⟩ := hP
  have hx := Bd.exec
  have hby := Bd.bytes
  have hml : c.maxLocals = 2 := hml0
  have hown : s.vm.findClass "java/lang/String" = some m.cls := findClass_of_methodNamed Bd.named
  have hnm := (name_of_methodNamed Bd.named Bd.method).1
  have hlk : meth.locks = false := BodyLoose.notSynchronized Bd
  have X0 : Stand p l e ({ frames := 2, cells := 2, slots := 4, locals := 29 } : Room) (s.setVm s.vm) m #[(.ref a1), (.ref a2)] below meth c s₁ [] 0 0 := Stand.of_body Bd
  have e0 : s₁.heap = h0 := by rw [← hh, Bd.state]; rfl
  have N0 := Fr.nil n0
  have hS0 : s.Since s.vm 0 := (State.WarmedH.refl s).since 0
  have CR0 : CHr Z consts_1 s.vm h0 s.vm h0 := CHr.refl CH0
  show Ends p.tables e below (fun o U' => ∃ v L, o = .returned v ∧ QrmScE Z a1 a2 kc h0 n0 v U'.heap L ∧ CHr Z consts_1 s.vm s.heap U'.vm U'.heap ∧ ReturnedEndW s o U' L ({ frames := 2, cells := 2, slots := 4, locals := 29 } : Room).cells ({ frames := 2, cells := 2, slots := 4, locals := 29 } : Room).slots) (s₁.setTop (entryFrame m #[(.ref a1), (.ref a2)] 2))
  refine Ends.step (fun t k => castTop (ef_rmScE m a1 a2 ) k) ?_
  show Ends _ _ _ _ (s₁.setTop (mkF m 0 #[.val (.ref a1), .val (.ref a2)] []))
  refine Ends.step (fun t k => XS.aloadN X0.here hx rfl (hb hby d_jdk_42_method_3_code_0) rfl rfl k) ?_
  show Ends _ _ _ _ (s₁.setTop (mkF m 1 #[.val (.ref a1), .val (.ref a2)] [(.ref a1)]))
  refine Ends.step (fun t k => XS.aloadN X0.here hx rfl (hb hby d_jdk_42_method_3_code_1) rfl rfl k) ?_
  show Ends _ _ _ _ (s₁.setTop (mkF m 2 #[.val (.ref a1), .val (.ref a2)] [(.ref a2), (.ref a1)]))
  refine Ends.step (fun t k => XS.iconst X0.here hx rfl (hb hby d_jdk_42_method_3_code_2) k) ?_
  show Ends _ _ _ _ (s₁.setTop (mkF m 3 #[.val (.ref a1), .val (.ref a2)] [(.int (0 : Int32)), (.ref a2), (.ref a1)]))
  refine Ends.step (fun t k => XS.aloadN X0.here hx rfl (hb hby d_jdk_42_method_3_code_3) rfl rfl k) ?_
  show Ends _ _ _ _ (s₁.setTop (mkF m 4 #[.val (.ref a1), .val (.ref a2)] [(.ref a2), (.int (0 : Int32)), (.ref a2), (.ref a1)]))
  obtain ⟨cl1, Ar1, q1, S1, M1, H1, Gx1⟩ := p_Arv_a2
  have ln1 := len_of S1 M1
  refine Ends.step (fun t k => own_alen X0 hx hZ e0 Ar1 ln1 (g := (mkF m 4 #[.val (.ref a1), .val (.ref a2)] [(.ref a2), (.int (0 : Int32)), (.ref a2), (.ref a1)])) rfl rfl (hb hby d_jdk_42_method_3_code_4) k) ?_
  show Ends _ _ _ _ (s₁.setTop (mkF m 5 #[.val (.ref a1), .val (.ref a2)] [(.int (0 : Int32)), (.int (0 : Int32)), (.ref a2), (.ref a1)]))
  refine Ends.step (fun t k => XS.aconstNull X0.here hx rfl (hb hby d_jdk_42_method_3_code_5) k) ?_
  show Ends _ _ _ _ (s₁.setTop (mkF m 6 #[.val (.ref a1), .val (.ref a2)] [.null, (.int (0 : Int32)), (.int (0 : Int32)), (.ref a2), (.ref a1)]))
  obtain ⟨_, _, ⟨T2, L2, k2, n2⟩, -, Xs2, hs2, hg2, ⟨Lc2, hQ2, l2, y2, z2, CRc2⟩, st2⟩ := X0.specialBackS hx (y := (⟨"java/lang/String", "<init>", "([CIILjava/lang/Void;)V"⟩ : MethodName)) rfl hown (mvT hZ (hw _ (List.mem_of_getElem? (i := 11) rfl))) (mvT hZ (hw _ (List.mem_of_getElem? (i := 12) rfl))) (mvT hZ (hw _ (List.mem_of_getElem? (i := 14) rfl))) (by decide) (backOfSH (s := s) (vm0 := s.vm) (W := 0) (rmSvE l Z a0 hw [] a1 a2 h0 n0 Z0 G1 O2 P5 X00 p_Exa_a1 p_Fld_a1_value p_Fld_a1_coder ge1) hZ (hw _ (List.mem_of_getElem? (i := 14) rfl)) (hw _ (List.mem_of_getElem? (i := 7) rfl)) (by decide) (by decide) (own_hEL hw) CR0.1) (g := (mkF m 6 #[.val (.ref a1), .val (.ref a2)] [.null, (.int (0 : Int32)), (.int (0 : Int32)), (.ref a2), (.ref a1)])) rfl (by rw [hml]; rfl) (Steps.refl _) (a := a1) (argsL := [(.ref a2), (.int (0 : Int32)), (.int (0 : Int32)), .null]) (rest := []) (lenOf pd_0 rfl) rfl (by show 2 * 0 + _ ≤ _; exact Nat.le_of_eq rfl) (hb hby d_jdk_42_method_3_code_6) (fun _ _ => ⟨rfl, e0, (by decide : 0 + 2 ≤ _), (by decide : 0 + 4 ≤ _)⟩)
  dsimp only [Pt.U, Pt.locs, Pt.cells, Pt.slots] at Xs2 hs2 hg2 l2 y2 z2 st2 hQ2 CRc2
  subst l2 y2 z2
  obtain ⟨X2, hS2, hZ2, hown2⟩ := rebS hS0 (Nat.le_trans (Nat.zero_le _) (Nat.le_of_eq (congrArg Array.size (Eq.symm e0)))) Xs2 hs2 hg2 hZ hown
  have CR2 := CR0.trans CRc2
  obtain ⟨b_2, kb_2, rfl, Nq2, K2, f2_0, f2_1, f2_2, f2_3⟩ := hQ2
  have N2 := Fr.app N0 Nq2
  refine Ends.go st2 ?_
  show Ends _ _ _ _ (T2.setTop (mkF m 9 #[.val (.ref a1), .val (.ref a2)] []))
  exact own_finVW X2 hS2 hx hlk hh (own_hEL hw) (Nat.le_refl _) CR2 hZ2 Bd.returns (hb hby d_jdk_42_method_3_code_9) rfl ⟨b_2, kb_2, rfl, N2, ((Keep.refl h0 [a1]).trans K2 (allS (Or.inl (List.mem_of_getElem? (i := 0) rfl)) all0)), f2_0, f2_1, f2_2, f2_3⟩ (by decide) (by decide)
def QrmRec (Z : State) (a1 : Addr) (h0 : Heap) (n0 : Nat) (v : Option Value) (h : Heap) (L : List Loc) : Prop := v = none ∧ Fr n0 L ∧ h = h0
theorem ef_rmRec (m : MethodId) (a1 : Addr)  : entryFrame m #[(.ref a1)] 1 = mkF m 0 #[.val (.ref a1)] [] := by first | (simp [entryFrame, mkF, argsToLocals, maxLocals, Value.category]; done) | rfl
set_option maxRecDepth 65536 in
set_option maxHeartbeats 40000000 in
theorem rmRec (l : Launch) (Z : State) (a0 : Array Value) (hw : ∀ d ∈ tables_1, d.before a0 Z = true) (ws : List Jvm.Cond) (a1 : Addr) (h0 : Heap) (n0 : Nat) (Z0 : n0 ≤ h0.size) (G1 : Int32) (O2 : Sta Z Z.heap "java/lang/String" "COMPACT_STRINGS" "Z" (.int G1)) (P5 : ¬ (G1 = (0 : Int32))) (X00 : Old Z n0 h0)  :
    MetFree l (⟨"java/lang/Record", "<init>", "()V"⟩ : MethodName) (head1 (Jvm.Cond.code (⟨"java/lang/Record", "<init>", "()V"⟩ : MethodName) jdk_30_method_1_code 1 (Option.none : Option Jvm.ClassFile.FieldType) :: ws) ({ frames := 1, cells := 0, slots := 0, locals := 12 } : Room)) (fun a U => a = #[(.ref a1)] ∧ Z.Warmed39 U.vm ∧ U.heap = h0) (fun _ _ _ _ _ => True) (fun _ U o U' => ∃ v L, o = .returned v ∧ QrmRec Z a1 h0 n0 v U'.heap L ∧ FrameEnd U o U' L ({ frames := 1, cells := 0, slots := 0, locals := 12 } : Room).cells ({ frames := 1, cells := 0, slots := 0, locals := 12 } : Room).slots) := by
  refine MetFree.of_bodySF (plainFor_of_name pn_java_lang_Record) hisR ?_
  intro p e s m args below meth c s₁ Bd hml0 hP hK
  obtain ⟨rfl, hZ, hh⟩ := hP
  have hx := Bd.exec
  have hby := Bd.bytes
  have hml : c.maxLocals = 1 := hml0
  have hown : s.vm.findClass "java/lang/Record" = some m.cls := findClass_of_methodNamed Bd.named
  have hnm := (name_of_methodNamed Bd.named Bd.method).1
  have hlk : meth.locks = false := BodyLoose.notSynchronized Bd
  have X0 : Stand p l e ({ frames := 1, cells := 0, slots := 0, locals := 12 } : Room) s m #[(.ref a1)] below meth c s₁ [] 0 0 := Stand.of_body Bd
  have e0 : s₁.heap = h0 := by rw [← hh, Bd.state]; rfl
  have N0 := Fr.nil n0
  show Ends p.tables e below (fun o U' => ∃ v L, o = .returned v ∧ QrmRec Z a1 h0 n0 v U'.heap L ∧ FrameEnd s o U' L ({ frames := 1, cells := 0, slots := 0, locals := 12 } : Room).cells ({ frames := 1, cells := 0, slots := 0, locals := 12 } : Room).slots) (s₁.setTop (entryFrame m #[(.ref a1)] 1))
  refine Ends.step (fun t k => castTop (ef_rmRec m a1 ) k) ?_
  show Ends _ _ _ _ (s₁.setTop (mkF m 0 #[.val (.ref a1)] []))
  refine Ends.step (fun t k => XS.aloadN X0.here hx rfl (hb hby d_jdk_30_method_1_code_0) rfl rfl k) ?_
  show Ends _ _ _ _ (s₁.setTop (mkF m 1 #[.val (.ref a1)] [(.ref a1)]))
  obtain ⟨T1, X1, e1, st1⟩ := initO X0 hx hZ hown (hw _ (List.mem_of_getElem? (i := 45) rfl)) (hw _ (List.mem_of_getElem? (i := 16) rfl)) (hw _ (List.mem_of_getElem? (i := 17) rfl)) e0 (g := (mkF m 1 #[.val (.ref a1)] [(.ref a1)])) rfl (by rw [hml]; rfl) rfl (hb hby d_jdk_30_method_1_code_1) (by decide) (W := 0) (by show 2 * 0 + _ ≤ _; exact Nat.le_of_eq rfl) (by decide)
  refine Ends.step st1 ?_
  show Ends _ _ _ _ (T1.setTop (mkF m 4 #[.val (.ref a1)] []))
  exact own_finV X1 hx hlk Bd.returns (hb hby d_jdk_30_method_1_code_4) e1 (K := _) ⟨rfl, N0, rfl⟩ (by decide) (by decide)
def QrmOI (Z : State) (a1 : Addr) (v0 : Value) (v1 : Value) (v2 : Value) (v3 : Value) (p5 : Int32) (h0 : Heap) (n0 : Nat) (v : Option Value) (h : Heap) (L : List Loc) : Prop := v = none ∧ Fr n0 L ∧ Keep h0 h [a1] ∧ (Exa Z h a1 "com/example/corbel/corbel/Options$Option") ∧ (Fld Z h a1 "com/example/corbel/corbel/Options$Option" "name" "Ljava/lang/String;" v0) ∧ (Fld Z h a1 "com/example/corbel/corbel/Options$Option" "value" "Ljava/lang/String;" v1) ∧ (Fld Z h a1 "com/example/corbel/corbel/Options$Option" "meaning" "Ljava/lang/String;" v2) ∧ (Fld Z h a1 "com/example/corbel/corbel/Options$Option" "fallback" "Ljava/lang/String;" v3)
theorem ef_rmOI (m : MethodId) (a1 : Addr) (v0 : Value) (v1 : Value) (v2 : Value) (v3 : Value) (p5 : Int32) (r_v0 : Value.isRef v0 = true) (r_v1 : Value.isRef v1 = true) (r_v2 : Value.isRef v2 = true) (r_v3 : Value.isRef v3 = true) : entryFrame m #[(.ref a1), v0, v1, v2, v3, (.int p5)] 6 = mkF m 0 #[.val (.ref a1), .val v0, .val v1, .val v2, .val v3, .val (.int p5)] [] := by first | (simp [entryFrame, mkF, argsToLocals, maxLocals, own_cR, own_cI, own_cN, own_cJ, XT.cat1 r_v0, XT.cat1 r_v1, XT.cat1 r_v2, XT.cat1 r_v3]; done) | rfl
set_option maxRecDepth 65536 in
set_option maxHeartbeats 40000000 in
theorem rmOI (l : Launch) (Z : State) (a0 : Array Value) (hw : ∀ d ∈ tables_1, d.before a0 Z = true) (ws : List Jvm.Cond) (a1 : Addr) (v0 : Value) (v1 : Value) (v2 : Value) (v3 : Value) (p5 : Int32) (h0 : Heap) (n0 : Nat) (Z0 : n0 ≤ h0.size) (G1 : Int32) (O2 : Sta Z Z.heap "java/lang/String" "COMPACT_STRINGS" "Z" (.int G1)) (P5 : ¬ (G1 = (0 : Int32))) (X00 : Old Z n0 h0) (r_v0 : Value.isRef v0 = true) (r_v1 : Value.isRef v1 = true) (r_v2 : Value.isRef v2 = true) (r_v3 : Value.isRef v3 = true) (p_Exa_a1 : Exa Z h0 a1 "com/example/corbel/corbel/Options$Option") (p_Fld_a1_name : Fld Z h0 a1 "com/example/corbel/corbel/Options$Option" "name" "Ljava/lang/String;" .null) (p_Fld_a1_value : Fld Z h0 a1 "com/example/corbel/corbel/Options$Option" "value" "Ljava/lang/String;" .null) (p_Fld_a1_meaning : Fld Z h0 a1 "com/example/corbel/corbel/Options$Option" "meaning" "Ljava/lang/String;" .null) (p_Fld_a1_fallback : Fld Z h0 a1 "com/example/corbel/corbel/Options$Option" "fallback" "Ljava/lang/String;" .null) (p_Fld_a1_required : Fld Z h0 a1 "com/example/corbel/corbel/Options$Option" "required" "Z" (.int (0 : Int32))) (ge1 : n0 ≤ a1) :
    MetFree l (⟨"com/example/corbel/corbel/Options$Option", "<init>", "(Ljava/lang/String;Ljava/lang/String;Ljava/lang/String;Ljava/lang/String;Z)V"⟩ : MethodName) (head1 (Jvm.Cond.code (⟨"com/example/corbel/corbel/Options$Option", "<init>", "(Ljava/lang/String;Ljava/lang/String;Ljava/lang/String;Ljava/lang/String;Z)V"⟩ : MethodName) prog_50_method_2_code 6 (Option.none : Option Jvm.ClassFile.FieldType) :: ws) ({ frames := 2, cells := 0, slots := 0, locals := 24 } : Room)) (fun a U => a = #[(.ref a1), v0, v1, v2, v3, (.int p5)] ∧ Z.Warmed39 U.vm ∧ U.heap = h0) (fun _ _ _ _ _ => True) (fun _ U o U' => ∃ v L, o = .returned v ∧ QrmOI Z a1 v0 v1 v2 v3 p5 h0 n0 v U'.heap L ∧ FrameEnd U o U' L ({ frames := 2, cells := 0, slots := 0, locals := 24 } : Room).cells ({ frames := 2, cells := 0, slots := 0, locals := 24 } : Room).slots) := by
  refine MetFree.of_bodySF (plainFor_of_name pn_com_example_corbel_corbel_Options_Option) hisR ?_
  intro p e s m args below meth c s₁ Bd hml0 hP hK
  obtain ⟨rfl, hZ, hh⟩ := hP
  have hx := Bd.exec
  have hby := Bd.bytes
  have hml : c.maxLocals = 6 := hml0
  have hown : s.vm.findClass "com/example/corbel/corbel/Options$Option" = some m.cls := findClass_of_methodNamed Bd.named
  have hnm := (name_of_methodNamed Bd.named Bd.method).1
  have hlk : meth.locks = false := BodyLoose.notSynchronized Bd
  have X0 : Stand p l e ({ frames := 2, cells := 0, slots := 0, locals := 24 } : Room) s m #[(.ref a1), v0, v1, v2, v3, (.int p5)] below meth c s₁ [] 0 0 := Stand.of_body Bd
  have e0 : s₁.heap = h0 := by rw [← hh, Bd.state]; rfl
  have N0 := Fr.nil n0
  show Ends p.tables e below (fun o U' => ∃ v L, o = .returned v ∧ QrmOI Z a1 v0 v1 v2 v3 p5 h0 n0 v U'.heap L ∧ FrameEnd s o U' L ({ frames := 2, cells := 0, slots := 0, locals := 24 } : Room).cells ({ frames := 2, cells := 0, slots := 0, locals := 24 } : Room).slots) (s₁.setTop (entryFrame m #[(.ref a1), v0, v1, v2, v3, (.int p5)] 6))
  refine Ends.step (fun t k => castTop (ef_rmOI m a1 v0 v1 v2 v3 p5 r_v0 r_v1 r_v2 r_v3) k) ?_
  show Ends _ _ _ _ (s₁.setTop (mkF m 0 #[.val (.ref a1), .val v0, .val v1, .val v2, .val v3, .val (.int p5)] []))
  refine Ends.step (fun t k => XS.aloadN X0.here hx rfl (hb hby d_prog_50_method_2_code_0) rfl rfl k) ?_
  show Ends _ _ _ _ (s₁.setTop (mkF m 1 #[.val (.ref a1), .val v0, .val v1, .val v2, .val v3, .val (.int p5)] [(.ref a1)]))
  obtain ⟨_, _, ⟨T1, L1, k1, n1⟩, -, X1, ⟨Lc1, hQ1, l1, y1, z1⟩, st1⟩ := X0.specialBack hx (y := (⟨"java/lang/Record", "<init>", "()V"⟩ : MethodName)) rfl hown (mvT hZ (hw _ (List.mem_of_getElem? (i := 40) rfl))) (mvT hZ (hw _ (List.mem_of_getElem? (i := 41) rfl))) (mvT hZ (hw _ (List.mem_of_getElem? (i := 44) rfl))) (by decide) (backOf (W := 0) (rmRec l Z a0 hw [] a1 h0 n0 Z0 G1 O2 P5 X00 ) hZ (hw _ (List.mem_of_getElem? (i := 44) rfl)) (hw _ (List.mem_of_getElem? (i := 43) rfl)) (by decide) (by decide)) (g := (mkF m 1 #[.val (.ref a1), .val v0, .val v1, .val v2, .val v3, .val (.int p5)] [(.ref a1)])) rfl (by rw [hml]; rfl) (Steps.refl _) (a := a1) (argsL := []) (rest := []) (lenOf pd_1 rfl) rfl (by show 2 * 0 + _ ≤ _; exact Nat.le_of_eq rfl) (hb hby d_prog_50_method_2_code_1) (fun _ _ => ⟨rfl, e0, (by decide : 0 + 0 ≤ _), (by decide : 0 + 0 ≤ _)⟩)
  dsimp only [Pt.U, Pt.locs, Pt.cells, Pt.slots] at X1 l1 y1 z1 st1 hQ1
  subst l1 y1 z1
  obtain ⟨rfl, Nq1, eh1⟩ := hQ1
  have N1 := Fr.app N0 Nq1
  refine Ends.go st1 ?_
  show Ends _ _ _ _ (T1.setTop (mkF m 4 #[.val (.ref a1), .val v0, .val v1, .val v2, .val v3, .val (.int p5)] []))
  refine Ends.step (fun t k => XS.aloadN X1.here hx rfl (hb hby d_prog_50_method_2_code_4) rfl rfl k) ?_
  show Ends _ _ _ _ (T1.setTop (mkF m 5 #[.val (.ref a1), .val v0, .val v1, .val v2, .val v3, .val (.int p5)] [(.ref a1)]))
  refine Ends.step (fun t k => XS.aloadN X1.here hx rfl (hb hby d_prog_50_method_2_code_5) rfl r_v0 k) ?_
  show Ends _ _ _ _ (T1.setTop (mkF m 6 #[.val (.ref a1), .val v0, .val v1, .val v2, .val v3, .val (.int p5)] [v0, (.ref a1)]))
  obtain ⟨T2, h2, X2, e2, W2, st2⟩ := putF X1 hx hZ hown (host := "") (Or.inl (hw _ (List.mem_of_getElem? (i := 46) rfl))) Via.refl eh1 p_Fld_a1_name p_Exa_a1 (Or.inr ⟨(hw _ (List.mem_of_getElem? (i := 47) rfl)), rfl, hnm⟩) (hw _ (List.mem_of_getElem? (i := 35) rfl)) (ty := (.object "java/lang/String")) (by decide) (own_narrow_ref r_v0 rfl) (own_fits_ref r_v0 rfl) (g := (mkF m 6 #[.val (.ref a1), .val v0, .val v1, .val v2, .val v3, .val (.int p5)] [v0, (.ref a1)])) rfl rfl (hb hby d_prog_50_method_2_code_6)
  have N2 := Fr.snoc X2 N1 ge1
  have Fw2 : Fld Z h2 a1 "com/example/corbel/corbel/Options$Option" "name" "Ljava/lang/String;" v0 := p_Fld_a1_name.same W2
  refine Ends.step st2 ?_
  show Ends _ _ _ _ (T2.setTop (mkF m 9 #[.val (.ref a1), .val v0, .val v1, .val v2, .val v3, .val (.int p5)] []))
  refine Ends.step (fun t k => XS.aloadN X2.here hx rfl (hb hby d_prog_50_method_2_code_9) rfl rfl k) ?_
  show Ends _ _ _ _ (T2.setTop (mkF m 10 #[.val (.ref a1), .val v0, .val v1, .val v2, .val v3, .val (.int p5)] [(.ref a1)]))
  refine Ends.step (fun t k => XS.aloadN X2.here hx rfl (hb hby d_prog_50_method_2_code_10) rfl r_v1 k) ?_
  show Ends _ _ _ _ (T2.setTop (mkF m 11 #[.val (.ref a1), .val v0, .val v1, .val v2, .val v3, .val (.int p5)] [v1, (.ref a1)]))
  have F3 : Exa Z h2 a1 "com/example/corbel/corbel/Options$Option" := (p_Exa_a1.wr W2)
  have F4 : Fld Z h2 a1 "com/example/corbel/corbel/Options$Option" "value" "Ljava/lang/String;" .null := (p_Fld_a1_value.other W2 (Or.inr (sn_com_example_corbel_corbel_Options_Option_value__name hw)))
  obtain ⟨T5, h5, X5, e5, W5, st5⟩ := putF X2 hx hZ hown (host := "") (Or.inl (hw _ (List.mem_of_getElem? (i := 48) rfl))) Via.refl e2 F4 F3 (Or.inr ⟨(hw _ (List.mem_of_getElem? (i := 49) rfl)), rfl, hnm⟩) (hw _ (List.mem_of_getElem? (i := 35) rfl)) (ty := (.object "java/lang/String")) (by decide) (own_narrow_ref r_v1 rfl) (own_fits_ref r_v1 rfl) (g := (mkF m 11 #[.val (.ref a1), .val v0, .val v1, .val v2, .val v3, .val (.int p5)] [v1, (.ref a1)])) rfl rfl (hb hby d_prog_50_method_2_code_11)
  have N5 := Fr.snoc X5 N2 ge1
  have Fw5 : Fld Z h5 a1 "com/example/corbel/corbel/Options$Option" "value" "Ljava/lang/String;" v1 := F4.same W5
  refine Ends.step st5 ?_
  show Ends _ _ _ _ (T5.setTop (mkF m 14 #[.val (.ref a1), .val v0, .val v1, .val v2, .val v3, .val (.int p5)] []))
  refine Ends.step (fun t k => XS.aloadN X5.here hx rfl (hb hby d_prog_50_method_2_code_14) rfl rfl k) ?_
  show Ends _ _ _ _ (T5.setTop (mkF m 15 #[.val (.ref a1), .val v0, .val v1, .val v2, .val v3, .val (.int p5)] [(.ref a1)]))
  refine Ends.step (fun t k => XS.aloadN X5.here hx rfl (hb hby d_prog_50_method_2_code_15) rfl r_v2 k) ?_
  show Ends _ _ _ _ (T5.setTop (mkF m 16 #[.val (.ref a1), .val v0, .val v1, .val v2, .val v3, .val (.int p5)] [v2, (.ref a1)]))
  have F6 : Exa Z h5 a1 "com/example/corbel/corbel/Options$Option" := (F3.wr W5)
  have F7 : Fld Z h5 a1 "com/example/corbel/corbel/Options$Option" "meaning" "Ljava/lang/String;" .null := ((p_Fld_a1_meaning.other W2 (Or.inr (sn_com_example_corbel_corbel_Options_Option_meaning__name hw))).other W5 (Or.inr (sn_com_example_corbel_corbel_Options_Option_meaning__value hw)))
  obtain ⟨T8, h8, X8, e8, W8, st8⟩ := putF X5 hx hZ hown (host := "") (Or.inl (hw _ (List.mem_of_getElem? (i := 50) rfl))) Via.refl e5 F7 F6 (Or.inr ⟨(hw _ (List.mem_of_getElem? (i := 51) rfl)), rfl, hnm⟩) (hw _ (List.mem_of_getElem? (i := 35) rfl)) (ty := (.object "java/lang/String")) (by decide) (own_narrow_ref r_v2 rfl) (own_fits_ref r_v2 rfl) (g := (mkF m 16 #[.val (.ref a1), .val v0, .val v1, .val v2, .val v3, .val (.int p5)] [v2, (.ref a1)])) rfl rfl (hb hby d_prog_50_method_2_code_16)
  have N8 := Fr.snoc X8 N5 ge1
  have Fw8 : Fld Z h8 a1 "com/example/corbel/corbel/Options$Option" "meaning" "Ljava/lang/String;" v2 := F7.same W8
  refine Ends.step st8 ?_
  show Ends _ _ _ _ (T8.setTop (mkF m 19 #[.val (.ref a1), .val v0, .val v1, .val v2, .val v3, .val (.int p5)] []))
  refine Ends.step (fun t k => XS.aloadN X8.here hx rfl (hb hby d_prog_50_method_2_code_19) rfl rfl k) ?_
  show Ends _ _ _ _ (T8.setTop (mkF m 20 #[.val (.ref a1), .val v0, .val v1, .val v2, .val v3, .val (.int p5)] [(.ref a1)]))
  refine Ends.step (fun t k => XS.aload X8.here hx rfl (hb hby d_prog_50_method_2_code_20) rfl r_v3 k) ?_
  show Ends _ _ _ _ (T8.setTop (mkF m 22 #[.val (.ref a1), .val v0, .val v1, .val v2, .val v3, .val (.int p5)] [v3, (.ref a1)]))
  have F9 : Exa Z h8 a1 "com/example/corbel/corbel/Options$Option" := (F6.wr W8)
  have F10 : Fld Z h8 a1 "com/example/corbel/corbel/Options$Option" "fallback" "Ljava/lang/String;" .null := (((p_Fld_a1_fallback.other W2 (Or.inr (sn_com_example_corbel_corbel_Options_Option_fallback__name hw))).other W5 (Or.inr (sn_com_example_corbel_corbel_Options_Option_fallback__value hw))).other W8 (Or.inr (sn_com_example_corbel_corbel_Options_Option_fallback__meaning hw)))
  obtain ⟨T11, h11, X11, e11, W11, st11⟩ := putF X8 hx hZ hown (host := "") (Or.inl (hw _ (List.mem_of_getElem? (i := 52) rfl))) Via.refl e8 F10 F9 (Or.inr ⟨(hw _ (List.mem_of_getElem? (i := 53) rfl)), rfl, hnm⟩) (hw _ (List.mem_of_getElem? (i := 35) rfl)) (ty := (.object "java/lang/String")) (by decide) (own_narrow_ref r_v3 rfl) (own_fits_ref r_v3 rfl) (g := (mkF m 22 #[.val (.ref a1), .val v0, .val v1, .val v2, .val v3, .val (.int p5)] [v3, (.ref a1)])) rfl rfl (hb hby d_prog_50_method_2_code_22)
  have N11 := Fr.snoc X11 N8 ge1
  have Fw11 : Fld Z h11 a1 "com/example/corbel/corbel/Options$Option" "fallback" "Ljava/lang/String;" v3 := F10.same W11
  refine Ends.step st11 ?_
  show Ends _ _ _ _ (T11.setTop (mkF m 25 #[.val (.ref a1), .val v0, .val v1, .val v2, .val v3, .val (.int p5)] []))
  refine Ends.step (fun t k => XS.aloadN X11.here hx rfl (hb hby d_prog_50_method_2_code_25) rfl rfl k) ?_
  show Ends _ _ _ _ (T11.setTop (mkF m 26 #[.val (.ref a1), .val v0, .val v1, .val v2, .val v3, .val (.int p5)] [(.ref a1)]))
  refine Ends.step (fun t k => XS.iload X11.here hx rfl (hb hby d_prog_50_method_2_code_26) rfl k) ?_
  show Ends _ _ _ _ (T11.setTop (mkF m 28 #[.val (.ref a1), .val v0, .val v1, .val v2, .val v3, .val (.int p5)] [(.int p5), (.ref a1)]))
  have F12 : Exa Z h11 a1 "com/example/corbel/corbel/Options$Option" := (F9.wr W11)
  have F13 : Fld Z h11 a1 "com/example/corbel/corbel/Options$Option" "required" "Z" (.int (0 : Int32)) := ((((p_Fld_a1_required.other W2 (Or.inr (sn_com_example_corbel_corbel_Options_Option_required__name hw))).other W5 (Or.inr (sn_com_example_corbel_corbel_Options_Option_required__value hw))).other W8 (Or.inr (sn_com_example_corbel_corbel_Options_Option_required__meaning hw))).other W11 (Or.inr (sn_com_example_corbel_corbel_Options_Option_required__fallback hw)))
  obtain ⟨T14, h14, X14, e14, W14, st14⟩ := putFN X11 hx hZ hown (hw _ (List.mem_of_getElem? (i := 54) rfl)) Via.refl e11 F13 F12 (Or.inr ⟨(hw _ (List.mem_of_getElem? (i := 55) rfl)), rfl, hnm⟩) (hw _ (List.mem_of_getElem? (i := 35) rfl)) (ty := .boolean) (v' := (.int (nar .boolean p5))) (by decide) rfl (fits_nar_bool _) (g := (mkF m 28 #[.val (.ref a1), .val v0, .val v1, .val v2, .val v3, .val (.int p5)] [(.int p5), (.ref a1)])) rfl rfl (hb hby d_prog_50_method_2_code_28)
  have N14 := Fr.snoc X14 N11 ge1
  have Fw14 : Fld Z h14 a1 "com/example/corbel/corbel/Options$Option" "required" "Z" (.int (nar .boolean p5)) := F13.same W14
  refine Ends.step st14 ?_
  show Ends _ _ _ _ (T14.setTop (mkF m 31 #[.val (.ref a1), .val v0, .val v1, .val v2, .val v3, .val (.int p5)] []))
  have F15 : Exa Z h14 a1 "com/example/corbel/corbel/Options$Option" := (F12.wr W14)
  have F16 : Fld Z h14 a1 "com/example/corbel/corbel/Options$Option" "name" "Ljava/lang/String;" v0 := ((((Fw2.other W5 (Or.inr (sn_com_example_corbel_corbel_Options_Option_name__value hw))).other W8 (Or.inr (sn_com_example_corbel_corbel_Options_Option_name__meaning hw))).other W11 (Or.inr (sn_com_example_corbel_corbel_Options_Option_name__fallback hw))).other W14 (Or.inr (sn_com_example_corbel_corbel_Options_Option_name__required hw)))
  have F17 : Fld Z h14 a1 "com/example/corbel/corbel/Options$Option" "value" "Ljava/lang/String;" v1 := (((Fw5.other W8 (Or.inr (sn_com_example_corbel_corbel_Options_Option_value__meaning hw))).other W11 (Or.inr (sn_com_example_corbel_corbel_Options_Option_value__fallback hw))).other W14 (Or.inr (sn_com_example_corbel_corbel_Options_Option_value__required hw)))
  have F18 : Fld Z h14 a1 "com/example/corbel/corbel/Options$Option" "meaning" "Ljava/lang/String;" v2 := ((Fw8.other W11 (Or.inr (sn_com_example_corbel_corbel_Options_Option_meaning__fallback hw))).other W14 (Or.inr (sn_com_example_corbel_corbel_Options_Option_meaning__required hw)))
  have F19 : Fld Z h14 a1 "com/example/corbel/corbel/Options$Option" "fallback" "Ljava/lang/String;" v3 := (Fw11.other W14 (Or.inr (sn_com_example_corbel_corbel_Options_Option_fallback__required hw)))
  exact own_finV X14 hx hlk Bd.returns (hb hby d_prog_50_method_2_code_31) e14 (K := _) ⟨rfl, N14, ((((((Keep.refl h0 [a1]).wr W2 (Or.inl (List.mem_of_getElem? (i := 0) rfl))).wr W5 (Or.inl (List.mem_of_getElem? (i := 0) rfl))).wr W8 (Or.inl (List.mem_of_getElem? (i := 0) rfl))).wr W11 (Or.inl (List.mem_of_getElem? (i := 0) rfl))).wr W14 (Or.inl (List.mem_of_getElem? (i := 0) rfl))), F15, F16, F17, F18, F19⟩ (by decide) (by decide)
def QrmTkN (Z : State) (a1 : Addr) (h0 : Heap) (n0 : Nat) (v : Option Value) (h : Heap) (L : List Loc) : Prop := v = some (.int (0 : Int32)) ∧ Fr n0 L ∧ h = h0
theorem ef_rmTkN (m : MethodId) (a1 : Addr)  : entryFrame m #[(.ref a1)] 1 = mkF m 0 #[.val (.ref a1)] [] := by first | (simp [entryFrame, mkF, argsToLocals, maxLocals, Value.category]; done) | rfl
set_option maxRecDepth 65536 in
set_option maxHeartbeats 40000000 in
theorem rmTkN (l : Launch) (Z : State) (a0 : Array Value) (hw : ∀ d ∈ tables_1, d.before a0 Z = true) (ws : List Jvm.Cond) (a1 : Addr) (h0 : Heap) (n0 : Nat) (Z0 : n0 ≤ h0.size) (G1 : Int32) (O2 : Sta Z Z.heap "java/lang/String" "COMPACT_STRINGS" "Z" (.int G1)) (P5 : ¬ (G1 = (0 : Int32))) (X00 : Old Z n0 h0) (p_Fld_a1_value : Fld Z h0 a1 "com/example/corbel/corbel/Options$Option" "value" "Ljava/lang/String;" .null) :
    MetFree l (⟨"com/example/corbel/corbel/Options$Option", "takesValue", "()Z"⟩ : MethodName) (head1 (Jvm.Cond.code (⟨"com/example/corbel/corbel/Options$Option", "takesValue", "()Z"⟩ : MethodName) prog_50_method_6_code 1 (Option.some Jvm.ClassFile.FieldType.boolean) :: ws) ({ frames := 0, cells := 0, slots := 0, locals := 0 } : Room)) (fun a U => a = #[(.ref a1)] ∧ Z.Warmed39 U.vm ∧ U.heap = h0) (fun _ _ _ _ _ => True) (fun _ U o U' => ∃ v L, o = .returned v ∧ QrmTkN Z a1 h0 n0 v U'.heap L ∧ FrameEnd U o U' L ({ frames := 0, cells := 0, slots := 0, locals := 0 } : Room).cells ({ frames := 0, cells := 0, slots := 0, locals := 0 } : Room).slots) := by
  refine MetFree.of_bodySF (plainFor_of_name pn_com_example_corbel_corbel_Options_Option) hisR ?_
  intro p e s m args below meth c s₁ Bd hml0 hP hK
  obtain ⟨rfl, hZ, hh⟩ := hP
  have hx := Bd.exec
  have hby := Bd.bytes
  have hml : c.maxLocals = 1 := hml0
  have hown : s.vm.findClass "com/example/corbel/corbel/Options$Option" = some m.cls := findClass_of_methodNamed Bd.named
  have hnm := (name_of_methodNamed Bd.named Bd.method).1
  have hlk : meth.locks = false := BodyLoose.notSynchronized Bd
  have X0 : Stand p l e ({ frames := 0, cells := 0, slots := 0, locals := 0 } : Room) s m #[(.ref a1)] below meth c s₁ [] 0 0 := Stand.of_body Bd
  have e0 : s₁.heap = h0 := by rw [← hh, Bd.state]; rfl
  have N0 := Fr.nil n0
  show Ends p.tables e below (fun o U' => ∃ v L, o = .returned v ∧ QrmTkN Z a1 h0 n0 v U'.heap L ∧ FrameEnd s o U' L ({ frames := 0, cells := 0, slots := 0, locals := 0 } : Room).cells ({ frames := 0, cells := 0, slots := 0, locals := 0 } : Room).slots) (s₁.setTop (entryFrame m #[(.ref a1)] 1))
  refine Ends.step (fun t k => castTop (ef_rmTkN m a1 ) k) ?_
  show Ends _ _ _ _ (s₁.setTop (mkF m 0 #[.val (.ref a1)] []))
  refine Ends.step (fun t k => XS.aloadN X0.here hx rfl (hb hby d_prog_50_method_6_code_0) rfl rfl k) ?_
  show Ends _ _ _ _ (s₁.setTop (mkF m 1 #[.val (.ref a1)] [(.ref a1)]))
  obtain ⟨T1, X1, e1, st1⟩ := getF X0 hx hZ hown (host := "") (Or.inl (hw _ (List.mem_of_getElem? (i := 48) rfl))) Via.refl e0 p_Fld_a1_value (g := (mkF m 1 #[.val (.ref a1)] [(.ref a1)])) rfl rfl (hb hby d_prog_50_method_6_code_1)
  refine Ends.step st1 ?_
  show Ends _ _ _ _ (T1.setTop (mkF m 4 #[.val (.ref a1)] [.null]))
  refine Ends.step (fun t k => XS.ifnullYes X1.here hx rfl (pc0 := 4) (pc' := 11) rfl (hb hby d_prog_50_method_6_code_4) rfl (by decide) (by decide) k) ?_
  show Ends _ _ _ _ (T1.setTop (mkF m 11 #[.val (.ref a1)] []))
  refine Ends.step (fun t k => XS.iconst X1.here hx rfl (hb hby d_prog_50_method_6_code_11) k) ?_
  show Ends _ _ _ _ (T1.setTop (mkF m 12 #[.val (.ref a1)] [(.int (0 : Int32))]))
  exact own_finI X1 hx hlk (t := .boolean) Bd.returns (by simp) rfl (hb hby d_prog_50_method_6_code_12) e1 ⟨rfl, N0, rfl⟩ (by decide) (by decide)
def QrmTkR (Z : State) (a1 : Addr) (a2 : Addr) (h0 : Heap) (n0 : Nat) (v : Option Value) (h : Heap) (L : List Loc) : Prop := v = some (.int (1 : Int32)) ∧ Fr n0 L ∧ h = h0
theorem ef_rmTkR (m : MethodId) (a1 : Addr)  : entryFrame m #[(.ref a1)] 1 = mkF m 0 #[.val (.ref a1)] [] := by first | (simp [entryFrame, mkF, argsToLocals, maxLocals, Value.category]; done) | rfl
set_option maxRecDepth 65536 in
set_option maxHeartbeats 40000000 in
theorem rmTkR (l : Launch) (Z : State) (a0 : Array Value) (hw : ∀ d ∈ tables_1, d.before a0 Z = true) (ws : List Jvm.Cond) (a1 : Addr) (a2 : Addr) (h0 : Heap) (n0 : Nat) (Z0 : n0 ≤ h0.size) (G1 : Int32) (O2 : Sta Z Z.heap "java/lang/String" "COMPACT_STRINGS" "Z" (.int G1)) (P5 : ¬ (G1 = (0 : Int32))) (X00 : Old Z n0 h0) (p_Fld_a1_value : Fld Z h0 a1 "com/example/corbel/corbel/Options$Option" "value" "Ljava/lang/String;" (.ref a2)) :
    MetFree l (⟨"com/example/corbel/corbel/Options$Option", "takesValue", "()Z"⟩ : MethodName) (head1 (Jvm.Cond.code (⟨"com/example/corbel/corbel/Options$Option", "takesValue", "()Z"⟩ : MethodName) prog_50_method_6_code 1 (Option.some Jvm.ClassFile.FieldType.boolean) :: ws) ({ frames := 0, cells := 0, slots := 0, locals := 0 } : Room)) (fun a U => a = #[(.ref a1)] ∧ Z.Warmed39 U.vm ∧ U.heap = h0) (fun _ _ _ _ _ => True) (fun _ U o U' => ∃ v L, o = .returned v ∧ QrmTkR Z a1 a2 h0 n0 v U'.heap L ∧ FrameEnd U o U' L ({ frames := 0, cells := 0, slots := 0, locals := 0 } : Room).cells ({ frames := 0, cells := 0, slots := 0, locals := 0 } : Room).slots) := by
  refine MetFree.of_bodySF (plainFor_of_name pn_com_example_corbel_corbel_Options_Option) hisR ?_
  intro p e s m args below meth c s₁ Bd hml0 hP hK
  obtain ⟨rfl, hZ, hh⟩ := hP
  have hx := Bd.exec
  have hby := Bd.bytes
  have hml : c.maxLocals = 1 := hml0
  have hown : s.vm.findClass "com/example/corbel/corbel/Options$Option" = some m.cls := findClass_of_methodNamed Bd.named
  have hnm := (name_of_methodNamed Bd.named Bd.method).1
  have hlk : meth.locks = false := BodyLoose.notSynchronized Bd
  have X0 : Stand p l e ({ frames := 0, cells := 0, slots := 0, locals := 0 } : Room) s m #[(.ref a1)] below meth c s₁ [] 0 0 := Stand.of_body Bd
  have e0 : s₁.heap = h0 := by rw [← hh, Bd.state]; rfl
  have N0 := Fr.nil n0
  show Ends p.tables e below (fun o U' => ∃ v L, o = .returned v ∧ QrmTkR Z a1 a2 h0 n0 v U'.heap L ∧ FrameEnd s o U' L ({ frames := 0, cells := 0, slots := 0, locals := 0 } : Room).cells ({ frames := 0, cells := 0, slots := 0, locals := 0 } : Room).slots) (s₁.setTop (entryFrame m #[(.ref a1)] 1))
  refine Ends.step (fun t k => castTop (ef_rmTkR m a1 ) k) ?_
  show Ends _ _ _ _ (s₁.setTop (mkF m 0 #[.val (.ref a1)] []))
  refine Ends.step (fun t k => XS.aloadN X0.here hx rfl (hb hby d_prog_50_method_6_code_0) rfl rfl k) ?_
  show Ends _ _ _ _ (s₁.setTop (mkF m 1 #[.val (.ref a1)] [(.ref a1)]))
  obtain ⟨T1, X1, e1, st1⟩ := getF X0 hx hZ hown (host := "") (Or.inl (hw _ (List.mem_of_getElem? (i := 48) rfl))) Via.refl e0 p_Fld_a1_value (g := (mkF m 1 #[.val (.ref a1)] [(.ref a1)])) rfl rfl (hb hby d_prog_50_method_6_code_1)
  refine Ends.step st1 ?_
  show Ends _ _ _ _ (T1.setTop (mkF m 4 #[.val (.ref a1)] [(.ref a2)]))
  refine Ends.step (fun t k => XS.ifnullNo X1.here hx rfl (hb hby d_prog_50_method_6_code_4) rfl k) ?_
  show Ends _ _ _ _ (T1.setTop (mkF m 7 #[.val (.ref a1)] []))
  refine Ends.step (fun t k => XS.iconst X1.here hx rfl (hb hby d_prog_50_method_6_code_7) k) ?_
  show Ends _ _ _ _ (T1.setTop (mkF m 8 #[.val (.ref a1)] [(.int (1 : Int32))]))
  refine Ends.step (fun t k => XS.goto X1.here hx rfl (pc0 := 8) (pc' := 12) rfl (hb hby d_prog_50_method_6_code_8) (by decide) (by decide) k) ?_
  show Ends _ _ _ _ (T1.setTop (mkF m 12 #[.val (.ref a1)] [(.int (1 : Int32))]))
  exact own_finI X1 hx hlk (t := .boolean) Bd.returns (by simp) rfl (hb hby d_prog_50_method_6_code_12) e1 ⟨rfl, N0, rfl⟩ (by decide) (by decide)
def QrmFl (Z : State) (a1 : Addr) (a2 : Addr) (h0 : Heap) (n0 : Nat) (v : Option Value) (h : Heap) (L : List Loc) : Prop := ∃ x : Addr, v = some (.ref x) ∧ Fr n0 L ∧ Keep h0 h [] ∧ (h0.size ≤ x) ∧ (Exa Z h x "com/example/corbel/corbel/Options$Option") ∧ (Fld Z h x "com/example/corbel/corbel/Options$Option" "value" "Ljava/lang/String;" .null)
theorem ef_rmFl (m : MethodId) (a1 : Addr) (a2 : Addr)  : entryFrame m #[(.ref a1), (.ref a2)] 2 = mkF m 0 #[.val (.ref a1), .val (.ref a2)] [] := by first | (simp [entryFrame, mkF, argsToLocals, maxLocals, Value.category]; done) | rfl
set_option maxRecDepth 65536 in
set_option maxHeartbeats 40000000 in
theorem rmFl (l : Launch) (Z : State) (a0 : Array Value) (hw : ∀ d ∈ tables_1, d.before a0 Z = true) (ws : List Jvm.Cond) (a1 : Addr) (a2 : Addr) (h0 : Heap) (n0 : Nat) (Z0 : n0 ≤ h0.size) (G1 : Int32) (O2 : Sta Z Z.heap "java/lang/String" "COMPACT_STRINGS" "Z" (.int G1)) (P5 : ¬ (G1 = (0 : Int32))) (X00 : Old Z n0 h0)  :
    MetFree l (⟨"com/example/corbel/corbel/Options$Option", "flag", "(Ljava/lang/String;Ljava/lang/String;)Lcom/example/corbel/corbel/Options$Option;"⟩ : MethodName) (head1 (Jvm.Cond.code (⟨"com/example/corbel/corbel/Options$Option", "flag", "(Ljava/lang/String;Ljava/lang/String;)Lcom/example/corbel/corbel/Options$Option;"⟩ : MethodName) prog_50_method_5_code 2 (Option.some (Jvm.ClassFile.FieldType.object "com/example/corbel/corbel/Options$Option")) :: ws) ({ frames := 3, cells := 1, slots := 5, locals := 42 } : Room)) (fun a U => a = #[(.ref a1), (.ref a2)] ∧ Z.Warmed39 U.vm ∧ U.heap = h0) (fun _ _ _ _ _ => True) (fun _ U o U' => ∃ v L, o = .returned v ∧ QrmFl Z a1 a2 h0 n0 v U'.heap L ∧ FrameEnd U o U' L ({ frames := 3, cells := 1, slots := 5, locals := 42 } : Room).cells ({ frames := 3, cells := 1, slots := 5, locals := 42 } : Room).slots) := by
  refine MetFree.of_bodySF (plainFor_of_name pn_com_example_corbel_corbel_Options_Option) hisR ?_
  intro p e s m args below meth c s₁ Bd hml0 hP hK
  obtain ⟨rfl, hZ, hh⟩ := hP
  have hx := Bd.exec
  have hby := Bd.bytes
  have hml : c.maxLocals = 2 := hml0
  have hown : s.vm.findClass "com/example/corbel/corbel/Options$Option" = some m.cls := findClass_of_methodNamed Bd.named
  have hnm := (name_of_methodNamed Bd.named Bd.method).1
  have hlk : meth.locks = false := BodyLoose.notSynchronized Bd
  have X0 : Stand p l e ({ frames := 3, cells := 1, slots := 5, locals := 42 } : Room) s m #[(.ref a1), (.ref a2)] below meth c s₁ [] 0 0 := Stand.of_body Bd
  have e0 : s₁.heap = h0 := by rw [← hh, Bd.state]; rfl
  have N0 := Fr.nil n0
  show Ends p.tables e below (fun o U' => ∃ v L, o = .returned v ∧ QrmFl Z a1 a2 h0 n0 v U'.heap L ∧ FrameEnd s o U' L ({ frames := 3, cells := 1, slots := 5, locals := 42 } : Room).cells ({ frames := 3, cells := 1, slots := 5, locals := 42 } : Room).slots) (s₁.setTop (entryFrame m #[(.ref a1), (.ref a2)] 2))
  refine Ends.step (fun t k => castTop (ef_rmFl m a1 a2 ) k) ?_
  show Ends _ _ _ _ (s₁.setTop (mkF m 0 #[.val (.ref a1), .val (.ref a2)] []))
  obtain ⟨T1, h1, X1, e1, E1, A1, D1, -, st1⟩ := newO X0 hx hZ hown (hw _ (List.mem_of_getElem? (i := 64) rfl)) (hw _ (List.mem_of_getElem? (i := 35) rfl)) (hw _ (List.mem_of_getElem? (i := 36) rfl)) e0 (g := (mkF m 0 #[.val (.ref a1), .val (.ref a2)] [])) rfl (hb hby d_prog_50_method_5_code_0) (by decide) (by decide)
  obtain ⟨b1, g1⟩ : ∃ z, z = h0.size := ⟨_, rfl⟩
  rw [← g1] at A1 D1 st1
  refine Ends.step st1 ?_
  show Ends _ _ _ _ (T1.setTop (mkF m 3 #[.val (.ref a1), .val (.ref a2)] [(.ref b1)]))
  refine Ends.step (fun t k => XS.dup X1.here hx rfl (hb hby d_prog_50_method_5_code_3) rfl rfl k) ?_
  show Ends _ _ _ _ (T1.setTop (mkF m 4 #[.val (.ref a1), .val (.ref a2)] [(.ref b1), (.ref b1)]))
  refine Ends.step (fun t k => XS.aloadN X1.here hx rfl (hb hby d_prog_50_method_5_code_4) rfl rfl k) ?_
  show Ends _ _ _ _ (T1.setTop (mkF m 5 #[.val (.ref a1), .val (.ref a2)] [(.ref a1), (.ref b1), (.ref b1)]))
  refine Ends.step (fun t k => XS.aconstNull X1.here hx rfl (hb hby d_prog_50_method_5_code_5) k) ?_
  show Ends _ _ _ _ (T1.setTop (mkF m 6 #[.val (.ref a1), .val (.ref a2)] [.null, (.ref a1), (.ref b1), (.ref b1)]))
  refine Ends.step (fun t k => XS.aloadN X1.here hx rfl (hb hby d_prog_50_method_5_code_6) rfl rfl k) ?_
  show Ends _ _ _ _ (T1.setTop (mkF m 7 #[.val (.ref a1), .val (.ref a2)] [(.ref a2), .null, (.ref a1), (.ref b1), (.ref b1)]))
  refine Ends.step (fun t k => XS.aconstNull X1.here hx rfl (hb hby d_prog_50_method_5_code_7) k) ?_
  show Ends _ _ _ _ (T1.setTop (mkF m 8 #[.val (.ref a1), .val (.ref a2)] [.null, (.ref a2), .null, (.ref a1), (.ref b1), (.ref b1)]))
  refine Ends.step (fun t k => XS.iconst X1.here hx rfl (hb hby d_prog_50_method_5_code_8) k) ?_
  show Ends _ _ _ _ (T1.setTop (mkF m 9 #[.val (.ref a1), .val (.ref a2)] [(.int (0 : Int32)), .null, (.ref a2), .null, (.ref a1), (.ref b1), (.ref b1)]))
  have F2 : Old Z n0 h1 := (X00.ext E1)
  obtain ⟨_, _, ⟨T3, L3, k3, n3⟩, -, X3, ⟨Lc3, hQ3, l3, y3, z3⟩, st3⟩ := X1.specialBack hx (y := (⟨"com/example/corbel/corbel/Options$Option", "<init>", "(Ljava/lang/String;Ljava/lang/String;Ljava/lang/String;Ljava/lang/String;Z)V"⟩ : MethodName)) rfl hown (mvT hZ (hw _ (List.mem_of_getElem? (i := 65) rfl))) (mvT hZ (hw _ (List.mem_of_getElem? (i := 38) rfl))) (mvT hZ (hw _ (List.mem_of_getElem? (i := 39) rfl))) (by decide) (backOf (W := 1) (rmOI l Z a0 hw [] b1 (.ref a1) .null (.ref a2) .null (0 : Int32) h1 n0 (Nat.le_trans Z0 E1.1) G1 O2 P5 F2 rfl rfl rfl rfl A1 (D1 (Or.inr (hw _ (List.mem_of_getElem? (i := 47) rfl))) (ty := (.object "java/lang/String")) (by decide)) (D1 (Or.inr (hw _ (List.mem_of_getElem? (i := 49) rfl))) (ty := (.object "java/lang/String")) (by decide)) (D1 (Or.inr (hw _ (List.mem_of_getElem? (i := 51) rfl))) (ty := (.object "java/lang/String")) (by decide)) (D1 (Or.inr (hw _ (List.mem_of_getElem? (i := 53) rfl))) (ty := (.object "java/lang/String")) (by decide)) (D1 (Or.inr (hw _ (List.mem_of_getElem? (i := 55) rfl))) (ty := .boolean) (by decide)) (Nat.le_trans (Nat.le_trans Z0 (Nat.le_refl _)) (Nat.le_of_eq g1.symm))) hZ (hw _ (List.mem_of_getElem? (i := 39) rfl)) (hw _ (List.mem_of_getElem? (i := 36) rfl)) (by decide) (by decide)) (g := (mkF m 9 #[.val (.ref a1), .val (.ref a2)] [(.int (0 : Int32)), .null, (.ref a2), .null, (.ref a1), (.ref b1), (.ref b1)])) rfl (by rw [hml]; rfl) (Steps.refl _) (a := b1) (argsL := [(.ref a1), .null, (.ref a2), .null, (.int (0 : Int32))]) (rest := [(.ref b1)]) (lenOf pd_2 rfl) rfl (by show 2 * 0 + _ ≤ _; exact Nat.le_of_eq rfl) (hb hby d_prog_50_method_5_code_9) (fun _ _ => ⟨rfl, e1, (by decide : 1 + 0 ≤ _), (by decide : 5 + 0 ≤ _)⟩)
  dsimp only [Pt.U, Pt.locs, Pt.cells, Pt.slots] at X3 l3 y3 z3 st3 hQ3
  subst l3 y3 z3
  obtain ⟨rfl, Nq3, K3, f3_0, f3_1, f3_2, f3_3, f3_4⟩ := hQ3
  have N3 := Fr.app N0 Nq3
  refine Ends.go st3 ?_
  have K4 : Keep h0 T3.heap [] := (((Keep.refl h0 []).ext E1).trans K3 (allS (Or.inr (Nat.le_trans (Nat.le_refl _) (Nat.le_of_eq g1.symm))) all0))
  show Ends _ _ _ _ (T3.setTop (mkF m 12 #[.val (.ref a1), .val (.ref a2)] [(.ref b1)]))
  exact own_finR X3 hx hlk Bd.returns rfl rfl (hb hby d_prog_50_method_5_code_12) rfl ⟨b1, rfl, N3, ((Keep.refl h0 []).trans K4 all0), (Nat.le_trans (Nat.le_refl _) (Nat.le_of_eq g1.symm)), f3_0, f3_2⟩ (by decide) (by decide)
def QrmOpt (Z : State) (v1 : Value) (v2 : Value) (v3 : Value) (h0 : Heap) (n0 : Nat) (v : Option Value) (h : Heap) (L : List Loc) : Prop := ∃ x : Addr, v = some (.ref x) ∧ Fr n0 L ∧ Keep h0 h [] ∧ (h0.size ≤ x) ∧ (Exa Z h x "com/example/corbel/corbel/Options$Option") ∧ (Fld Z h x "com/example/corbel/corbel/Options$Option" "value" "Ljava/lang/String;" v2)
theorem ef_rmOpt (m : MethodId) (v1 : Value) (v2 : Value) (v3 : Value) (r_v1 : Value.isRef v1 = true) (r_v2 : Value.isRef v2 = true) (r_v3 : Value.isRef v3 = true) : entryFrame m #[v1, v2, v3] 3 = mkF m 0 #[.val v1, .val v2, .val v3] [] := by first | (simp [entryFrame, mkF, argsToLocals, maxLocals, own_cR, own_cI, own_cN, own_cJ, XT.cat1 r_v1, XT.cat1 r_v2, XT.cat1 r_v3]; done) | rfl
set_option maxRecDepth 65536 in
set_option maxHeartbeats 40000000 in
theorem rmOpt (l : Launch) (Z : State) (a0 : Array Value) (hw : ∀ d ∈ tables_1, d.before a0 Z = true) (ws : List Jvm.Cond) (v1 : Value) (v2 : Value) (v3 : Value) (h0 : Heap) (n0 : Nat) (Z0 : n0 ≤ h0.size) (G1 : Int32) (O2 : Sta Z Z.heap "java/lang/String" "COMPACT_STRINGS" "Z" (.int G1)) (P5 : ¬ (G1 = (0 : Int32))) (X00 : Old Z n0 h0) (r_v1 : Value.isRef v1 = true) (r_v2 : Value.isRef v2 = true) (r_v3 : Value.isRef v3 = true) :
    MetFree l (⟨"com/example/corbel/corbel/Options$Option", "optional", "(Ljava/lang/String;Ljava/lang/String;Ljava/lang/String;)Lcom/example/corbel/corbel/Options$Option;"⟩ : MethodName) (head1 (Jvm.Cond.code (⟨"com/example/corbel/corbel/Options$Option", "optional", "(Ljava/lang/String;Ljava/lang/String;Ljava/lang/String;)Lcom/example/corbel/corbel/Options$Option;"⟩ : MethodName) prog_50_method_3_code 3 (Option.some (Jvm.ClassFile.FieldType.object "com/example/corbel/corbel/Options$Option")) :: ws) ({ frames := 3, cells := 1, slots := 5, locals := 42 } : Room)) (fun a U => a = #[v1, v2, v3] ∧ Z.Warmed39 U.vm ∧ U.heap = h0) (fun _ _ _ _ _ => True) (fun _ U o U' => ∃ v L, o = .returned v ∧ QrmOpt Z v1 v2 v3 h0 n0 v U'.heap L ∧ FrameEnd U o U' L ({ frames := 3, cells := 1, slots := 5, locals := 42 } : Room).cells ({ frames := 3, cells := 1, slots := 5, locals := 42 } : Room).slots) := by
  refine MetFree.of_bodySF (plainFor_of_name pn_com_example_corbel_corbel_Options_Option) hisR ?_
  intro p e s m args below meth c s₁ Bd hml0 hP hK
  obtain ⟨rfl, hZ, hh⟩ := hP
  have hx := Bd.exec
  have hby := Bd.bytes
  have hml : c.maxLocals = 3 := hml0
  have hown : s.vm.findClass "com/example/corbel/corbel/Options$Option" = some m.cls := findClass_of_methodNamed Bd.named
  have hnm := (name_of_methodNamed Bd.named Bd.method).1
  have hlk : meth.locks = false := BodyLoose.notSynchronized Bd
  have X0 : Stand p l e ({ frames := 3, cells := 1, slots := 5, locals := 42 } : Room) s m #[v1, v2, v3] below meth c s₁ [] 0 0 := Stand.of_body Bd
  have e0 : s₁.heap = h0 := by rw [← hh, Bd.state]; rfl
  have N0 := Fr.nil n0
  show Ends p.tables e below (fun o U' => ∃ v L, o = .returned v ∧ QrmOpt Z v1 v2 v3 h0 n0 v U'.heap L ∧ FrameEnd s o U' L ({ frames := 3, cells := 1, slots := 5, locals := 42 } : Room).cells ({ frames := 3, cells := 1, slots := 5, locals := 42 } : Room).slots) (s₁.setTop (entryFrame m #[v1, v2, v3] 3))
  refine Ends.step (fun t k => castTop (ef_rmOpt m v1 v2 v3 r_v1 r_v2 r_v3) k) ?_
  show Ends _ _ _ _ (s₁.setTop (mkF m 0 #[.val v1, .val v2, .val v3] []))
  obtain ⟨T1, h1, X1, e1, E1, A1, D1, -, st1⟩ := newO X0 hx hZ hown (hw _ (List.mem_of_getElem? (i := 64) rfl)) (hw _ (List.mem_of_getElem? (i := 35) rfl)) (hw _ (List.mem_of_getElem? (i := 36) rfl)) e0 (g := (mkF m 0 #[.val v1, .val v2, .val v3] [])) rfl (hb hby d_prog_50_method_3_code_0) (by decide) (by decide)
  obtain ⟨b1, g1⟩ : ∃ z, z = h0.size := ⟨_, rfl⟩
  rw [← g1] at A1 D1 st1
  refine Ends.step st1 ?_
  show Ends _ _ _ _ (T1.setTop (mkF m 3 #[.val v1, .val v2, .val v3] [(.ref b1)]))
  refine Ends.step (fun t k => XS.dup X1.here hx rfl (hb hby d_prog_50_method_3_code_3) rfl rfl k) ?_
  show Ends _ _ _ _ (T1.setTop (mkF m 4 #[.val v1, .val v2, .val v3] [(.ref b1), (.ref b1)]))
  refine Ends.step (fun t k => XS.aloadN X1.here hx rfl (hb hby d_prog_50_method_3_code_4) rfl r_v1 k) ?_
  show Ends _ _ _ _ (T1.setTop (mkF m 5 #[.val v1, .val v2, .val v3] [v1, (.ref b1), (.ref b1)]))
  refine Ends.step (fun t k => XS.aloadN X1.here hx rfl (hb hby d_prog_50_method_3_code_5) rfl r_v2 k) ?_
  show Ends _ _ _ _ (T1.setTop (mkF m 6 #[.val v1, .val v2, .val v3] [v2, v1, (.ref b1), (.ref b1)]))
  refine Ends.step (fun t k => XS.aloadN X1.here hx rfl (hb hby d_prog_50_method_3_code_6) rfl r_v3 k) ?_
  show Ends _ _ _ _ (T1.setTop (mkF m 7 #[.val v1, .val v2, .val v3] [v3, v2, v1, (.ref b1), (.ref b1)]))
  refine Ends.step (fun t k => XS.aconstNull X1.here hx rfl (hb hby d_prog_50_method_3_code_7) k) ?_
  show Ends _ _ _ _ (T1.setTop (mkF m 8 #[.val v1, .val v2, .val v3] [.null, v3, v2, v1, (.ref b1), (.ref b1)]))
  refine Ends.step (fun t k => XS.iconst X1.here hx rfl (hb hby d_prog_50_method_3_code_8) k) ?_
  show Ends _ _ _ _ (T1.setTop (mkF m 9 #[.val v1, .val v2, .val v3] [(.int (0 : Int32)), .null, v3, v2, v1, (.ref b1), (.ref b1)]))
  have F2 : Old Z n0 h1 := (X00.ext E1)
  obtain ⟨_, _, ⟨T3, L3, k3, n3⟩, -, X3, ⟨Lc3, hQ3, l3, y3, z3⟩, st3⟩ := X1.specialBack hx (y := (⟨"com/example/corbel/corbel/Options$Option", "<init>", "(Ljava/lang/String;Ljava/lang/String;Ljava/lang/String;Ljava/lang/String;Z)V"⟩ : MethodName)) rfl hown (mvT hZ (hw _ (List.mem_of_getElem? (i := 65) rfl))) (mvT hZ (hw _ (List.mem_of_getElem? (i := 38) rfl))) (mvT hZ (hw _ (List.mem_of_getElem? (i := 39) rfl))) (by decide) (backOf (W := 1) (rmOI l Z a0 hw [] b1 v1 v2 v3 .null (0 : Int32) h1 n0 (Nat.le_trans Z0 E1.1) G1 O2 P5 F2 r_v1 r_v2 r_v3 rfl A1 (D1 (Or.inr (hw _ (List.mem_of_getElem? (i := 47) rfl))) (ty := (.object "java/lang/String")) (by decide)) (D1 (Or.inr (hw _ (List.mem_of_getElem? (i := 49) rfl))) (ty := (.object "java/lang/String")) (by decide)) (D1 (Or.inr (hw _ (List.mem_of_getElem? (i := 51) rfl))) (ty := (.object "java/lang/String")) (by decide)) (D1 (Or.inr (hw _ (List.mem_of_getElem? (i := 53) rfl))) (ty := (.object "java/lang/String")) (by decide)) (D1 (Or.inr (hw _ (List.mem_of_getElem? (i := 55) rfl))) (ty := .boolean) (by decide)) (Nat.le_trans (Nat.le_trans Z0 (Nat.le_refl _)) (Nat.le_of_eq g1.symm))) hZ (hw _ (List.mem_of_getElem? (i := 39) rfl)) (hw _ (List.mem_of_getElem? (i := 36) rfl)) (by decide) (by decide)) (g := (mkF m 9 #[.val v1, .val v2, .val v3] [(.int (0 : Int32)), .null, v3, v2, v1, (.ref b1), (.ref b1)])) rfl (by rw [hml]; rfl) (Steps.refl _) (a := b1) (argsL := [v1, v2, v3, .null, (.int (0 : Int32))]) (rest := [(.ref b1)]) (lenOf pd_2 rfl) rfl (by show 2 * 0 + _ ≤ _; exact Nat.le_of_eq rfl) (hb hby d_prog_50_method_3_code_9) (fun _ _ => ⟨rfl, e1, (by decide : 1 + 0 ≤ _), (by decide : 5 + 0 ≤ _)⟩)
  dsimp only [Pt.U, Pt.locs, Pt.cells, Pt.slots] at X3 l3 y3 z3 st3 hQ3
  subst l3 y3 z3
  obtain ⟨rfl, Nq3, K3, f3_0, f3_1, f3_2, f3_3, f3_4⟩ := hQ3
  have N3 := Fr.app N0 Nq3
  refine Ends.go st3 ?_
  have K4 : Keep h0 T3.heap [] := (((Keep.refl h0 []).ext E1).trans K3 (allS (Or.inr (Nat.le_trans (Nat.le_refl _) (Nat.le_of_eq g1.symm))) all0))
  show Ends _ _ _ _ (T3.setTop (mkF m 12 #[.val v1, .val v2, .val v3] [(.ref b1)]))
  exact own_finR X3 hx hlk Bd.returns rfl rfl (hb hby d_prog_50_method_3_code_12) rfl ⟨b1, rfl, N3, ((Keep.refl h0 []).trans K4 all0), (Nat.le_trans (Nat.le_refl _) (Nat.le_of_eq g1.symm)), f3_0, f3_2⟩ (by decide) (by decide)
def QrmAs (Z : State) (a1 : Addr) (v1 : Value) (v2 : Value) (v3 : Value) (h0 : Heap) (n0 : Nat) (v : Option Value) (h : Heap) (L : List Loc) : Prop := ∃ x : Addr, v = some (.ref x) ∧ Fr n0 L ∧ Keep h0 h [] ∧ (h0.size ≤ x) ∧ (Exa Z h x "com/example/corbel/corbel/Options$Option") ∧ (Fld Z h x "com/example/corbel/corbel/Options$Option" "value" "Ljava/lang/String;" v2)
theorem ef_rmAs (m : MethodId) (a1 : Addr)  : entryFrame m #[(.ref a1)] 1 = mkF m 0 #[.val (.ref a1)] [] := by first | (simp [entryFrame, mkF, argsToLocals, maxLocals, Value.category]; done) | rfl
set_option maxRecDepth 65536 in
set_option maxHeartbeats 40000000 in
theorem rmAs (l : Launch) (Z : State) (a0 : Array Value) (hw : ∀ d ∈ tables_1, d.before a0 Z = true) (ws : List Jvm.Cond) (a1 : Addr) (v1 : Value) (v2 : Value) (v3 : Value) (h0 : Heap) (n0 : Nat) (Z0 : n0 ≤ h0.size) (G1 : Int32) (O2 : Sta Z Z.heap "java/lang/String" "COMPACT_STRINGS" "Z" (.int G1)) (P5 : ¬ (G1 = (0 : Int32))) (X00 : Old Z n0 h0) (p_Fld_a1_name : Fld Z h0 a1 "com/example/corbel/corbel/Options$Option" "name" "Ljava/lang/String;" v1) (p_Fld_a1_value : Fld Z h0 a1 "com/example/corbel/corbel/Options$Option" "value" "Ljava/lang/String;" v2) (p_Fld_a1_meaning : Fld Z h0 a1 "com/example/corbel/corbel/Options$Option" "meaning" "Ljava/lang/String;" v3) (r_v1 : Value.isRef v1 = true) (r_v2 : Value.isRef v2 = true) (r_v3 : Value.isRef v3 = true) :
    MetFree l (⟨"com/example/corbel/corbel/Options$Option", "asOptional", "()Lcom/example/corbel/corbel/Options$Option;"⟩ : MethodName) (head1 (Jvm.Cond.code (⟨"com/example/corbel/corbel/Options$Option", "asOptional", "()Lcom/example/corbel/corbel/Options$Option;"⟩ : MethodName) prog_50_method_4_code 1 (Option.some (Jvm.ClassFile.FieldType.object "com/example/corbel/corbel/Options$Option")) :: ws) ({ frames := 4, cells := 1, slots := 5, locals := 56 } : Room)) (fun a U => a = #[(.ref a1)] ∧ Z.Warmed39 U.vm ∧ U.heap = h0) (fun _ _ _ _ _ => True) (fun _ U o U' => ∃ v L, o = .returned v ∧ QrmAs Z a1 v1 v2 v3 h0 n0 v U'.heap L ∧ FrameEnd U o U' L ({ frames := 4, cells := 1, slots := 5, locals := 56 } : Room).cells ({ frames := 4, cells := 1, slots := 5, locals := 56 } : Room).slots) := by
  refine MetFree.of_bodySF (plainFor_of_name pn_com_example_corbel_corbel_Options_Option) hisR ?_
  intro p e s m args below meth c s₁ Bd hml0 hP hK
  obtain ⟨rfl, hZ, hh⟩ := hP
  have hx := Bd.exec
  have hby := Bd.bytes
  have hml : c.maxLocals = 1 := hml0
  have hown : s.vm.findClass "com/example/corbel/corbel/Options$Option" = some m.cls := findClass_of_methodNamed Bd.named
  have hnm := (name_of_methodNamed Bd.named Bd.method).1
  have hlk : meth.locks = false := BodyLoose.notSynchronized Bd
  have X0 : Stand p l e ({ frames := 4, cells := 1, slots := 5, locals := 56 } : Room) s m #[(.ref a1)] below meth c s₁ [] 0 0 := Stand.of_body Bd
  have e0 : s₁.heap = h0 := by rw [← hh, Bd.state]; rfl
  have N0 := Fr.nil n0
  show Ends p.tables e below (fun o U' => ∃ v L, o = .returned v ∧ QrmAs Z a1 v1 v2 v3 h0 n0 v U'.heap L ∧ FrameEnd s o U' L ({ frames := 4, cells := 1, slots := 5, locals := 56 } : Room).cells ({ frames := 4, cells := 1, slots := 5, locals := 56 } : Room).slots) (s₁.setTop (entryFrame m #[(.ref a1)] 1))
  refine Ends.step (fun t k => castTop (ef_rmAs m a1 ) k) ?_
  show Ends _ _ _ _ (s₁.setTop (mkF m 0 #[.val (.ref a1)] []))
  refine Ends.step (fun t k => XS.aloadN X0.here hx rfl (hb hby d_prog_50_method_4_code_0) rfl rfl k) ?_
  show Ends _ _ _ _ (s₁.setTop (mkF m 1 #[.val (.ref a1)] [(.ref a1)]))
  obtain ⟨T1, X1, e1, st1⟩ := getF X0 hx hZ hown (host := "") (Or.inl (hw _ (List.mem_of_getElem? (i := 46) rfl))) Via.refl e0 p_Fld_a1_name (g := (mkF m 1 #[.val (.ref a1)] [(.ref a1)])) rfl rfl (hb hby d_prog_50_method_4_code_1)
  refine Ends.step st1 ?_
  show Ends _ _ _ _ (T1.setTop (mkF m 4 #[.val (.ref a1)] [v1]))
  refine Ends.step (fun t k => XS.aloadN X1.here hx rfl (hb hby d_prog_50_method_4_code_4) rfl rfl k) ?_
  show Ends _ _ _ _ (T1.setTop (mkF m 5 #[.val (.ref a1)] [(.ref a1), v1]))
  obtain ⟨T2, X2, e2, st2⟩ := getF X1 hx hZ hown (host := "") (Or.inl (hw _ (List.mem_of_getElem? (i := 48) rfl))) Via.refl e1 p_Fld_a1_value (g := (mkF m 5 #[.val (.ref a1)] [(.ref a1), v1])) rfl rfl (hb hby d_prog_50_method_4_code_5)
  refine Ends.step st2 ?_
  show Ends _ _ _ _ (T2.setTop (mkF m 8 #[.val (.ref a1)] [v2, v1]))
  refine Ends.step (fun t k => XS.aloadN X2.here hx rfl (hb hby d_prog_50_method_4_code_8) rfl rfl k) ?_
  show Ends _ _ _ _ (T2.setTop (mkF m 9 #[.val (.ref a1)] [(.ref a1), v2, v1]))
  obtain ⟨T3, X3, e3, st3⟩ := getF X2 hx hZ hown (host := "") (Or.inl (hw _ (List.mem_of_getElem? (i := 50) rfl))) Via.refl e2 p_Fld_a1_meaning (g := (mkF m 9 #[.val (.ref a1)] [(.ref a1), v2, v1])) rfl rfl (hb hby d_prog_50_method_4_code_9)
  refine Ends.step st3 ?_
  show Ends _ _ _ _ (T3.setTop (mkF m 12 #[.val (.ref a1)] [v3, v2, v1]))
  obtain ⟨_, _, ⟨T4, L4, k4, n4⟩, -, X4, ⟨Lc4, hQ4, l4, y4, z4⟩, st4⟩ := Jvm.LawKit.callS X3 hx (y := (⟨"com/example/corbel/corbel/Options$Option", "optional", "(Ljava/lang/String;Ljava/lang/String;Ljava/lang/String;)Lcom/example/corbel/corbel/Options$Option;"⟩ : MethodName)) hown (mvT hZ (hw _ (List.mem_of_getElem? (i := 71) rfl))) (mvT hZ (hw _ (List.mem_of_getElem? (i := 72) rfl))) (mvT hZ (hw _ (List.mem_of_getElem? (i := 36) rfl))) (mvT hZ (hw _ (List.mem_of_getElem? (i := 73) rfl))) (by decide) (backOf (W := 0) (rmOpt l Z a0 hw [] v1 v2 v3 h0 n0 Z0 G1 O2 P5 X00 r_v1 r_v2 r_v3) hZ (hw _ (List.mem_of_getElem? (i := 73) rfl)) (hw _ (List.mem_of_getElem? (i := 36) rfl)) (by decide) (by decide)) (g := (mkF m 12 #[.val (.ref a1)] [v3, v2, v1])) rfl (by rw [hml]; rfl) (argsL := [v1, v2, v3]) (rest := []) (lenOf pd_3 rfl) rfl (by show 2 * 0 + _ ≤ _; exact Nat.le_of_eq rfl) (hb hby d_prog_50_method_4_code_12) (fun _ _ => ⟨rfl, e3, (by decide : 0 + 1 ≤ _), (by decide : 0 + 5 ≤ _)⟩)
  dsimp only [Pt.U, Pt.locs, Pt.cells, Pt.slots] at X4 l4 y4 z4 st4 hQ4
  subst l4 y4 z4
  obtain ⟨x_4, rfl, Nq4, K4, f4_0, f4_1, f4_2⟩ := hQ4
  have N4 := Fr.app N0 Nq4
  refine Ends.step st4 ?_
  show Ends _ _ _ _ (T4.setTop (mkF m 15 #[.val (.ref a1)] [(.ref x_4)]))
  exact own_finR X4 hx hlk Bd.returns rfl rfl (hb hby d_prog_50_method_4_code_15) rfl ⟨x_4, rfl, N4, ((Keep.refl h0 []).trans K4 all0), (Nat.le_trans (Nat.le_refl _) f4_0), f4_1, f4_2⟩ (by decide) (by decide)
def QrmDr (Z : State) (p1 : Int32) (p2 : Int32) (h0 : Heap) (n0 : Nat) (v : Option Value) (h : Heap) (L : List Loc) : Prop := ∃ x : Addr, v = some (.ref x) ∧ Fr n0 L ∧ Keep h0 h [] ∧ (h0.size ≤ x) ∧ (Exa Z h x "java/lang/String")
theorem ef_rmDr (m : MethodId) (p1 : Int32) (p2 : Int32)  : entryFrame m #[(.int p1), (.int p2)] 3 = mkF m 0 #[.val (.int p1), .val (.int p2), .unset] [] := by first | (simp [entryFrame, mkF, argsToLocals, maxLocals, Value.category]; done) | rfl
set_option maxRecDepth 65536 in
set_option maxHeartbeats 40000000 in
theorem rmDr (l : Launch) (Z : State) (a0 : Array Value) (hw : ∀ d ∈ tables_1, d.before a0 Z = true) (ws : List Jvm.Cond) (p1 : Int32) (p2 : Int32) (h0 : Heap) (n0 : Nat) (Z0 : n0 ≤ h0.size) (G1 : Int32) (O2 : Sta Z Z.heap "java/lang/String" "COMPACT_STRINGS" "Z" (.int G1)) (P5 : ¬ (G1 = (0 : Int32))) (X00 : Old Z n0 h0)  :
    MetFree l (⟨"com/example/corbel/corbel/OptionTakesValuePinLaw", "drawn", "(II)Ljava/lang/String;"⟩ : MethodName) (head1 (Jvm.Cond.code (⟨"com/example/corbel/corbel/OptionTakesValuePinLaw", "drawn", "(II)Ljava/lang/String;"⟩ : MethodName) method_2_code 3 (Option.some (Jvm.ClassFile.FieldType.object "java/lang/String")) :: ws) ({ frames := 4, cells := 4, slots := 8, locals := 66 } : Room)) (fun a U => a = #[(.int p1), (.int p2)] ∧ Z.Warmed39 U.vm ∧ U.heap = h0 ∧ CHv Z consts_1 U.vm h0) (fun _ _ _ _ _ => True) (fun _ U o U' => ∃ v L, o = .returned v ∧ QrmDr Z p1 p2 h0 n0 v U'.heap L ∧ CHr Z consts_1 U.vm U.heap U'.vm U'.heap ∧ ReturnedEndW U o U' L ({ frames := 4, cells := 4, slots := 8, locals := 66 } : Room).cells ({ frames := 4, cells := 4, slots := 8, locals := 66 } : Room).slots) := by
  refine MetFree.of_bodySF (plainFor_of_name pn_com_example_corbel_corbel_OptionTakesValuePinLaw) hisR ?_
  intro p e s m args below meth c s₁ Bd hml0 hP hK
  obtain ⟨rfl, hZ, hh, CH0⟩ := hP
  have hx := Bd.exec
  have hby := Bd.bytes
  have hml : c.maxLocals = 3 := hml0
  have hown : s.vm.findClass "com/example/corbel/corbel/OptionTakesValuePinLaw" = some m.cls := findClass_of_methodNamed Bd.named
  have hnm := (name_of_methodNamed Bd.named Bd.method).1
  have hlk : meth.locks = false := BodyLoose.notSynchronized Bd
  have X0 : Stand p l e ({ frames := 4, cells := 4, slots := 8, locals := 66 } : Room) (s.setVm s.vm) m #[(.int p1), (.int p2)] below meth c s₁ [] 0 0 := Stand.of_body Bd
  have e0 : s₁.heap = h0 := by rw [← hh, Bd.state]; rfl
  have N0 := Fr.nil n0
  have hS0 : s.Since s.vm 0 := (State.WarmedH.refl s).since 0
  have CR0 : CHr Z consts_1 s.vm h0 s.vm h0 := CHr.refl CH0
  show Ends p.tables e below (fun o U' => ∃ v L, o = .returned v ∧ QrmDr Z p1 p2 h0 n0 v U'.heap L ∧ CHr Z consts_1 s.vm s.heap U'.vm U'.heap ∧ ReturnedEndW s o U' L ({ frames := 4, cells := 4, slots := 8, locals := 66 } : Room).cells ({ frames := 4, cells := 4, slots := 8, locals := 66 } : Room).slots) (s₁.setTop (entryFrame m #[(.int p1), (.int p2)] 3))
  refine Ends.step (fun t k => castTop (ef_rmDr m p1 p2 ) k) ?_
  show Ends _ _ _ _ (s₁.setTop (mkF m 0 #[.val (.int p1), .val (.int p2), .unset] []))
  refine Ends.step (fun t k => XS.iloadN X0.here hx rfl (hb hby d_method_2_code_0) rfl k) ?_
  show Ends _ _ _ _ (s₁.setTop (mkF m 1 #[.val (.int p1), .val (.int p2), .unset] [(.int p2)]))
  by_cases c1 : p2 = (0 : Int32)
  · refine Ends.step (fun t k => XS.ifNo X0.here hx rfl (hb hby d_method_2_code_1) rfl ((if0 _ _).trans (teq c1).2) k) ?_
    show Ends _ _ _ _ (s₁.setTop (mkF m 4 #[.val (.int p1), .val (.int p2), .unset] []))
    obtain ⟨T2, h2, X2, e2, E2, A2, D2, -, st2⟩ := newO X0 hx hZ hown (hw _ (List.mem_of_getElem? (i := 5) rfl)) (hw _ (List.mem_of_getElem? (i := 6) rfl)) (hw _ (List.mem_of_getElem? (i := 7) rfl)) e0 (g := (mkF m 4 #[.val (.int p1), .val (.int p2), .unset] [])) rfl (hb hby d_method_2_code_4) (by decide) (by decide)
    obtain ⟨b2, g2⟩ : ∃ z, z = h0.size := ⟨_, rfl⟩
    rw [← g2] at A2 D2 st2
    refine Ends.step st2 ?_
    show Ends _ _ _ _ (T2.setTop (mkF m 7 #[.val (.int p1), .val (.int p2), .unset] [(.ref b2)]))
    refine Ends.step (fun t k => XS.dup X2.here hx rfl (hb hby d_method_2_code_7) rfl rfl k) ?_
    show Ends _ _ _ _ (T2.setTop (mkF m 8 #[.val (.int p1), .val (.int p2), .unset] [(.ref b2), (.ref b2)]))
    refine Ends.step (fun t k => XS.iconst X2.here hx rfl (hb hby d_method_2_code_8) k) ?_
    show Ends _ _ _ _ (T2.setTop (mkF m 9 #[.val (.int p1), .val (.int p2), .unset] [(.int (0 : Int32)), (.ref b2), (.ref b2)]))
    obtain ⟨T3, h3, k3, X3, e3, E3, A3, st3⟩ := newP X2 hx hZ (hw _ (List.mem_of_getElem? (i := 4) rfl)) e2 (g := (mkF m 9 #[.val (.int p1), .val (.int p2), .unset] [(.int (0 : Int32)), (.ref b2), (.ref b2)])) rfl (hb hby d_method_2_code_9) rfl (by decide : ¬ ((0 : Int32) < (0 : Int32))) (cap := 0) (by decide) (by decide) (by decide) (by decide)
    obtain ⟨b3, g3⟩ : ∃ z, z = h2.size := ⟨_, rfl⟩
    rw [← g3] at A3 st3
    have V3 : Arv Z h3 b3 k3 .char (0 : Int32) [] (.int (0 : Int32)) := (Arv.new A3 (by decide : ¬ ((0 : Int32) < (0 : Int32)))).pad (pad_rep [] (.int (0 : Int32)) 0)
    refine Ends.step st3 ?_
    show Ends _ _ _ _ (T3.setTop (mkF m 11 #[.val (.int p1), .val (.int p2), .unset] [(.ref b3), (.ref b2), (.ref b2)]))
    have F4 : Exa Z h3 b2 "java/lang/String" := (A2.ext E3)
    have F5 : Fld Z h3 b2 "java/lang/String" "value" "[B" .null := ((D2 (Or.inr (hw _ (List.mem_of_getElem? (i := 33) rfl))) (ty := (.array .byte)) (by decide)).ext E3)
    have F6 : Fld Z h3 b2 "java/lang/String" "coder" "B" (.int (0 : Int32)) := ((D2 (Or.inr (hw _ (List.mem_of_getElem? (i := 31) rfl))) (ty := .byte) (by decide)).ext E3)
    have F7 : Old Z n0 h3 := ((X00.ext E2).ext E3)
    have CR8 := own_chrE CR0 E2
    have CR9 := own_chrE CR8 E3
    obtain ⟨_, _, ⟨T10, L10, k10, n10⟩, -, Xs10, hs10, hg10, ⟨Lc10, hQ10, l10, y10, z10, CRc10⟩, st10⟩ := X3.specialBackS hx (y := (⟨"java/lang/String", "<init>", "([C)V"⟩ : MethodName)) rfl hown (mvT hZ (hw _ (List.mem_of_getElem? (i := 8) rfl))) (mvT hZ (hw _ (List.mem_of_getElem? (i := 9) rfl))) (mvT hZ (hw _ (List.mem_of_getElem? (i := 10) rfl))) (by decide) (backOfSH (s := s) (vm0 := s.vm) (W := 1) (rmScE l Z a0 hw [] b2 b3 k3 h3 n0 (Nat.le_trans Z0 (Nat.le_trans E2.1 E3.1)) G1 O2 P5 F7 F4 F5 F6 (Nat.le_trans (Nat.le_trans Z0 (Nat.le_refl _)) (Nat.le_of_eq g2.symm)) V3) hZ (hw _ (List.mem_of_getElem? (i := 10) rfl)) (hw _ (List.mem_of_getElem? (i := 7) rfl)) (by decide) (by decide) (own_hEL hw) CR9.1) (g := (mkF m 11 #[.val (.int p1), .val (.int p2), .unset] [(.ref b3), (.ref b2), (.ref b2)])) rfl (by rw [hml]; rfl) (Steps.refl _) (a := b2) (argsL := [(.ref b3)]) (rest := [(.ref b2)]) (lenOf pd_4 rfl) rfl (by show 2 * 0 + _ ≤ _; exact Nat.le_of_eq rfl) (hb hby d_method_2_code_11) (fun _ _ => ⟨rfl, e3, (by decide : 2 + 2 ≤ _), (by decide : 4 + 4 ≤ _)⟩)
    dsimp only [Pt.U, Pt.locs, Pt.cells, Pt.slots] at Xs10 hs10 hg10 l10 y10 z10 st10 hQ10 CRc10
    subst l10 y10 z10
    obtain ⟨X10, hS10, hZ10, hown10⟩ := rebS hS0 (Nat.le_trans (Nat.zero_le _) (Nat.le_of_eq (congrArg Array.size (Eq.symm e3)))) Xs10 hs10 hg10 hZ hown
    have CR10 := CR9.trans CRc10
    obtain ⟨b_10, kb_10, rfl, Nq10, K10, f10_0, f10_1, f10_2, f10_3⟩ := hQ10
    have N10 := Fr.app N0 Nq10
    refine Ends.go st10 ?_
    have K11 : Keep h0 T10.heap [] := ((((Keep.refl h0 []).ext E2).ext E3).trans K10 (allS (Or.inr (Nat.le_trans (Nat.le_refl _) (Nat.le_of_eq g2.symm))) all0))
    show Ends _ _ _ _ (T10.setTop (mkF m 14 #[.val (.int p1), .val (.int p2), .unset] [(.ref b2)]))
    exact own_finRW X10 hS10 hx hlk hh (own_hEL hw) (Nat.le_refl _) CR10 hZ10 Bd.returns rfl rfl (hb hby d_method_2_code_14) rfl ⟨b2, rfl, N10, ((Keep.refl h0 []).trans K11 all0), (Nat.le_trans (Nat.le_refl _) (Nat.le_of_eq g2.symm)), f10_0⟩ (by decide) (by decide)
  · refine Ends.step (fun t k => XS.ifYes X0.here hx rfl (pc0 := 1) (pc' := 15) rfl (hb hby d_method_2_code_1) rfl ((if0 _ _).trans (feq c1).2) (by decide) (by decide) k) ?_
    show Ends _ _ _ _ (s₁.setTop (mkF m 15 #[.val (.int p1), .val (.int p2), .unset] []))
    refine Ends.step (fun t k => XS.iconst X0.here hx rfl (hb hby d_method_2_code_15) k) ?_
    show Ends _ _ _ _ (s₁.setTop (mkF m 16 #[.val (.int p1), .val (.int p2), .unset] [(.int (1 : Int32))]))
    obtain ⟨T12, h12, k12, X12, e12, E12, A12, st12⟩ := newP X0 hx hZ (hw _ (List.mem_of_getElem? (i := 4) rfl)) e0 (g := (mkF m 16 #[.val (.int p1), .val (.int p2), .unset] [(.int (1 : Int32))])) rfl (hb hby d_method_2_code_16) rfl (by decide : ¬ ((1 : Int32) < (0 : Int32))) (cap := 1) (by decide) (by decide) (by decide) (by decide)
    obtain ⟨b12, g12⟩ : ∃ z, z = h0.size := ⟨_, rfl⟩
    rw [← g12] at A12 st12
    have V12 : Arv Z h12 b12 k12 .char (1 : Int32) [(.int (0 : Int32))] (.int (0 : Int32)) := (Arv.new A12 (by decide : ¬ ((1 : Int32) < (0 : Int32)))).pad (pad_rep [] (.int (0 : Int32)) 1)
    refine Ends.step st12 ?_
    show Ends _ _ _ _ (T12.setTop (mkF m 18 #[.val (.int p1), .val (.int p2), .unset] [(.ref b12)]))
    refine Ends.step (fun t k => XS.astoreN X12.here hx rfl (hb hby d_method_2_code_18) rfl rfl (l' := #[.val (.int p1), .val (.int p2), .val (.ref b12)]) rfl k) ?_
    show Ends _ _ _ _ (T12.setTop (mkF m 19 #[.val (.int p1), .val (.int p2), .val (.ref b12)] []))
    refine Ends.step (fun t k => XS.aloadN X12.here hx rfl (hb hby d_method_2_code_19) rfl rfl k) ?_
    show Ends _ _ _ _ (T12.setTop (mkF m 20 #[.val (.int p1), .val (.int p2), .val (.ref b12)] [(.ref b12)]))
    refine Ends.step (fun t k => XS.iconst X12.here hx rfl (hb hby d_method_2_code_20) k) ?_
    show Ends _ _ _ _ (T12.setTop (mkF m 21 #[.val (.int p1), .val (.int p2), .val (.ref b12)] [(.int (0 : Int32)), (.ref b12)]))
    refine Ends.step (fun t k => XS.iloadN X12.here hx rfl (hb hby d_method_2_code_21) rfl k) ?_
    show Ends _ _ _ _ (T12.setTop (mkF m 22 #[.val (.int p1), .val (.int p2), .val (.ref b12)] [(.int p1), (.int (0 : Int32)), (.ref b12)]))
    refine Ends.step (fun t k => XS.sipush X12.here hx rfl (hb hby d_method_2_code_22) k) ?_
    show Ends _ _ _ _ (T12.setTop (mkF m 25 #[.val (.int p1), .val (.int p2), .val (.ref b12)] [(.int (255 : Int32)), (.int p1), (.int (0 : Int32)), (.ref b12)]))
    refine Ends.step (fun t k => XS.iand X12.here hx rfl (hb hby d_method_2_code_25) rfl k) ?_
    show Ends _ _ _ _ (T12.setTop (mkF m 26 #[.val (.int p1), .val (.int p2), .val (.ref b12)] [(.int (p1 &&& (255 : Int32))), (.int (0 : Int32)), (.ref b12)]))
    refine Ends.step (fun t k => XS.i2c X12.here hx rfl (hb hby d_method_2_code_26) rfl k) ?_
    show Ends _ _ _ _ (T12.setTop (mkF m 27 #[.val (.int p1), .val (.int p2), .val (.ref b12)] [(.int ((p1 &&& (255 : Int32)).toUInt32.toUInt16.toUInt32.toInt32)), (.int (0 : Int32)), (.ref b12)]))
    obtain ⟨cl13, Ar13, q13, S13, M13, H13, Gx13⟩ := V12
    obtain ⟨T14, h14, X14, e14, W14, st14⟩ := stC X12 hx hZ e12 Ar13 (j := (0 : Int32)) (inb_of S13 ⟨by decide, by decide⟩) (g := (mkF m 27 #[.val (.int p1), .val (.int p2), .val (.ref b12)] [(.int ((p1 &&& (255 : Int32)).toUInt32.toUInt16.toUInt32.toInt32)), (.int (0 : Int32)), (.ref b12)])) rfl rfl (hb hby d_method_2_code_27)
    have N14 := Fr.snoc X14 N0 (Nat.le_trans (Nat.le_trans Z0 (Nat.le_refl _)) (Nat.le_of_eq g12.symm))
    have V14 : Arv Z h14 b12 k12 .char (1 : Int32) [(.int (nar .char ((p1 &&& (255 : Int32)).toUInt32.toUInt16.toUInt32.toInt32)))] (.int (0 : Int32)) := Arv.set Ar13 q13 S13 M13 H13 Gx13 (fits_nar_char _) W14 0 rfl (Nat.le_of_ble_eq_true rfl)
    refine Ends.step st14 ?_
    show Ends _ _ _ _ (T14.setTop (mkF m 28 #[.val (.int p1), .val (.int p2), .val (.ref b12)] []))
    obtain ⟨T15, h15, X15, e15, E15, A15, D15, -, st15⟩ := newO X14 hx hZ hown (hw _ (List.mem_of_getElem? (i := 5) rfl)) (hw _ (List.mem_of_getElem? (i := 6) rfl)) (hw _ (List.mem_of_getElem? (i := 7) rfl)) e14 (g := (mkF m 28 #[.val (.int p1), .val (.int p2), .val (.ref b12)] [])) rfl (hb hby d_method_2_code_28) (by decide) (by decide)
    obtain ⟨b15, g15⟩ : ∃ z, z = h14.size := ⟨_, rfl⟩
    rw [← g15] at A15 D15 st15
    refine Ends.step st15 ?_
    show Ends _ _ _ _ (T15.setTop (mkF m 31 #[.val (.int p1), .val (.int p2), .val (.ref b12)] [(.ref b15)]))
    refine Ends.step (fun t k => XS.dup X15.here hx rfl (hb hby d_method_2_code_31) rfl rfl k) ?_
    show Ends _ _ _ _ (T15.setTop (mkF m 32 #[.val (.int p1), .val (.int p2), .val (.ref b12)] [(.ref b15), (.ref b15)]))
    refine Ends.step (fun t k => XS.aloadN X15.here hx rfl (hb hby d_method_2_code_32) rfl rfl k) ?_
    show Ends _ _ _ _ (T15.setTop (mkF m 33 #[.val (.int p1), .val (.int p2), .val (.ref b12)] [(.ref b12), (.ref b15), (.ref b15)]))
    have F16 : Arv Z h15 b12 k12 .char (1 : Int32) [(.int (nar .char ((p1 &&& (255 : Int32)).toUInt32.toUInt16.toUInt32.toInt32)))] (.int (0 : Int32)) := (V14.ext E15)
    have F17 : Old Z n0 h15 := (((X00.ext E12).wr W14 (Nat.le_trans (Nat.le_trans Z0 (Nat.le_refl _)) (Nat.le_of_eq g12.symm))).ext E15)
    have hp18 : ∀ c ∈ ([(nar .char ((p1 &&& (255 : Int32)).toUInt32.toUInt16.toUInt32.toInt32))] : List Int32), ¬ c < 0 ∧ ¬ (255 : Int32) < c := (List.forall_mem_cons.mpr ⟨(own_and255 _), (fun _ q => nomatch q)⟩)
    obtain ⟨_, _, ⟨T19, L19, k19, n19⟩, -, X19, ⟨Lc19, hQ19, l19, y19, z19⟩, st19⟩ := X15.specialBack hx (y := (⟨"java/lang/String", "<init>", "([C)V"⟩ : MethodName)) rfl hown (mvT hZ (hw _ (List.mem_of_getElem? (i := 8) rfl))) (mvT hZ (hw _ (List.mem_of_getElem? (i := 9) rfl))) (mvT hZ (hw _ (List.mem_of_getElem? (i := 10) rfl))) (by decide) (StrChars.Road.backV (W := 1) hZ (own_hws hw) (kI := 4) (hw _ (List.mem_of_getElem? (i := 6) rfl)) (cs := ([(nar .char ((p1 &&& (255 : Int32)).toUInt32.toUInt16.toUInt32.toInt32))] : List Int32)) (bs := ([(nar .char ((p1 &&& (255 : Int32)).toUInt32.toUInt16.toUInt32.toInt32))] : List Int32).map (fun c => c.toInt8.toInt32)) (n := 1) (Nat.le_trans (Nat.le_trans Z0 (Nat.le_trans E12.1 (Nat.le_of_eq W14.size.symm))) (Nat.le_of_eq g15.symm)) (Nat.le_trans Z0 (Nat.le_trans (Nat.le_trans E12.1 (Nat.le_of_eq W14.size.symm)) E15.1)) A15 (D15 (Or.inr (hw _ (List.mem_of_getElem? (i := 33) rfl))) (ty := (.array .byte)) (by decide)) (D15 (Or.inr (hw _ (List.mem_of_getElem? (i := 31) rfl))) (ty := .byte) (by decide)) F16 (O2.ext F17.2) P5 rfl rfl (by decide) (by decide) hp18 rfl (by decide) (by decide)) (g := (mkF m 33 #[.val (.int p1), .val (.int p2), .val (.ref b12)] [(.ref b12), (.ref b15), (.ref b15)])) rfl (by rw [hml]; rfl) (Steps.refl _) (a := b15) (argsL := [(.ref b12)]) (rest := [(.ref b15)]) (lenOf pd_4 rfl) rfl (by show 2 * 0 + _ ≤ _; exact Nat.le_of_eq rfl) (hb hby d_method_2_code_33) (fun _ _ => ⟨rfl, e15, (by decide : 2 + 1 ≤ _), (by decide : 5 + 1 ≤ _)⟩)
    dsimp only [Pt.U, Pt.locs, Pt.cells, Pt.slots] at X19 l19 y19 z19 st19 hQ19
    subst l19 y19 z19
    obtain ⟨rfl, Nq19, K19, E19, C19, t19, kb19, u19, ut19, un19, Vv19, Av19⟩ := hQ19
    have N19 := Fr.app N14 Nq19
    refine Ends.go st19 ?_
    have K20 : Keep h0 T19.heap [] := (((((Keep.refl h0 []).ext E12).wr W14 (Or.inr (Nat.le_trans (Nat.le_refl _) (Nat.le_of_eq g12.symm)))).ext E15).trans K19 (allS (Or.inr (Nat.le_trans (Nat.le_trans E12.1 (Nat.le_of_eq W14.size.symm)) (Nat.le_of_eq g15.symm))) all0))
    show Ends _ _ _ _ (T19.setTop (mkF m 36 #[.val (.int p1), .val (.int p2), .val (.ref b12)] [(.ref b15)]))
    have CR21 := own_chrK CR0 K20
    exact own_finRW X19 hS0 hx hlk hh (own_hEL hw) (Nat.zero_le _) CR21 hZ Bd.returns rfl rfl (hb hby d_method_2_code_36) rfl ⟨b15, rfl, N19, ((Keep.refl h0 []).trans K20 all0), (Nat.le_trans (Nat.le_trans E12.1 (Nat.le_of_eq W14.size.symm)) (Nat.le_of_eq g15.symm)), E19⟩ (by decide) (by decide)
def Qrm0 (Z : State) (p1 : Int32) (p2 : Int32) (p3 : Int32) (p4 : Int32) (p5 : Int32) (h0 : Heap) (n0 : Nat) (v : Option Value) (h : Heap) (L : List Loc) : Prop := v = some (.int (1 : Int32)) ∧ Fr n0 L ∧ Keep h0 h []
theorem ef_rm0 (m : MethodId) (p1 : Int32) (p2 : Int32) (p3 : Int32) (p4 : Int32) (p5 : Int32)  : entryFrame m #[(.int p1), (.int p2), (.int p3), (.int p4), (.int p5)] maxLocals = mkF m 0 #[.val (.int p1), .val (.int p2), .val (.int p3), .val (.int p4), .val (.int p5), .unset, .unset, .unset, .unset, .unset, .unset, .unset, .unset, .unset, .unset, .unset, .unset] [] := by first | (simp [entryFrame, mkF, argsToLocals, maxLocals, Value.category]; done) | rfl
set_option maxRecDepth 65536 in
set_option maxHeartbeats 40000000 in
theorem rm0 (l : Launch) (Z : State) (a0 : Array Value) (hw : ∀ d ∈ tables_1, d.before a0 Z = true) (ws : List Jvm.Cond) (p1 : Int32) (p2 : Int32) (p3 : Int32) (p4 : Int32) (p5 : Int32) (h0 : Heap) (n0 : Nat) (Z0 : n0 ≤ h0.size) (G1 : Int32) (O2 : Sta Z Z.heap "java/lang/String" "COMPACT_STRINGS" "Z" (.int G1)) (P5 : ¬ (G1 = (0 : Int32))) (X00 : Old Z n0 h0)  :
    MetFree l x (head1 (Jvm.Cond.code x code maxLocals ret :: ws) room_1) (fun a U => a = #[(.int p1), (.int p2), (.int p3), (.int p4), (.int p5)] ∧ Z.Warmed39 U.vm ∧ U.heap = h0 ∧ CHv Z consts_1 U.vm h0) (fun _ _ _ _ _ => True) (fun _ U o U' => ∃ v L, o = .returned v ∧ Qrm0 Z p1 p2 p3 p4 p5 h0 n0 v U'.heap L ∧ CHr Z consts_1 U.vm U.heap U'.vm U'.heap ∧ ReturnedEndW U o U' L 40 1216) := by
  refine MetFree.of_bodySF (plainFor_of_name pn_com_example_corbel_corbel_OptionTakesValuePinLaw) hisR ?_
  intro p e s m args below meth c s₁ Bd hml0 hP hK
  obtain ⟨rfl, hZ, hh, CH0⟩ := hP
  have hx := Bd.exec
  have hby := Bd.bytes
  have hml : c.maxLocals = 17 := hml0
  have hown : s.vm.findClass "com/example/corbel/corbel/OptionTakesValuePinLaw" = some m.cls := findClass_of_methodNamed Bd.named
  have hnm := (name_of_methodNamed Bd.named Bd.method).1
  have hlk : meth.locks = false := BodyLoose.notSynchronized Bd
  have X0 : Stand p l e room_1 (s.setVm s.vm) m #[(.int p1), (.int p2), (.int p3), (.int p4), (.int p5)] below meth c s₁ [] 0 0 := Stand.of_body Bd
  have e0 : s₁.heap = h0 := by rw [← hh, Bd.state]; rfl
  have N0 := Fr.nil n0
  have hS0 : s.Since s.vm 0 := (State.WarmedH.refl s).since 0
  have CR0 : CHr Z consts_1 s.vm h0 s.vm h0 := CHr.refl CH0
  show Ends p.tables e below (fun o U' => ∃ v L, o = .returned v ∧ Qrm0 Z p1 p2 p3 p4 p5 h0 n0 v U'.heap L ∧ CHr Z consts_1 s.vm s.heap U'.vm U'.heap ∧ ReturnedEndW s o U' L 40 1216) (s₁.setTop (entryFrame m #[(.int p1), (.int p2), (.int p3), (.int p4), (.int p5)] maxLocals))
  refine Ends.step (fun t k => castTop (ef_rm0 m p1 p2 p3 p4 p5 ) k) ?_
  show Ends _ _ _ _ (s₁.setTop (mkF m 0 #[.val (.int p1), .val (.int p2), .val (.int p3), .val (.int p4), .val (.int p5), .unset, .unset, .unset, .unset, .unset, .unset, .unset, .unset, .unset, .unset, .unset, .unset] []))
  refine Ends.step (fun t k => XS.iload X0.here hx rfl (hb hby at_0) rfl k) ?_
  show Ends _ _ _ _ (s₁.setTop (mkF m 2 #[.val (.int p1), .val (.int p2), .val (.int p3), .val (.int p4), .val (.int p5), .unset, .unset, .unset, .unset, .unset, .unset, .unset, .unset, .unset, .unset, .unset, .unset] [(.int p5)]))
  refine Ends.step (fun t k => XS.iconst X0.here hx rfl (hb hby at_2) k) ?_
  show Ends _ _ _ _ (s₁.setTop (mkF m 3 #[.val (.int p1), .val (.int p2), .val (.int p3), .val (.int p4), .val (.int p5), .unset, .unset, .unset, .unset, .unset, .unset, .unset, .unset, .unset, .unset, .unset, .unset] [(.int (1 : Int32)), (.int p5)]))
  refine Ends.step (fun t k => XS.iand X0.here hx rfl (hb hby at_3) rfl k) ?_
  show Ends _ _ _ _ (s₁.setTop (mkF m 4 #[.val (.int p1), .val (.int p2), .val (.int p3), .val (.int p4), .val (.int p5), .unset, .unset, .unset, .unset, .unset, .unset, .unset, .unset, .unset, .unset, .unset, .unset] [(.int (p5 &&& (1 : Int32)))]))
  by_cases c1 : (p5 &&& (1 : Int32)) = (0 : Int32)
  · refine Ends.step (fun t k => XS.ifYes X0.here hx rfl (pc0 := 4) (pc' := 11) rfl (hb hby at_4) rfl ((if0 _ _).trans (teq c1).1) (by decide) (by decide) k) ?_
    show Ends _ _ _ _ (s₁.setTop (mkF m 11 #[.val (.int p1), .val (.int p2), .val (.int p3), .val (.int p4), .val (.int p5), .unset, .unset, .unset, .unset, .unset, .unset, .unset, .unset, .unset, .unset, .unset, .unset] []))
    refine Ends.step (fun t k => XS.iconst X0.here hx rfl (hb hby at_11) k) ?_
    show Ends _ _ _ _ (s₁.setTop (mkF m 12 #[.val (.int p1), .val (.int p2), .val (.int p3), .val (.int p4), .val (.int p5), .unset, .unset, .unset, .unset, .unset, .unset, .unset, .unset, .unset, .unset, .unset, .unset] [(.int (0 : Int32))]))
    refine Ends.step (fun t k => XS.istore X0.here hx rfl (hb hby at_12) rfl (l' := #[.val (.int p1), .val (.int p2), .val (.int p3), .val (.int p4), .val (.int p5), .val (.int (0 : Int32)), .unset, .unset, .unset, .unset, .unset, .unset, .unset, .unset, .unset, .unset, .unset]) rfl k) ?_
    show Ends _ _ _ _ (s₁.setTop (mkF m 14 #[.val (.int p1), .val (.int p2), .val (.int p3), .val (.int p4), .val (.int p5), .val (.int (0 : Int32)), .unset, .unset, .unset, .unset, .unset, .unset, .unset, .unset, .unset, .unset, .unset] []))
    refine Ends.step (fun t k => XS.iload X0.here hx rfl (hb hby at_14) rfl k) ?_
    show Ends _ _ _ _ (s₁.setTop (mkF m 16 #[.val (.int p1), .val (.int p2), .val (.int p3), .val (.int p4), .val (.int p5), .val (.int (0 : Int32)), .unset, .unset, .unset, .unset, .unset, .unset, .unset, .unset, .unset, .unset, .unset] [(.int p5)]))
    refine Ends.step (fun t k => XS.iconst X0.here hx rfl (hb hby at_16) k) ?_
    show Ends _ _ _ _ (s₁.setTop (mkF m 17 #[.val (.int p1), .val (.int p2), .val (.int p3), .val (.int p4), .val (.int p5), .val (.int (0 : Int32)), .unset, .unset, .unset, .unset, .unset, .unset, .unset, .unset, .unset, .unset, .unset] [(.int (2 : Int32)), (.int p5)]))
    refine Ends.step (fun t k => XS.iand X0.here hx rfl (hb hby at_17) rfl k) ?_
    show Ends _ _ _ _ (s₁.setTop (mkF m 18 #[.val (.int p1), .val (.int p2), .val (.int p3), .val (.int p4), .val (.int p5), .val (.int (0 : Int32)), .unset, .unset, .unset, .unset, .unset, .unset, .unset, .unset, .unset, .unset, .unset] [(.int (p5 &&& (2 : Int32)))]))
    have J3 : ∀ (z2 : Int32) (hz2 : z2 = (0 : Int32) ∨ z2 = (1 : Int32)), Ends p.tables e below (fun o U' => ∃ v L, o = .returned v ∧ Qrm0 Z p1 p2 p3 p4 p5 h0 n0 v U'.heap L ∧ CHr Z consts_1 s.vm s.heap U'.vm U'.heap ∧ ReturnedEndW s o U' L 40 1216) (s₁.setTop (mkF m 26 #[.val (.int p1), .val (.int p2), .val (.int p3), .val (.int p4), .val (.int p5), .val (.int (0 : Int32)), .unset, .unset, .unset, .unset, .unset, .unset, .unset, .unset, .unset, .unset, .unset] [(.int z2)])) := by
      intro z2 hz2
      show Ends _ _ _ _ (s₁.setTop (mkF m 26 #[.val (.int p1), .val (.int p2), .val (.int p3), .val (.int p4), .val (.int p5), .val (.int (0 : Int32)), .unset, .unset, .unset, .unset, .unset, .unset, .unset, .unset, .unset, .unset, .unset] [(.int z2)]))
      refine Ends.step (fun t k => XS.istore X0.here hx rfl (hb hby at_26) rfl (l' := #[.val (.int p1), .val (.int p2), .val (.int p3), .val (.int p4), .val (.int p5), .val (.int (0 : Int32)), .val (.int z2), .unset, .unset, .unset, .unset, .unset, .unset, .unset, .unset, .unset, .unset]) rfl k) ?_
      show Ends _ _ _ _ (s₁.setTop (mkF m 28 #[.val (.int p1), .val (.int p2), .val (.int p3), .val (.int p4), .val (.int p5), .val (.int (0 : Int32)), .val (.int z2), .unset, .unset, .unset, .unset, .unset, .unset, .unset, .unset, .unset, .unset] []))
      refine Ends.step (fun t k => XS.iload X0.here hx rfl (hb hby at_28) rfl k) ?_
      show Ends _ _ _ _ (s₁.setTop (mkF m 30 #[.val (.int p1), .val (.int p2), .val (.int p3), .val (.int p4), .val (.int p5), .val (.int (0 : Int32)), .val (.int z2), .unset, .unset, .unset, .unset, .unset, .unset, .unset, .unset, .unset, .unset] [(.int p5)]))
      refine Ends.step (fun t k => XS.iconst X0.here hx rfl (hb hby at_30) k) ?_
      show Ends _ _ _ _ (s₁.setTop (mkF m 31 #[.val (.int p1), .val (.int p2), .val (.int p3), .val (.int p4), .val (.int p5), .val (.int (0 : Int32)), .val (.int z2), .unset, .unset, .unset, .unset, .unset, .unset, .unset, .unset, .unset, .unset] [(.int (4 : Int32)), (.int p5)]))
      refine Ends.step (fun t k => XS.iand X0.here hx rfl (hb hby at_31) rfl k) ?_
      show Ends _ _ _ _ (s₁.setTop (mkF m 32 #[.val (.int p1), .val (.int p2), .val (.int p3), .val (.int p4), .val (.int p5), .val (.int (0 : Int32)), .val (.int z2), .unset, .unset, .unset, .unset, .unset, .unset, .unset, .unset, .unset, .unset] [(.int (p5 &&& (4 : Int32)))]))
      have J5 : ∀ (z4 : Int32) (hz4 : z4 = (0 : Int32) ∨ z4 = (1 : Int32)), Ends p.tables e below (fun o U' => ∃ v L, o = .returned v ∧ Qrm0 Z p1 p2 p3 p4 p5 h0 n0 v U'.heap L ∧ CHr Z consts_1 s.vm s.heap U'.vm U'.heap ∧ ReturnedEndW s o U' L 40 1216) (s₁.setTop (mkF m 40 #[.val (.int p1), .val (.int p2), .val (.int p3), .val (.int p4), .val (.int p5), .val (.int (0 : Int32)), .val (.int z2), .unset, .unset, .unset, .unset, .unset, .unset, .unset, .unset, .unset, .unset] [(.int z4)])) := by
        intro z4 hz4
        show Ends _ _ _ _ (s₁.setTop (mkF m 40 #[.val (.int p1), .val (.int p2), .val (.int p3), .val (.int p4), .val (.int p5), .val (.int (0 : Int32)), .val (.int z2), .unset, .unset, .unset, .unset, .unset, .unset, .unset, .unset, .unset, .unset] [(.int z4)]))
        refine Ends.step (fun t k => XS.istore X0.here hx rfl (hb hby at_40) rfl (l' := #[.val (.int p1), .val (.int p2), .val (.int p3), .val (.int p4), .val (.int p5), .val (.int (0 : Int32)), .val (.int z2), .val (.int z4), .unset, .unset, .unset, .unset, .unset, .unset, .unset, .unset, .unset]) rfl k) ?_
        show Ends _ _ _ _ (s₁.setTop (mkF m 42 #[.val (.int p1), .val (.int p2), .val (.int p3), .val (.int p4), .val (.int p5), .val (.int (0 : Int32)), .val (.int z2), .val (.int z4), .unset, .unset, .unset, .unset, .unset, .unset, .unset, .unset, .unset] []))
        refine Ends.step (fun t k => XS.iload X0.here hx rfl (hb hby at_42) rfl k) ?_
        show Ends _ _ _ _ (s₁.setTop (mkF m 44 #[.val (.int p1), .val (.int p2), .val (.int p3), .val (.int p4), .val (.int p5), .val (.int (0 : Int32)), .val (.int z2), .val (.int z4), .unset, .unset, .unset, .unset, .unset, .unset, .unset, .unset, .unset] [(.int p5)]))
        refine Ends.step (fun t k => XS.bipush X0.here hx rfl (hb hby at_44) k) ?_
        show Ends _ _ _ _ (s₁.setTop (mkF m 46 #[.val (.int p1), .val (.int p2), .val (.int p3), .val (.int p4), .val (.int p5), .val (.int (0 : Int32)), .val (.int z2), .val (.int z4), .unset, .unset, .unset, .unset, .unset, .unset, .unset, .unset, .unset] [(.int (8 : Int32)), (.int p5)]))
        refine Ends.step (fun t k => XS.iand X0.here hx rfl (hb hby at_46) rfl k) ?_
        show Ends _ _ _ _ (s₁.setTop (mkF m 47 #[.val (.int p1), .val (.int p2), .val (.int p3), .val (.int p4), .val (.int p5), .val (.int (0 : Int32)), .val (.int z2), .val (.int z4), .unset, .unset, .unset, .unset, .unset, .unset, .unset, .unset, .unset] [(.int (p5 &&& (8 : Int32)))]))
        have J7 : ∀ (z6 : Int32) (hz6 : z6 = (0 : Int32) ∨ z6 = (1 : Int32)), Ends p.tables e below (fun o U' => ∃ v L, o = .returned v ∧ Qrm0 Z p1 p2 p3 p4 p5 h0 n0 v U'.heap L ∧ CHr Z consts_1 s.vm s.heap U'.vm U'.heap ∧ ReturnedEndW s o U' L 40 1216) (s₁.setTop (mkF m 55 #[.val (.int p1), .val (.int p2), .val (.int p3), .val (.int p4), .val (.int p5), .val (.int (0 : Int32)), .val (.int z2), .val (.int z4), .unset, .unset, .unset, .unset, .unset, .unset, .unset, .unset, .unset] [(.int z6)])) := by
          intro z6 hz6
          show Ends _ _ _ _ (s₁.setTop (mkF m 55 #[.val (.int p1), .val (.int p2), .val (.int p3), .val (.int p4), .val (.int p5), .val (.int (0 : Int32)), .val (.int z2), .val (.int z4), .unset, .unset, .unset, .unset, .unset, .unset, .unset, .unset, .unset] [(.int z6)]))
          refine Ends.step (fun t k => XS.istore X0.here hx rfl (hb hby at_55) rfl (l' := #[.val (.int p1), .val (.int p2), .val (.int p3), .val (.int p4), .val (.int p5), .val (.int (0 : Int32)), .val (.int z2), .val (.int z4), .val (.int z6), .unset, .unset, .unset, .unset, .unset, .unset, .unset, .unset]) rfl k) ?_
          show Ends _ _ _ _ (s₁.setTop (mkF m 57 #[.val (.int p1), .val (.int p2), .val (.int p3), .val (.int p4), .val (.int p5), .val (.int (0 : Int32)), .val (.int z2), .val (.int z4), .val (.int z6), .unset, .unset, .unset, .unset, .unset, .unset, .unset, .unset] []))
          refine Ends.step (fun t k => XS.iloadN X0.here hx rfl (hb hby at_57) rfl k) ?_
          show Ends _ _ _ _ (s₁.setTop (mkF m 58 #[.val (.int p1), .val (.int p2), .val (.int p3), .val (.int p4), .val (.int p5), .val (.int (0 : Int32)), .val (.int z2), .val (.int z4), .val (.int z6), .unset, .unset, .unset, .unset, .unset, .unset, .unset, .unset] [(.int p1)]))
          refine Ends.step (fun t k => XS.iconst X0.here hx rfl (hb hby at_58) k) ?_
          show Ends _ _ _ _ (s₁.setTop (mkF m 59 #[.val (.int p1), .val (.int p2), .val (.int p3), .val (.int p4), .val (.int p5), .val (.int (0 : Int32)), .val (.int z2), .val (.int z4), .val (.int z6), .unset, .unset, .unset, .unset, .unset, .unset, .unset, .unset] [(.int (1 : Int32)), (.int p1)]))
          obtain ⟨_, _, ⟨T8, L8, k8, n8⟩, -, Xs8, hs8, hg8, ⟨Lc8, hQ8, l8, y8, z8, CRc8⟩, st8⟩ := callSS X0 hx (y := (⟨"com/example/corbel/corbel/OptionTakesValuePinLaw", "drawn", "(II)Ljava/lang/String;"⟩ : MethodName)) hown (mvT hZ (hw _ (List.mem_of_getElem? (i := 0) rfl))) (mvT hZ (hw _ (List.mem_of_getElem? (i := 1) rfl))) (mvT hZ (hw _ (List.mem_of_getElem? (i := 2) rfl))) (mvT hZ (hw _ (List.mem_of_getElem? (i := 3) rfl))) (by decide) (backOfSH (s := s) (vm0 := s.vm) (W := 0) (rmDr l Z a0 hw [] p1 (1 : Int32) h0 n0 Z0 G1 O2 P5 X00 ) hZ (hw _ (List.mem_of_getElem? (i := 3) rfl)) (hw _ (List.mem_of_getElem? (i := 2) rfl)) (by decide) (by decide) (own_hEL hw) CR0.1) (g := (mkF m 59 #[.val (.int p1), .val (.int p2), .val (.int p3), .val (.int p4), .val (.int p5), .val (.int (0 : Int32)), .val (.int z2), .val (.int z4), .val (.int z6), .unset, .unset, .unset, .unset, .unset, .unset, .unset, .unset] [(.int (1 : Int32)), (.int p1)])) rfl (by rw [hml]; rfl) (argsL := [(.int p1), (.int (1 : Int32))]) (rest := []) (lenOf pd_5 rfl) rfl (by show 2 * 0 + _ ≤ _; exact Nat.le_of_eq rfl) (hb hby at_59) (fun _ _ => ⟨rfl, e0, (by decide : 0 + 4 ≤ _), (by decide : 0 + 8 ≤ _)⟩)
          dsimp only [Pt.U, Pt.locs, Pt.cells, Pt.slots] at Xs8 hs8 hg8 l8 y8 z8 st8 hQ8 CRc8
          subst l8 y8 z8
          obtain ⟨X8, hS8, hZ8, hown8⟩ := rebS hS0 (Nat.le_trans (Nat.zero_le _) (Nat.le_of_eq (congrArg Array.size (Eq.symm e0)))) Xs8 hs8 hg8 hZ hown
          have CR8 := CR0.trans CRc8
          obtain ⟨x_8, rfl, Nq8, K8, f8_0, f8_1⟩ := hQ8
          have N8 := Fr.app N0 Nq8
          refine Ends.go st8 ?_
          show Ends _ _ _ _ (T8.setTop (mkF m 62 #[.val (.int p1), .val (.int p2), .val (.int p3), .val (.int p4), .val (.int p5), .val (.int (0 : Int32)), .val (.int z2), .val (.int z4), .val (.int z6), .unset, .unset, .unset, .unset, .unset, .unset, .unset, .unset] [(.ref x_8)]))
          refine Ends.step (fun t k => XS.astore X8.here hx rfl (hb hby at_62) rfl rfl (l' := #[.val (.int p1), .val (.int p2), .val (.int p3), .val (.int p4), .val (.int p5), .val (.int (0 : Int32)), .val (.int z2), .val (.int z4), .val (.int z6), .val (.ref x_8), .unset, .unset, .unset, .unset, .unset, .unset, .unset]) rfl k) ?_
          show Ends _ _ _ _ (T8.setTop (mkF m 64 #[.val (.int p1), .val (.int p2), .val (.int p3), .val (.int p4), .val (.int p5), .val (.int (0 : Int32)), .val (.int z2), .val (.int z4), .val (.int z6), .val (.ref x_8), .unset, .unset, .unset, .unset, .unset, .unset, .unset] []))
          refine Ends.step (fun t k => XS.iloadN X8.here hx rfl (hb hby at_64) rfl k) ?_
          show Ends _ _ _ _ (T8.setTop (mkF m 65 #[.val (.int p1), .val (.int p2), .val (.int p3), .val (.int p4), .val (.int p5), .val (.int (0 : Int32)), .val (.int z2), .val (.int z4), .val (.int z6), .val (.ref x_8), .unset, .unset, .unset, .unset, .unset, .unset, .unset] [(.int p2)]))
          refine Ends.step (fun t k => XS.iload X8.here hx rfl (hb hby at_65) rfl k) ?_
          show Ends _ _ _ _ (T8.setTop (mkF m 67 #[.val (.int p1), .val (.int p2), .val (.int p3), .val (.int p4), .val (.int p5), .val (.int (0 : Int32)), .val (.int z2), .val (.int z4), .val (.int z6), .val (.ref x_8), .unset, .unset, .unset, .unset, .unset, .unset, .unset] [(.int p5), (.int p2)]))
          refine Ends.step (fun t k => XS.bipush X8.here hx rfl (hb hby at_67) k) ?_
          show Ends _ _ _ _ (T8.setTop (mkF m 69 #[.val (.int p1), .val (.int p2), .val (.int p3), .val (.int p4), .val (.int p5), .val (.int (0 : Int32)), .val (.int z2), .val (.int z4), .val (.int z6), .val (.ref x_8), .unset, .unset, .unset, .unset, .unset, .unset, .unset] [(.int (16 : Int32)), (.int p5), (.int p2)]))
          refine Ends.step (fun t k => XS.iand X8.here hx rfl (hb hby at_69) rfl k) ?_
          show Ends _ _ _ _ (T8.setTop (mkF m 70 #[.val (.int p1), .val (.int p2), .val (.int p3), .val (.int p4), .val (.int p5), .val (.int (0 : Int32)), .val (.int z2), .val (.int z4), .val (.int z6), .val (.ref x_8), .unset, .unset, .unset, .unset, .unset, .unset, .unset] [(.int (p5 &&& (16 : Int32))), (.int p2)]))
          have J10 : ∀ (z9 : Int32) (hz9 : z9 = (0 : Int32) ∨ z9 = (1 : Int32)), Ends p.tables e below (fun o U' => ∃ v L, o = .returned v ∧ Qrm0 Z p1 p2 p3 p4 p5 h0 n0 v U'.heap L ∧ CHr Z consts_1 s.vm s.heap U'.vm U'.heap ∧ ReturnedEndW s o U' L 40 1216) (T8.setTop (mkF m 78 #[.val (.int p1), .val (.int p2), .val (.int p3), .val (.int p4), .val (.int p5), .val (.int (0 : Int32)), .val (.int z2), .val (.int z4), .val (.int z6), .val (.ref x_8), .unset, .unset, .unset, .unset, .unset, .unset, .unset] [(.int z9), (.int p2)])) := by
            intro z9 hz9
            show Ends _ _ _ _ (T8.setTop (mkF m 78 #[.val (.int p1), .val (.int p2), .val (.int p3), .val (.int p4), .val (.int p5), .val (.int (0 : Int32)), .val (.int z2), .val (.int z4), .val (.int z6), .val (.ref x_8), .unset, .unset, .unset, .unset, .unset, .unset, .unset] [(.int z9), (.int p2)]))
            have F11 : Old Z n0 T8.heap := (X00.keep K8 all0)
            obtain ⟨_, _, ⟨T12, L12, k12, n12⟩, -, Xs12, hs12, hg12, ⟨Lc12, hQ12, l12, y12, z12, CRc12⟩, st12⟩ := callSS X8 hx (y := (⟨"com/example/corbel/corbel/OptionTakesValuePinLaw", "drawn", "(II)Ljava/lang/String;"⟩ : MethodName)) hown8 (mvT hZ8 (hw _ (List.mem_of_getElem? (i := 0) rfl))) (mvT hZ8 (hw _ (List.mem_of_getElem? (i := 1) rfl))) (mvT hZ8 (hw _ (List.mem_of_getElem? (i := 2) rfl))) (mvT hZ8 (hw _ (List.mem_of_getElem? (i := 3) rfl))) (by decide) (backOfSH (s := s) (vm0 := T8.vm) (W := 0) (rmDr l Z a0 hw [] p2 z9 T8.heap n0 (Nat.le_trans Z0 K8.1) G1 O2 P5 F11 ) hZ8 (hw _ (List.mem_of_getElem? (i := 3) rfl)) (hw _ (List.mem_of_getElem? (i := 2) rfl)) (by decide) (by decide) (own_hEL hw) CR8.1) (g := (mkF m 78 #[.val (.int p1), .val (.int p2), .val (.int p3), .val (.int p4), .val (.int p5), .val (.int (0 : Int32)), .val (.int z2), .val (.int z4), .val (.int z6), .val (.ref x_8), .unset, .unset, .unset, .unset, .unset, .unset, .unset] [(.int z9), (.int p2)])) rfl (by rw [hml]; rfl) (argsL := [(.int p2), (.int z9)]) (rest := []) (lenOf pd_5 rfl) rfl (by show 2 * 0 + _ ≤ _; exact Nat.le_of_eq rfl) (hb hby at_78) (fun _ _ => ⟨rfl, rfl, (by decide : 4 + 4 ≤ _), (by decide : 8 + 8 ≤ _)⟩)
            dsimp only [Pt.U, Pt.locs, Pt.cells, Pt.slots] at Xs12 hs12 hg12 l12 y12 z12 st12 hQ12 CRc12
            subst l12 y12 z12
            obtain ⟨X12, hS12, hZ12, hown12⟩ := rebS hS8 (Nat.le_trans (Nat.le_refl _) (Nat.le_of_eq (congrArg Array.size (Eq.symm rfl)))) Xs12 hs12 hg12 hZ8 hown8
            have CR12 := CR8.trans CRc12
            obtain ⟨x_12, rfl, Nq12, K12, f12_0, f12_1⟩ := hQ12
            have N12 := Fr.app N8 Nq12
            refine Ends.go st12 ?_
            show Ends _ _ _ _ (T12.setTop (mkF m 81 #[.val (.int p1), .val (.int p2), .val (.int p3), .val (.int p4), .val (.int p5), .val (.int (0 : Int32)), .val (.int z2), .val (.int z4), .val (.int z6), .val (.ref x_8), .unset, .unset, .unset, .unset, .unset, .unset, .unset] [(.ref x_12)]))
            refine Ends.step (fun t k => XS.astore X12.here hx rfl (hb hby at_81) rfl rfl (l' := #[.val (.int p1), .val (.int p2), .val (.int p3), .val (.int p4), .val (.int p5), .val (.int (0 : Int32)), .val (.int z2), .val (.int z4), .val (.int z6), .val (.ref x_8), .val (.ref x_12), .unset, .unset, .unset, .unset, .unset, .unset]) rfl k) ?_
            show Ends _ _ _ _ (T12.setTop (mkF m 83 #[.val (.int p1), .val (.int p2), .val (.int p3), .val (.int p4), .val (.int p5), .val (.int (0 : Int32)), .val (.int z2), .val (.int z4), .val (.int z6), .val (.ref x_8), .val (.ref x_12), .unset, .unset, .unset, .unset, .unset, .unset] []))
            refine Ends.step (fun t k => XS.iload X12.here hx rfl (hb hby at_83) rfl k) ?_
            show Ends _ _ _ _ (T12.setTop (mkF m 85 #[.val (.int p1), .val (.int p2), .val (.int p3), .val (.int p4), .val (.int p5), .val (.int (0 : Int32)), .val (.int z2), .val (.int z4), .val (.int z6), .val (.ref x_8), .val (.ref x_12), .unset, .unset, .unset, .unset, .unset, .unset] [(.int (0 : Int32))]))
            refine Ends.step (fun t k => XS.ifYes X12.here hx rfl (pc0 := 85) (pc' := 92) rfl (hb hby at_85) rfl ((if0 _ _).trans (teq (by decide : ((0 : Int32) = (0 : Int32)))).1) (by decide) (by decide) k) ?_
            show Ends _ _ _ _ (T12.setTop (mkF m 92 #[.val (.int p1), .val (.int p2), .val (.int p3), .val (.int p4), .val (.int p5), .val (.int (0 : Int32)), .val (.int z2), .val (.int z4), .val (.int z6), .val (.ref x_8), .val (.ref x_12), .unset, .unset, .unset, .unset, .unset, .unset] []))
            refine Ends.step (fun t k => XS.iloadN X12.here hx rfl (hb hby at_92) rfl k) ?_
            show Ends _ _ _ _ (T12.setTop (mkF m 93 #[.val (.int p1), .val (.int p2), .val (.int p3), .val (.int p4), .val (.int p5), .val (.int (0 : Int32)), .val (.int z2), .val (.int z4), .val (.int z6), .val (.ref x_8), .val (.ref x_12), .unset, .unset, .unset, .unset, .unset, .unset] [(.int p3)]))
            refine Ends.step (fun t k => XS.iload X12.here hx rfl (hb hby at_93) rfl k) ?_
            show Ends _ _ _ _ (T12.setTop (mkF m 95 #[.val (.int p1), .val (.int p2), .val (.int p3), .val (.int p4), .val (.int p5), .val (.int (0 : Int32)), .val (.int z2), .val (.int z4), .val (.int z6), .val (.ref x_8), .val (.ref x_12), .unset, .unset, .unset, .unset, .unset, .unset] [(.int z6), (.int p3)]))
            have F13 : Old Z n0 T12.heap := (F11.keep K12 all0)
            obtain ⟨_, _, ⟨T14, L14, k14, n14⟩, -, Xs14, hs14, hg14, ⟨Lc14, hQ14, l14, y14, z14, CRc14⟩, st14⟩ := callSS X12 hx (y := (⟨"com/example/corbel/corbel/OptionTakesValuePinLaw", "drawn", "(II)Ljava/lang/String;"⟩ : MethodName)) hown12 (mvT hZ12 (hw _ (List.mem_of_getElem? (i := 0) rfl))) (mvT hZ12 (hw _ (List.mem_of_getElem? (i := 1) rfl))) (mvT hZ12 (hw _ (List.mem_of_getElem? (i := 2) rfl))) (mvT hZ12 (hw _ (List.mem_of_getElem? (i := 3) rfl))) (by decide) (backOfSH (s := s) (vm0 := T12.vm) (W := 0) (rmDr l Z a0 hw [] p3 z6 T12.heap n0 (Nat.le_trans Z0 (Nat.le_trans K8.1 K12.1)) G1 O2 P5 F13 ) hZ12 (hw _ (List.mem_of_getElem? (i := 3) rfl)) (hw _ (List.mem_of_getElem? (i := 2) rfl)) (by decide) (by decide) (own_hEL hw) CR12.1) (g := (mkF m 95 #[.val (.int p1), .val (.int p2), .val (.int p3), .val (.int p4), .val (.int p5), .val (.int (0 : Int32)), .val (.int z2), .val (.int z4), .val (.int z6), .val (.ref x_8), .val (.ref x_12), .unset, .unset, .unset, .unset, .unset, .unset] [(.int z6), (.int p3)])) rfl (by rw [hml]; rfl) (argsL := [(.int p3), (.int z6)]) (rest := []) (lenOf pd_5 rfl) rfl (by show 2 * 0 + _ ≤ _; exact Nat.le_of_eq rfl) (hb hby at_95) (fun _ _ => ⟨rfl, rfl, (by decide : 8 + 4 ≤ _), (by decide : 16 + 8 ≤ _)⟩)
            dsimp only [Pt.U, Pt.locs, Pt.cells, Pt.slots] at Xs14 hs14 hg14 l14 y14 z14 st14 hQ14 CRc14
            subst l14 y14 z14
            obtain ⟨X14, hS14, hZ14, hown14⟩ := rebS hS12 (Nat.le_trans (Nat.le_refl _) (Nat.le_of_eq (congrArg Array.size (Eq.symm rfl)))) Xs14 hs14 hg14 hZ12 hown12
            have CR14 := CR12.trans CRc14
            obtain ⟨x_14, rfl, Nq14, K14, f14_0, f14_1⟩ := hQ14
            have N14 := Fr.app N12 Nq14
            refine Ends.go st14 ?_
            show Ends _ _ _ _ (T14.setTop (mkF m 98 #[.val (.int p1), .val (.int p2), .val (.int p3), .val (.int p4), .val (.int p5), .val (.int (0 : Int32)), .val (.int z2), .val (.int z4), .val (.int z6), .val (.ref x_8), .val (.ref x_12), .unset, .unset, .unset, .unset, .unset, .unset] [(.ref x_14)]))
            refine Ends.step (fun t k => XS.astore X14.here hx rfl (hb hby at_98) rfl rfl (l' := #[.val (.int p1), .val (.int p2), .val (.int p3), .val (.int p4), .val (.int p5), .val (.int (0 : Int32)), .val (.int z2), .val (.int z4), .val (.int z6), .val (.ref x_8), .val (.ref x_12), .val (.ref x_14), .unset, .unset, .unset, .unset, .unset]) rfl k) ?_
            show Ends _ _ _ _ (T14.setTop (mkF m 100 #[.val (.int p1), .val (.int p2), .val (.int p3), .val (.int p4), .val (.int p5), .val (.int (0 : Int32)), .val (.int z2), .val (.int z4), .val (.int z6), .val (.ref x_8), .val (.ref x_12), .val (.ref x_14), .unset, .unset, .unset, .unset, .unset] []))
            refine Ends.step (fun t k => XS.iload X14.here hx rfl (hb hby at_100) rfl k) ?_
            show Ends _ _ _ _ (T14.setTop (mkF m 102 #[.val (.int p1), .val (.int p2), .val (.int p3), .val (.int p4), .val (.int p5), .val (.int (0 : Int32)), .val (.int z2), .val (.int z4), .val (.int z6), .val (.ref x_8), .val (.ref x_12), .val (.ref x_14), .unset, .unset, .unset, .unset, .unset] [(.int z2)]))
            have J21 : ∀ (w20 : Value) (vm22 : Vm) (T22 : State) (h22 : Heap) (L22 : List Loc) (X22 : Stand p l e room_1 (s.setVm vm22) m #[(.int p1), (.int p2), (.int p3), (.int p4), (.int p5)] below meth c T22 L22 16 32) (e22 : T22.heap = h22) (N22 : Fr n0 L22) (K22 : Keep T14.heap h22 []) (kk22 : Nat) (hZ22 : Z.Warmed39 (s.setVm vm22).vm) (hown22 : (s.setVm vm22).vm.findClass "com/example/corbel/corbel/OptionTakesValuePinLaw" = some m.cls) (hS22 : s.Since vm22 kk22) (hk22 : kk22 ≤ h22.size) (CR22 : CHr Z consts_1 s.vm h0 vm22 h22) (hw20 : Value.isRef w20 = true), Ends p.tables e below (fun o U' => ∃ v L, o = .returned v ∧ Qrm0 Z p1 p2 p3 p4 p5 h0 n0 v U'.heap L ∧ CHr Z consts_1 s.vm s.heap U'.vm U'.heap ∧ ReturnedEndW s o U' L 40 1216) (T22.setTop (mkF m 126 #[.val (.int p1), .val (.int p2), .val (.int p3), .val (.int p4), .val (.int p5), .val (.int (0 : Int32)), .val (.int z2), .val (.int z4), .val (.int z6), .val (.ref x_8), .val (.ref x_12), .val (.ref x_14), .unset, .unset, .unset, .unset, .unset] [w20])) := by
              intro w20 vm22 T22 h22 L22 X22 e22 N22 K22 kk22 hZ22 hown22 hS22 hk22 CR22 hw20
              show Ends _ _ _ _ (T22.setTop (mkF m 126 #[.val (.int p1), .val (.int p2), .val (.int p3), .val (.int p4), .val (.int p5), .val (.int (0 : Int32)), .val (.int z2), .val (.int z4), .val (.int z6), .val (.ref x_8), .val (.ref x_12), .val (.ref x_14), .unset, .unset, .unset, .unset, .unset] [w20]))
              refine Ends.step (fun t k => XS.astore X22.here hx rfl (hb hby at_126) rfl hw20 (l' := #[.val (.int p1), .val (.int p2), .val (.int p3), .val (.int p4), .val (.int p5), .val (.int (0 : Int32)), .val (.int z2), .val (.int z4), .val (.int z6), .val (.ref x_8), .val (.ref x_12), .val (.ref x_14), .val w20, .unset, .unset, .unset, .unset]) (XS.store1 (o := .unset) rfl One.u (XT.cat1 hw20)) k) ?_
              show Ends _ _ _ _ (T22.setTop (mkF m 128 #[.val (.int p1), .val (.int p2), .val (.int p3), .val (.int p4), .val (.int p5), .val (.int (0 : Int32)), .val (.int z2), .val (.int z4), .val (.int z6), .val (.ref x_8), .val (.ref x_12), .val (.ref x_14), .val w20, .unset, .unset, .unset, .unset] []))
              obtain ⟨T23, h23, X23, e23, E23, A23, D23, -, st23⟩ := newO X22 hx hZ22 hown22 (hw _ (List.mem_of_getElem? (i := 34) rfl)) (hw _ (List.mem_of_getElem? (i := 35) rfl)) (hw _ (List.mem_of_getElem? (i := 36) rfl)) e22 (g := (mkF m 128 #[.val (.int p1), .val (.int p2), .val (.int p3), .val (.int p4), .val (.int p5), .val (.int (0 : Int32)), .val (.int z2), .val (.int z4), .val (.int z6), .val (.ref x_8), .val (.ref x_12), .val (.ref x_14), .val w20, .unset, .unset, .unset, .unset] [])) rfl (hb hby at_128) (by decide) (by decide)
              obtain ⟨b23, g23⟩ : ∃ z, z = h22.size := ⟨_, rfl⟩
              rw [← g23] at A23 D23 st23
              refine Ends.step st23 ?_
              show Ends _ _ _ _ (T23.setTop (mkF m 131 #[.val (.int p1), .val (.int p2), .val (.int p3), .val (.int p4), .val (.int p5), .val (.int (0 : Int32)), .val (.int z2), .val (.int z4), .val (.int z6), .val (.ref x_8), .val (.ref x_12), .val (.ref x_14), .val w20, .unset, .unset, .unset, .unset] [(.ref b23)]))
              refine Ends.step (fun t k => XS.dup X23.here hx rfl (hb hby at_131) rfl rfl k) ?_
              show Ends _ _ _ _ (T23.setTop (mkF m 132 #[.val (.int p1), .val (.int p2), .val (.int p3), .val (.int p4), .val (.int p5), .val (.int (0 : Int32)), .val (.int z2), .val (.int z4), .val (.int z6), .val (.ref x_8), .val (.ref x_12), .val (.ref x_14), .val w20, .unset, .unset, .unset, .unset] [(.ref b23), (.ref b23)]))
              refine Ends.step (fun t k => XS.aload X23.here hx rfl (hb hby at_132) rfl rfl k) ?_
              show Ends _ _ _ _ (T23.setTop (mkF m 134 #[.val (.int p1), .val (.int p2), .val (.int p3), .val (.int p4), .val (.int p5), .val (.int (0 : Int32)), .val (.int z2), .val (.int z4), .val (.int z6), .val (.ref x_8), .val (.ref x_12), .val (.ref x_14), .val w20, .unset, .unset, .unset, .unset] [(.ref x_8), (.ref b23), (.ref b23)]))
              refine Ends.step (fun t k => XS.aload X23.here hx rfl (hb hby at_134) rfl rfl k) ?_
              show Ends _ _ _ _ (T23.setTop (mkF m 136 #[.val (.int p1), .val (.int p2), .val (.int p3), .val (.int p4), .val (.int p5), .val (.int (0 : Int32)), .val (.int z2), .val (.int z4), .val (.int z6), .val (.ref x_8), .val (.ref x_12), .val (.ref x_14), .val w20, .unset, .unset, .unset, .unset] [(.ref x_14), (.ref x_8), (.ref b23), (.ref b23)]))
              refine Ends.step (fun t k => XS.aload X23.here hx rfl (hb hby at_136) rfl rfl k) ?_
              show Ends _ _ _ _ (T23.setTop (mkF m 138 #[.val (.int p1), .val (.int p2), .val (.int p3), .val (.int p4), .val (.int p5), .val (.int (0 : Int32)), .val (.int z2), .val (.int z4), .val (.int z6), .val (.ref x_8), .val (.ref x_12), .val (.ref x_14), .val w20, .unset, .unset, .unset, .unset] [(.ref x_12), (.ref x_14), (.ref x_8), (.ref b23), (.ref b23)]))
              refine Ends.step (fun t k => XS.aload X23.here hx rfl (hb hby at_138) rfl hw20 k) ?_
              show Ends _ _ _ _ (T23.setTop (mkF m 140 #[.val (.int p1), .val (.int p2), .val (.int p3), .val (.int p4), .val (.int p5), .val (.int (0 : Int32)), .val (.int z2), .val (.int z4), .val (.int z6), .val (.ref x_8), .val (.ref x_12), .val (.ref x_14), .val w20, .unset, .unset, .unset, .unset] [w20, (.ref x_12), (.ref x_14), (.ref x_8), (.ref b23), (.ref b23)]))
              refine Ends.step (fun t k => XS.iload X23.here hx rfl (hb hby at_140) rfl k) ?_
              show Ends _ _ _ _ (T23.setTop (mkF m 142 #[.val (.int p1), .val (.int p2), .val (.int p3), .val (.int p4), .val (.int p5), .val (.int (0 : Int32)), .val (.int z2), .val (.int z4), .val (.int z6), .val (.ref x_8), .val (.ref x_12), .val (.ref x_14), .val w20, .unset, .unset, .unset, .unset] [(.int z4), w20, (.ref x_12), (.ref x_14), (.ref x_8), (.ref b23), (.ref b23)]))
              have F24 : Old Z n0 h23 := (((F13.keep K14 all0).keep K22 all0).ext E23)
              obtain ⟨_, _, ⟨T25, L25, k25, n25⟩, -, X25, ⟨Lc25, hQ25, l25, y25, z25⟩, st25⟩ := X23.specialBack hx (y := (⟨"com/example/corbel/corbel/Options$Option", "<init>", "(Ljava/lang/String;Ljava/lang/String;Ljava/lang/String;Ljava/lang/String;Z)V"⟩ : MethodName)) rfl hown22 (mvT hZ22 (hw _ (List.mem_of_getElem? (i := 37) rfl))) (mvT hZ22 (hw _ (List.mem_of_getElem? (i := 38) rfl))) (mvT hZ22 (hw _ (List.mem_of_getElem? (i := 39) rfl))) (by decide) (backOf (W := 1) (rmOI l Z a0 hw [] b23 (.ref x_8) (.ref x_14) (.ref x_12) w20 z4 h23 n0 (Nat.le_trans Z0 (Nat.le_trans (Nat.le_trans (Nat.le_trans (Nat.le_trans K8.1 K12.1) K14.1) K22.1) E23.1)) G1 O2 P5 F24 rfl rfl rfl hw20 A23 (D23 (Or.inr (hw _ (List.mem_of_getElem? (i := 47) rfl))) (ty := (.object "java/lang/String")) (by decide)) (D23 (Or.inr (hw _ (List.mem_of_getElem? (i := 49) rfl))) (ty := (.object "java/lang/String")) (by decide)) (D23 (Or.inr (hw _ (List.mem_of_getElem? (i := 51) rfl))) (ty := (.object "java/lang/String")) (by decide)) (D23 (Or.inr (hw _ (List.mem_of_getElem? (i := 53) rfl))) (ty := (.object "java/lang/String")) (by decide)) (D23 (Or.inr (hw _ (List.mem_of_getElem? (i := 55) rfl))) (ty := .boolean) (by decide)) (Nat.le_trans (Nat.le_trans Z0 (Nat.le_trans (Nat.le_trans (Nat.le_trans K8.1 K12.1) K14.1) K22.1)) (Nat.le_of_eq g23.symm))) hZ22 (hw _ (List.mem_of_getElem? (i := 39) rfl)) (hw _ (List.mem_of_getElem? (i := 36) rfl)) (by decide) (by decide)) (g := (mkF m 142 #[.val (.int p1), .val (.int p2), .val (.int p3), .val (.int p4), .val (.int p5), .val (.int (0 : Int32)), .val (.int z2), .val (.int z4), .val (.int z6), .val (.ref x_8), .val (.ref x_12), .val (.ref x_14), .val w20, .unset, .unset, .unset, .unset] [(.int z4), w20, (.ref x_12), (.ref x_14), (.ref x_8), (.ref b23), (.ref b23)])) rfl (by rw [hml]; rfl) (Steps.refl _) (a := b23) (argsL := [(.ref x_8), (.ref x_14), (.ref x_12), w20, (.int z4)]) (rest := [(.ref b23)]) (lenOf pd_2 rfl) rfl (by show 2 * 0 + _ ≤ _; exact Nat.le_of_eq rfl) (hb hby at_142) (fun _ _ => ⟨rfl, e23, (by decide : 17 + 0 ≤ _), (by decide : 37 + 0 ≤ _)⟩)
              dsimp only [Pt.U, Pt.locs, Pt.cells, Pt.slots] at X25 l25 y25 z25 st25 hQ25
              subst l25 y25 z25
              obtain ⟨rfl, Nq25, K25, f25_0, f25_1, f25_2, f25_3, f25_4⟩ := hQ25
              have N25 := Fr.app N22 Nq25
              refine Ends.go st25 ?_
              have K26 : Keep h22 T25.heap [] := (((Keep.refl h22 []).ext E23).trans K25 (allS (Or.inr (Nat.le_trans (Nat.le_refl _) (Nat.le_of_eq g23.symm))) all0))
              show Ends _ _ _ _ (T25.setTop (mkF m 145 #[.val (.int p1), .val (.int p2), .val (.int p3), .val (.int p4), .val (.int p5), .val (.int (0 : Int32)), .val (.int z2), .val (.int z4), .val (.int z6), .val (.ref x_8), .val (.ref x_12), .val (.ref x_14), .val w20, .unset, .unset, .unset, .unset] [(.ref b23)]))
              refine Ends.step (fun t k => XS.astore X25.here hx rfl (hb hby at_145) rfl rfl (l' := #[.val (.int p1), .val (.int p2), .val (.int p3), .val (.int p4), .val (.int p5), .val (.int (0 : Int32)), .val (.int z2), .val (.int z4), .val (.int z6), .val (.ref x_8), .val (.ref x_12), .val (.ref x_14), .val w20, .val (.ref b23), .unset, .unset, .unset]) rfl k) ?_
              show Ends _ _ _ _ (T25.setTop (mkF m 147 #[.val (.int p1), .val (.int p2), .val (.int p3), .val (.int p4), .val (.int p5), .val (.int (0 : Int32)), .val (.int z2), .val (.int z4), .val (.int z6), .val (.ref x_8), .val (.ref x_12), .val (.ref x_14), .val w20, .val (.ref b23), .unset, .unset, .unset] []))
              refine Ends.step (fun t k => XS.aload X25.here hx rfl (hb hby at_147) rfl rfl k) ?_
              show Ends _ _ _ _ (T25.setTop (mkF m 149 #[.val (.int p1), .val (.int p2), .val (.int p3), .val (.int p4), .val (.int p5), .val (.int (0 : Int32)), .val (.int z2), .val (.int z4), .val (.int z6), .val (.ref x_8), .val (.ref x_12), .val (.ref x_14), .val w20, .val (.ref b23), .unset, .unset, .unset] [(.ref b23)]))
              have F27 : Old Z n0 T25.heap := (F24.keep K25 (allS (Nat.le_trans (Nat.le_trans Z0 (Nat.le_trans (Nat.le_trans (Nat.le_trans K8.1 K12.1) K14.1) K22.1)) (Nat.le_of_eq g23.symm)) all0))
              obtain ⟨cq28, kq28, q28a, q28b, q28c⟩ := isOf hZ22 rfl f25_0
              obtain ⟨_, _, ⟨T28, L28, k28, n28⟩, -, X28, ⟨Lc28, hQ28, l28, y28, z28⟩, st28⟩ := X25.virtualBack hx (y := (⟨"com/example/corbel/corbel/Options$Option", "takesValue", "()Z"⟩ : MethodName)) (z := (⟨"com/example/corbel/corbel/Options$Option", "takesValue", "()Z"⟩ : MethodName)) hown22 (mvT hZ22 (hw _ (List.mem_of_getElem? (i := 56) rfl))) (mvT hZ22 (hw _ (List.mem_of_getElem? (i := 57) rfl))) (notFace_of_selects (args := #[]) (mvT hZ22 (hw _ (List.mem_of_getElem? (i := 59) rfl)))) (mvT hZ22 (hw _ (List.mem_of_getElem? (i := 59) rfl))) (mvT hZ22 (hw _ (List.mem_of_getElem? (i := 58) rfl))) (by decide) (backOf (W := 0) (rmTkR l Z a0 hw [] b23 x_14 T25.heap n0 (Nat.le_trans Z0 (Nat.le_trans (Nat.le_trans (Nat.le_trans (Nat.le_trans K8.1 K12.1) K14.1) K22.1) K26.1)) G1 O2 P5 F27 f25_2) hZ22 (hw _ (List.mem_of_getElem? (i := 60) rfl)) (hw _ (List.mem_of_getElem? (i := 36) rfl)) (by decide) (by decide)) q28a q28c (g := (mkF m 149 #[.val (.int p1), .val (.int p2), .val (.int p3), .val (.int p4), .val (.int p5), .val (.int (0 : Int32)), .val (.int z2), .val (.int z4), .val (.int z6), .val (.ref x_8), .val (.ref x_12), .val (.ref x_14), .val w20, .val (.ref b23), .unset, .unset, .unset] [(.ref b23)])) rfl (by rw [hml]; rfl) (Steps.refl _) (argsL := []) (rest := []) (lenOf pd_6 rfl) rfl (by show 2 * 0 + _ ≤ _; exact Nat.le_of_eq rfl) (hb hby at_149) (fun _ _ => ⟨rfl, rfl, (by decide : 17 + 0 ≤ _), (by decide : 37 + 0 ≤ _)⟩)
              dsimp only [Pt.U, Pt.locs, Pt.cells, Pt.slots] at X28 l28 y28 z28 st28 hQ28
              subst l28 y28 z28
              obtain ⟨rfl, Nq28, eh28⟩ := hQ28
              have N28 := Fr.app N25 Nq28
              refine Ends.go st28 ?_
              show Ends _ _ _ _ (T28.setTop (mkF m 152 #[.val (.int p1), .val (.int p2), .val (.int p3), .val (.int p4), .val (.int p5), .val (.int (0 : Int32)), .val (.int z2), .val (.int z4), .val (.int z6), .val (.ref x_8), .val (.ref x_12), .val (.ref x_14), .val w20, .val (.ref b23), .unset, .unset, .unset] [(.int (1 : Int32))]))
              refine Ends.step (fun t k => XS.iload X28.here hx rfl (hb hby at_152) rfl k) ?_
              show Ends _ _ _ _ (T28.setTop (mkF m 154 #[.val (.int p1), .val (.int p2), .val (.int p3), .val (.int p4), .val (.int p5), .val (.int (0 : Int32)), .val (.int z2), .val (.int z4), .val (.int z6), .val (.ref x_8), .val (.ref x_12), .val (.ref x_14), .val w20, .val (.ref b23), .unset, .unset, .unset] [(.int (0 : Int32)), (.int (1 : Int32))]))
              refine Ends.step (fun t k => XS.ifNo X28.here hx rfl (hb hby at_154) rfl ((if0 _ _).trans (teq (by decide : ((0 : Int32) = (0 : Int32)))).2) k) ?_
              show Ends _ _ _ _ (T28.setTop (mkF m 157 #[.val (.int p1), .val (.int p2), .val (.int p3), .val (.int p4), .val (.int p5), .val (.int (0 : Int32)), .val (.int z2), .val (.int z4), .val (.int z6), .val (.ref x_8), .val (.ref x_12), .val (.ref x_14), .val w20, .val (.ref b23), .unset, .unset, .unset] [(.int (1 : Int32))]))
              refine Ends.step (fun t k => XS.iconst X28.here hx rfl (hb hby at_157) k) ?_
              show Ends _ _ _ _ (T28.setTop (mkF m 158 #[.val (.int p1), .val (.int p2), .val (.int p3), .val (.int p4), .val (.int p5), .val (.int (0 : Int32)), .val (.int z2), .val (.int z4), .val (.int z6), .val (.ref x_8), .val (.ref x_12), .val (.ref x_14), .val w20, .val (.ref b23), .unset, .unset, .unset] [(.int (1 : Int32)), (.int (1 : Int32))]))
              refine Ends.step (fun t k => XS.goto X28.here hx rfl (pc0 := 158) (pc' := 162) rfl (hb hby at_158) (by decide) (by decide) k) ?_
              show Ends _ _ _ _ (T28.setTop (mkF m 162 #[.val (.int p1), .val (.int p2), .val (.int p3), .val (.int p4), .val (.int p5), .val (.int (0 : Int32)), .val (.int z2), .val (.int z4), .val (.int z6), .val (.ref x_8), .val (.ref x_12), .val (.ref x_14), .val w20, .val (.ref b23), .unset, .unset, .unset] [(.int (1 : Int32)), (.int (1 : Int32))]))
              refine Ends.step (fun t k => XS.icmpNo X28.here hx rfl (hb hby at_162) rfl (teq (by decide : ((1 : Int32) = (1 : Int32)))).2 k) ?_
              show Ends _ _ _ _ (T28.setTop (mkF m 165 #[.val (.int p1), .val (.int p2), .val (.int p3), .val (.int p4), .val (.int p5), .val (.int (0 : Int32)), .val (.int z2), .val (.int z4), .val (.int z6), .val (.ref x_8), .val (.ref x_12), .val (.ref x_14), .val w20, .val (.ref b23), .unset, .unset, .unset] []))
              refine Ends.step (fun t k => XS.iconst X28.here hx rfl (hb hby at_165) k) ?_
              show Ends _ _ _ _ (T28.setTop (mkF m 166 #[.val (.int p1), .val (.int p2), .val (.int p3), .val (.int p4), .val (.int p5), .val (.int (0 : Int32)), .val (.int z2), .val (.int z4), .val (.int z6), .val (.ref x_8), .val (.ref x_12), .val (.ref x_14), .val w20, .val (.ref b23), .unset, .unset, .unset] [(.int (1 : Int32))]))
              refine Ends.step (fun t k => XS.goto X28.here hx rfl (pc0 := 166) (pc' := 170) rfl (hb hby at_166) (by decide) (by decide) k) ?_
              show Ends _ _ _ _ (T28.setTop (mkF m 170 #[.val (.int p1), .val (.int p2), .val (.int p3), .val (.int p4), .val (.int p5), .val (.int (0 : Int32)), .val (.int z2), .val (.int z4), .val (.int z6), .val (.ref x_8), .val (.ref x_12), .val (.ref x_14), .val w20, .val (.ref b23), .unset, .unset, .unset] [(.int (1 : Int32))]))
              refine Ends.step (fun t k => XS.istore X28.here hx rfl (hb hby at_170) rfl (l' := #[.val (.int p1), .val (.int p2), .val (.int p3), .val (.int p4), .val (.int p5), .val (.int (0 : Int32)), .val (.int z2), .val (.int z4), .val (.int z6), .val (.ref x_8), .val (.ref x_12), .val (.ref x_14), .val w20, .val (.ref b23), .val (.int (1 : Int32)), .unset, .unset]) rfl k) ?_
              show Ends _ _ _ _ (T28.setTop (mkF m 172 #[.val (.int p1), .val (.int p2), .val (.int p3), .val (.int p4), .val (.int p5), .val (.int (0 : Int32)), .val (.int z2), .val (.int z4), .val (.int z6), .val (.ref x_8), .val (.ref x_12), .val (.ref x_14), .val w20, .val (.ref b23), .val (.int (1 : Int32)), .unset, .unset] []))
              refine Ends.step (fun t k => XS.aload X28.here hx rfl (hb hby at_172) rfl rfl k) ?_
              show Ends _ _ _ _ (T28.setTop (mkF m 174 #[.val (.int p1), .val (.int p2), .val (.int p3), .val (.int p4), .val (.int p5), .val (.int (0 : Int32)), .val (.int z2), .val (.int z4), .val (.int z6), .val (.ref x_8), .val (.ref x_12), .val (.ref x_14), .val w20, .val (.ref b23), .val (.int (1 : Int32)), .unset, .unset] [(.ref x_8)]))
              refine Ends.step (fun t k => XS.aload X28.here hx rfl (hb hby at_174) rfl rfl k) ?_
              show Ends _ _ _ _ (T28.setTop (mkF m 176 #[.val (.int p1), .val (.int p2), .val (.int p3), .val (.int p4), .val (.int p5), .val (.int (0 : Int32)), .val (.int z2), .val (.int z4), .val (.int z6), .val (.ref x_8), .val (.ref x_12), .val (.ref x_14), .val w20, .val (.ref b23), .val (.int (1 : Int32)), .unset, .unset] [(.ref x_12), (.ref x_8)]))
              obtain ⟨_, _, ⟨T29, L29, k29, n29⟩, -, X29, ⟨Lc29, hQ29, l29, y29, z29⟩, st29⟩ := Jvm.LawKit.callS X28 hx (y := (⟨"com/example/corbel/corbel/Options$Option", "flag", "(Ljava/lang/String;Ljava/lang/String;)Lcom/example/corbel/corbel/Options$Option;"⟩ : MethodName)) hown22 (mvT hZ22 (hw _ (List.mem_of_getElem? (i := 61) rfl))) (mvT hZ22 (hw _ (List.mem_of_getElem? (i := 62) rfl))) (mvT hZ22 (hw _ (List.mem_of_getElem? (i := 36) rfl))) (mvT hZ22 (hw _ (List.mem_of_getElem? (i := 63) rfl))) (by decide) (backOf (W := 0) (rmFl l Z a0 hw [] x_8 x_12 T25.heap n0 (Nat.le_trans Z0 (Nat.le_trans (Nat.le_trans (Nat.le_trans (Nat.le_trans K8.1 K12.1) K14.1) K22.1) K26.1)) G1 O2 P5 F27 ) hZ22 (hw _ (List.mem_of_getElem? (i := 63) rfl)) (hw _ (List.mem_of_getElem? (i := 36) rfl)) (by decide) (by decide)) (g := (mkF m 176 #[.val (.int p1), .val (.int p2), .val (.int p3), .val (.int p4), .val (.int p5), .val (.int (0 : Int32)), .val (.int z2), .val (.int z4), .val (.int z6), .val (.ref x_8), .val (.ref x_12), .val (.ref x_14), .val w20, .val (.ref b23), .val (.int (1 : Int32)), .unset, .unset] [(.ref x_12), (.ref x_8)])) rfl (by rw [hml]; rfl) (argsL := [(.ref x_8), (.ref x_12)]) (rest := []) (lenOf pd_7 rfl) rfl (by show 2 * 0 + _ ≤ _; exact Nat.le_of_eq rfl) (hb hby at_176) (fun _ _ => ⟨rfl, eh28, (by decide : 17 + 1 ≤ _), (by decide : 37 + 5 ≤ _)⟩)
              dsimp only [Pt.U, Pt.locs, Pt.cells, Pt.slots] at X29 l29 y29 z29 st29 hQ29
              subst l29 y29 z29
              obtain ⟨x_29, rfl, Nq29, K29, f29_0, f29_1, f29_2⟩ := hQ29
              have N29 := Fr.app N28 Nq29
              refine Ends.step st29 ?_
              show Ends _ _ _ _ (T29.setTop (mkF m 179 #[.val (.int p1), .val (.int p2), .val (.int p3), .val (.int p4), .val (.int p5), .val (.int (0 : Int32)), .val (.int z2), .val (.int z4), .val (.int z6), .val (.ref x_8), .val (.ref x_12), .val (.ref x_14), .val w20, .val (.ref b23), .val (.int (1 : Int32)), .unset, .unset] [(.ref x_29)]))
              refine Ends.step (fun t k => XS.astore X29.here hx rfl (hb hby at_179) rfl rfl (l' := #[.val (.int p1), .val (.int p2), .val (.int p3), .val (.int p4), .val (.int p5), .val (.int (0 : Int32)), .val (.int z2), .val (.int z4), .val (.int z6), .val (.ref x_8), .val (.ref x_12), .val (.ref x_14), .val w20, .val (.ref b23), .val (.int (1 : Int32)), .val (.ref x_29), .unset]) rfl k) ?_
              show Ends _ _ _ _ (T29.setTop (mkF m 181 #[.val (.int p1), .val (.int p2), .val (.int p3), .val (.int p4), .val (.int p5), .val (.int (0 : Int32)), .val (.int z2), .val (.int z4), .val (.int z6), .val (.ref x_8), .val (.ref x_12), .val (.ref x_14), .val w20, .val (.ref b23), .val (.int (1 : Int32)), .val (.ref x_29), .unset] []))
              refine Ends.step (fun t k => XS.iload X29.here hx rfl (hb hby at_181) rfl k) ?_
              show Ends _ _ _ _ (T29.setTop (mkF m 183 #[.val (.int p1), .val (.int p2), .val (.int p3), .val (.int p4), .val (.int p5), .val (.int (0 : Int32)), .val (.int z2), .val (.int z4), .val (.int z6), .val (.ref x_8), .val (.ref x_12), .val (.ref x_14), .val w20, .val (.ref b23), .val (.int (1 : Int32)), .val (.ref x_29), .unset] [(.int (1 : Int32))]))
              refine Ends.step (fun t k => XS.ifNo X29.here hx rfl (hb hby at_183) rfl ((if0 _ _).trans (feq (by decide : ¬ ((1 : Int32) = (0 : Int32)))).1) k) ?_
              show Ends _ _ _ _ (T29.setTop (mkF m 186 #[.val (.int p1), .val (.int p2), .val (.int p3), .val (.int p4), .val (.int p5), .val (.int (0 : Int32)), .val (.int z2), .val (.int z4), .val (.int z6), .val (.ref x_8), .val (.ref x_12), .val (.ref x_14), .val w20, .val (.ref b23), .val (.int (1 : Int32)), .val (.ref x_29), .unset] []))
              refine Ends.step (fun t k => XS.aload X29.here hx rfl (hb hby at_186) rfl rfl k) ?_
              show Ends _ _ _ _ (T29.setTop (mkF m 188 #[.val (.int p1), .val (.int p2), .val (.int p3), .val (.int p4), .val (.int p5), .val (.int (0 : Int32)), .val (.int z2), .val (.int z4), .val (.int z6), .val (.ref x_8), .val (.ref x_12), .val (.ref x_14), .val w20, .val (.ref b23), .val (.int (1 : Int32)), .val (.ref x_29), .unset] [(.ref x_29)]))
              have F30 : Old Z n0 T29.heap := (F27.keep K29 all0)
              obtain ⟨cq31, kq31, q31a, q31b, q31c⟩ := isOf hZ22 rfl f29_1
              obtain ⟨_, _, ⟨T31, L31, k31, n31⟩, -, X31, ⟨Lc31, hQ31, l31, y31, z31⟩, st31⟩ := X29.virtualBack hx (y := (⟨"com/example/corbel/corbel/Options$Option", "takesValue", "()Z"⟩ : MethodName)) (z := (⟨"com/example/corbel/corbel/Options$Option", "takesValue", "()Z"⟩ : MethodName)) hown22 (mvT hZ22 (hw _ (List.mem_of_getElem? (i := 56) rfl))) (mvT hZ22 (hw _ (List.mem_of_getElem? (i := 57) rfl))) (notFace_of_selects (args := #[]) (mvT hZ22 (hw _ (List.mem_of_getElem? (i := 59) rfl)))) (mvT hZ22 (hw _ (List.mem_of_getElem? (i := 59) rfl))) (mvT hZ22 (hw _ (List.mem_of_getElem? (i := 58) rfl))) (by decide) (backOf (W := 0) (rmTkN l Z a0 hw [] x_29 T29.heap n0 (Nat.le_trans Z0 (Nat.le_trans (Nat.le_trans (Nat.le_trans (Nat.le_trans (Nat.le_trans K8.1 K12.1) K14.1) K22.1) K26.1) K29.1)) G1 O2 P5 F30 f29_2) hZ22 (hw _ (List.mem_of_getElem? (i := 60) rfl)) (hw _ (List.mem_of_getElem? (i := 36) rfl)) (by decide) (by decide)) q31a q31c (g := (mkF m 188 #[.val (.int p1), .val (.int p2), .val (.int p3), .val (.int p4), .val (.int p5), .val (.int (0 : Int32)), .val (.int z2), .val (.int z4), .val (.int z6), .val (.ref x_8), .val (.ref x_12), .val (.ref x_14), .val w20, .val (.ref b23), .val (.int (1 : Int32)), .val (.ref x_29), .unset] [(.ref x_29)])) rfl (by rw [hml]; rfl) (Steps.refl _) (argsL := []) (rest := []) (lenOf pd_6 rfl) rfl (by show 2 * 0 + _ ≤ _; exact Nat.le_of_eq rfl) (hb hby at_188) (fun _ _ => ⟨rfl, rfl, (by decide : 18 + 0 ≤ _), (by decide : 42 + 0 ≤ _)⟩)
              dsimp only [Pt.U, Pt.locs, Pt.cells, Pt.slots] at X31 l31 y31 z31 st31 hQ31
              subst l31 y31 z31
              obtain ⟨rfl, Nq31, eh31⟩ := hQ31
              have N31 := Fr.app N29 Nq31
              refine Ends.go st31 ?_
              show Ends _ _ _ _ (T31.setTop (mkF m 191 #[.val (.int p1), .val (.int p2), .val (.int p3), .val (.int p4), .val (.int p5), .val (.int (0 : Int32)), .val (.int z2), .val (.int z4), .val (.int z6), .val (.ref x_8), .val (.ref x_12), .val (.ref x_14), .val w20, .val (.ref b23), .val (.int (1 : Int32)), .val (.ref x_29), .unset] [(.int (0 : Int32))]))
              refine Ends.step (fun t k => XS.ifNo X31.here hx rfl (hb hby at_191) rfl ((if0 _ _).trans (teq (by decide : ((0 : Int32) = (0 : Int32)))).2) k) ?_
              show Ends _ _ _ _ (T31.setTop (mkF m 194 #[.val (.int p1), .val (.int p2), .val (.int p3), .val (.int p4), .val (.int p5), .val (.int (0 : Int32)), .val (.int z2), .val (.int z4), .val (.int z6), .val (.ref x_8), .val (.ref x_12), .val (.ref x_14), .val w20, .val (.ref b23), .val (.int (1 : Int32)), .val (.ref x_29), .unset] []))
              refine Ends.step (fun t k => XS.iconst X31.here hx rfl (hb hby at_194) k) ?_
              show Ends _ _ _ _ (T31.setTop (mkF m 195 #[.val (.int p1), .val (.int p2), .val (.int p3), .val (.int p4), .val (.int p5), .val (.int (0 : Int32)), .val (.int z2), .val (.int z4), .val (.int z6), .val (.ref x_8), .val (.ref x_12), .val (.ref x_14), .val w20, .val (.ref b23), .val (.int (1 : Int32)), .val (.ref x_29), .unset] [(.int (1 : Int32))]))
              refine Ends.step (fun t k => XS.goto X31.here hx rfl (pc0 := 195) (pc' := 199) rfl (hb hby at_195) (by decide) (by decide) k) ?_
              show Ends _ _ _ _ (T31.setTop (mkF m 199 #[.val (.int p1), .val (.int p2), .val (.int p3), .val (.int p4), .val (.int p5), .val (.int (0 : Int32)), .val (.int z2), .val (.int z4), .val (.int z6), .val (.ref x_8), .val (.ref x_12), .val (.ref x_14), .val w20, .val (.ref b23), .val (.int (1 : Int32)), .val (.ref x_29), .unset] [(.int (1 : Int32))]))
              refine Ends.step (fun t k => XS.istore X31.here hx rfl (hb hby at_199) rfl (l' := #[.val (.int p1), .val (.int p2), .val (.int p3), .val (.int p4), .val (.int p5), .val (.int (0 : Int32)), .val (.int z2), .val (.int z4), .val (.int z6), .val (.ref x_8), .val (.ref x_12), .val (.ref x_14), .val w20, .val (.ref b23), .val (.int (1 : Int32)), .val (.ref x_29), .unset]) rfl k) ?_
              show Ends _ _ _ _ (T31.setTop (mkF m 201 #[.val (.int p1), .val (.int p2), .val (.int p3), .val (.int p4), .val (.int p5), .val (.int (0 : Int32)), .val (.int z2), .val (.int z4), .val (.int z6), .val (.ref x_8), .val (.ref x_12), .val (.ref x_14), .val w20, .val (.ref b23), .val (.int (1 : Int32)), .val (.ref x_29), .unset] []))
              refine Ends.step (fun t k => XS.aload X31.here hx rfl (hb hby at_201) rfl rfl k) ?_
              show Ends _ _ _ _ (T31.setTop (mkF m 203 #[.val (.int p1), .val (.int p2), .val (.int p3), .val (.int p4), .val (.int p5), .val (.int (0 : Int32)), .val (.int z2), .val (.int z4), .val (.int z6), .val (.ref x_8), .val (.ref x_12), .val (.ref x_14), .val w20, .val (.ref b23), .val (.int (1 : Int32)), .val (.ref x_29), .unset] [(.ref b23)]))
              have F32 : Exa Z T29.heap b23 "com/example/corbel/corbel/Options$Option" := (f25_0.keep K29)
              have F33 : Fld Z T29.heap b23 "com/example/corbel/corbel/Options$Option" "name" "Ljava/lang/String;" (.ref x_8) := (f25_1.keep K29 nin0)
              have F34 : Fld Z T29.heap b23 "com/example/corbel/corbel/Options$Option" "value" "Ljava/lang/String;" (.ref x_14) := (f25_2.keep K29 nin0)
              have F35 : Fld Z T29.heap b23 "com/example/corbel/corbel/Options$Option" "meaning" "Ljava/lang/String;" (.ref x_12) := (f25_3.keep K29 nin0)
              obtain ⟨cq36, kq36, q36a, q36b, q36c⟩ := isOf hZ22 eh31 F32
              obtain ⟨_, _, ⟨T36, L36, k36, n36⟩, -, X36, ⟨Lc36, hQ36, l36, y36, z36⟩, st36⟩ := X31.virtualBack hx (y := (⟨"com/example/corbel/corbel/Options$Option", "asOptional", "()Lcom/example/corbel/corbel/Options$Option;"⟩ : MethodName)) (z := (⟨"com/example/corbel/corbel/Options$Option", "asOptional", "()Lcom/example/corbel/corbel/Options$Option;"⟩ : MethodName)) hown22 (mvT hZ22 (hw _ (List.mem_of_getElem? (i := 66) rfl))) (mvT hZ22 (hw _ (List.mem_of_getElem? (i := 67) rfl))) (notFace_of_selects (args := #[]) (mvT hZ22 (hw _ (List.mem_of_getElem? (i := 69) rfl)))) (mvT hZ22 (hw _ (List.mem_of_getElem? (i := 69) rfl))) (mvT hZ22 (hw _ (List.mem_of_getElem? (i := 68) rfl))) (by decide) (backOf (W := 0) (rmAs l Z a0 hw [] b23 (.ref x_8) (.ref x_14) (.ref x_12) T29.heap n0 (Nat.le_trans Z0 (Nat.le_trans (Nat.le_trans (Nat.le_trans (Nat.le_trans (Nat.le_trans K8.1 K12.1) K14.1) K22.1) K26.1) K29.1)) G1 O2 P5 F30 F33 F34 F35 rfl rfl rfl) hZ22 (hw _ (List.mem_of_getElem? (i := 70) rfl)) (hw _ (List.mem_of_getElem? (i := 36) rfl)) (by decide) (by decide)) q36a q36c (g := (mkF m 203 #[.val (.int p1), .val (.int p2), .val (.int p3), .val (.int p4), .val (.int p5), .val (.int (0 : Int32)), .val (.int z2), .val (.int z4), .val (.int z6), .val (.ref x_8), .val (.ref x_12), .val (.ref x_14), .val w20, .val (.ref b23), .val (.int (1 : Int32)), .val (.ref x_29), .unset] [(.ref b23)])) rfl (by rw [hml]; rfl) (Steps.refl _) (argsL := []) (rest := []) (lenOf pd_8 rfl) rfl (by show 2 * 0 + _ ≤ _; exact Nat.le_of_eq rfl) (hb hby at_203) (fun _ _ => ⟨rfl, eh31, (by decide : 18 + 1 ≤ _), (by decide : 42 + 5 ≤ _)⟩)
              dsimp only [Pt.U, Pt.locs, Pt.cells, Pt.slots] at X36 l36 y36 z36 st36 hQ36
              subst l36 y36 z36
              obtain ⟨x_36, rfl, Nq36, K36, f36_0, f36_1, f36_2⟩ := hQ36
              have N36 := Fr.app N31 Nq36
              refine Ends.go st36 ?_
              show Ends _ _ _ _ (T36.setTop (mkF m 206 #[.val (.int p1), .val (.int p2), .val (.int p3), .val (.int p4), .val (.int p5), .val (.int (0 : Int32)), .val (.int z2), .val (.int z4), .val (.int z6), .val (.ref x_8), .val (.ref x_12), .val (.ref x_14), .val w20, .val (.ref b23), .val (.int (1 : Int32)), .val (.ref x_29), .unset] [(.ref x_36)]))
              refine Ends.step (fun t k => XS.astore X36.here hx rfl (hb hby at_206) rfl rfl (l' := #[.val (.int p1), .val (.int p2), .val (.int p3), .val (.int p4), .val (.int p5), .val (.int (0 : Int32)), .val (.int z2), .val (.int z4), .val (.int z6), .val (.ref x_8), .val (.ref x_12), .val (.ref x_14), .val w20, .val (.ref b23), .val (.int (1 : Int32)), .val (.ref x_29), .val (.ref x_36)]) rfl k) ?_
              show Ends _ _ _ _ (T36.setTop (mkF m 208 #[.val (.int p1), .val (.int p2), .val (.int p3), .val (.int p4), .val (.int p5), .val (.int (0 : Int32)), .val (.int z2), .val (.int z4), .val (.int z6), .val (.ref x_8), .val (.ref x_12), .val (.ref x_14), .val w20, .val (.ref b23), .val (.int (1 : Int32)), .val (.ref x_29), .val (.ref x_36)] []))
              refine Ends.step (fun t k => XS.iload X36.here hx rfl (hb hby at_208) rfl k) ?_
              show Ends _ _ _ _ (T36.setTop (mkF m 210 #[.val (.int p1), .val (.int p2), .val (.int p3), .val (.int p4), .val (.int p5), .val (.int (0 : Int32)), .val (.int z2), .val (.int z4), .val (.int z6), .val (.ref x_8), .val (.ref x_12), .val (.ref x_14), .val w20, .val (.ref b23), .val (.int (1 : Int32)), .val (.ref x_29), .val (.ref x_36)] [(.int (1 : Int32))]))
              refine Ends.step (fun t k => XS.ifNo X36.here hx rfl (hb hby at_210) rfl ((if0 _ _).trans (feq (by decide : ¬ ((1 : Int32) = (0 : Int32)))).1) k) ?_
              show Ends _ _ _ _ (T36.setTop (mkF m 213 #[.val (.int p1), .val (.int p2), .val (.int p3), .val (.int p4), .val (.int p5), .val (.int (0 : Int32)), .val (.int z2), .val (.int z4), .val (.int z6), .val (.ref x_8), .val (.ref x_12), .val (.ref x_14), .val w20, .val (.ref b23), .val (.int (1 : Int32)), .val (.ref x_29), .val (.ref x_36)] []))
              refine Ends.step (fun t k => XS.aload X36.here hx rfl (hb hby at_213) rfl rfl k) ?_
              show Ends _ _ _ _ (T36.setTop (mkF m 215 #[.val (.int p1), .val (.int p2), .val (.int p3), .val (.int p4), .val (.int p5), .val (.int (0 : Int32)), .val (.int z2), .val (.int z4), .val (.int z6), .val (.ref x_8), .val (.ref x_12), .val (.ref x_14), .val w20, .val (.ref b23), .val (.int (1 : Int32)), .val (.ref x_29), .val (.ref x_36)] [(.ref x_36)]))
              have F37 : Old Z n0 T36.heap := (F30.keep K36 all0)
              obtain ⟨cq38, kq38, q38a, q38b, q38c⟩ := isOf hZ22 rfl f36_1
              obtain ⟨_, _, ⟨T38, L38, k38, n38⟩, -, X38, ⟨Lc38, hQ38, l38, y38, z38⟩, st38⟩ := X36.virtualBack hx (y := (⟨"com/example/corbel/corbel/Options$Option", "takesValue", "()Z"⟩ : MethodName)) (z := (⟨"com/example/corbel/corbel/Options$Option", "takesValue", "()Z"⟩ : MethodName)) hown22 (mvT hZ22 (hw _ (List.mem_of_getElem? (i := 56) rfl))) (mvT hZ22 (hw _ (List.mem_of_getElem? (i := 57) rfl))) (notFace_of_selects (args := #[]) (mvT hZ22 (hw _ (List.mem_of_getElem? (i := 59) rfl)))) (mvT hZ22 (hw _ (List.mem_of_getElem? (i := 59) rfl))) (mvT hZ22 (hw _ (List.mem_of_getElem? (i := 58) rfl))) (by decide) (backOf (W := 0) (rmTkR l Z a0 hw [] x_36 x_14 T36.heap n0 (Nat.le_trans Z0 (Nat.le_trans (Nat.le_trans (Nat.le_trans (Nat.le_trans (Nat.le_trans (Nat.le_trans K8.1 K12.1) K14.1) K22.1) K26.1) K29.1) K36.1)) G1 O2 P5 F37 f36_2) hZ22 (hw _ (List.mem_of_getElem? (i := 60) rfl)) (hw _ (List.mem_of_getElem? (i := 36) rfl)) (by decide) (by decide)) q38a q38c (g := (mkF m 215 #[.val (.int p1), .val (.int p2), .val (.int p3), .val (.int p4), .val (.int p5), .val (.int (0 : Int32)), .val (.int z2), .val (.int z4), .val (.int z6), .val (.ref x_8), .val (.ref x_12), .val (.ref x_14), .val w20, .val (.ref b23), .val (.int (1 : Int32)), .val (.ref x_29), .val (.ref x_36)] [(.ref x_36)])) rfl (by rw [hml]; rfl) (Steps.refl _) (argsL := []) (rest := []) (lenOf pd_6 rfl) rfl (by show 2 * 0 + _ ≤ _; exact Nat.le_of_eq rfl) (hb hby at_215) (fun _ _ => ⟨rfl, rfl, (by decide : 19 + 0 ≤ _), (by decide : 47 + 0 ≤ _)⟩)
              dsimp only [Pt.U, Pt.locs, Pt.cells, Pt.slots] at X38 l38 y38 z38 st38 hQ38
              subst l38 y38 z38
              obtain ⟨rfl, Nq38, eh38⟩ := hQ38
              have N38 := Fr.app N36 Nq38
              refine Ends.go st38 ?_
              show Ends _ _ _ _ (T38.setTop (mkF m 218 #[.val (.int p1), .val (.int p2), .val (.int p3), .val (.int p4), .val (.int p5), .val (.int (0 : Int32)), .val (.int z2), .val (.int z4), .val (.int z6), .val (.ref x_8), .val (.ref x_12), .val (.ref x_14), .val w20, .val (.ref b23), .val (.int (1 : Int32)), .val (.ref x_29), .val (.ref x_36)] [(.int (1 : Int32))]))
              refine Ends.step (fun t k => XS.iload X38.here hx rfl (hb hby at_218) rfl k) ?_
              show Ends _ _ _ _ (T38.setTop (mkF m 220 #[.val (.int p1), .val (.int p2), .val (.int p3), .val (.int p4), .val (.int p5), .val (.int (0 : Int32)), .val (.int z2), .val (.int z4), .val (.int z6), .val (.ref x_8), .val (.ref x_12), .val (.ref x_14), .val w20, .val (.ref b23), .val (.int (1 : Int32)), .val (.ref x_29), .val (.ref x_36)] [(.int (0 : Int32)), (.int (1 : Int32))]))
              refine Ends.step (fun t k => XS.ifNo X38.here hx rfl (hb hby at_220) rfl ((if0 _ _).trans (teq (by decide : ((0 : Int32) = (0 : Int32)))).2) k) ?_
              show Ends _ _ _ _ (T38.setTop (mkF m 223 #[.val (.int p1), .val (.int p2), .val (.int p3), .val (.int p4), .val (.int p5), .val (.int (0 : Int32)), .val (.int z2), .val (.int z4), .val (.int z6), .val (.ref x_8), .val (.ref x_12), .val (.ref x_14), .val w20, .val (.ref b23), .val (.int (1 : Int32)), .val (.ref x_29), .val (.ref x_36)] [(.int (1 : Int32))]))
              refine Ends.step (fun t k => XS.iconst X38.here hx rfl (hb hby at_223) k) ?_
              show Ends _ _ _ _ (T38.setTop (mkF m 224 #[.val (.int p1), .val (.int p2), .val (.int p3), .val (.int p4), .val (.int p5), .val (.int (0 : Int32)), .val (.int z2), .val (.int z4), .val (.int z6), .val (.ref x_8), .val (.ref x_12), .val (.ref x_14), .val w20, .val (.ref b23), .val (.int (1 : Int32)), .val (.ref x_29), .val (.ref x_36)] [(.int (1 : Int32)), (.int (1 : Int32))]))
              refine Ends.step (fun t k => XS.goto X38.here hx rfl (pc0 := 224) (pc' := 228) rfl (hb hby at_224) (by decide) (by decide) k) ?_
              show Ends _ _ _ _ (T38.setTop (mkF m 228 #[.val (.int p1), .val (.int p2), .val (.int p3), .val (.int p4), .val (.int p5), .val (.int (0 : Int32)), .val (.int z2), .val (.int z4), .val (.int z6), .val (.ref x_8), .val (.ref x_12), .val (.ref x_14), .val w20, .val (.ref b23), .val (.int (1 : Int32)), .val (.ref x_29), .val (.ref x_36)] [(.int (1 : Int32)), (.int (1 : Int32))]))
              refine Ends.step (fun t k => XS.icmpNo X38.here hx rfl (hb hby at_228) rfl (teq (by decide : ((1 : Int32) = (1 : Int32)))).2 k) ?_
              show Ends _ _ _ _ (T38.setTop (mkF m 231 #[.val (.int p1), .val (.int p2), .val (.int p3), .val (.int p4), .val (.int p5), .val (.int (0 : Int32)), .val (.int z2), .val (.int z4), .val (.int z6), .val (.ref x_8), .val (.ref x_12), .val (.ref x_14), .val w20, .val (.ref b23), .val (.int (1 : Int32)), .val (.ref x_29), .val (.ref x_36)] []))
              refine Ends.step (fun t k => XS.iconst X38.here hx rfl (hb hby at_231) k) ?_
              show Ends _ _ _ _ (T38.setTop (mkF m 232 #[.val (.int p1), .val (.int p2), .val (.int p3), .val (.int p4), .val (.int p5), .val (.int (0 : Int32)), .val (.int z2), .val (.int z4), .val (.int z6), .val (.ref x_8), .val (.ref x_12), .val (.ref x_14), .val w20, .val (.ref b23), .val (.int (1 : Int32)), .val (.ref x_29), .val (.ref x_36)] [(.int (1 : Int32))]))
              refine Ends.step (fun t k => XS.goto X38.here hx rfl (pc0 := 232) (pc' := 236) rfl (hb hby at_232) (by decide) (by decide) k) ?_
              show Ends _ _ _ _ (T38.setTop (mkF m 236 #[.val (.int p1), .val (.int p2), .val (.int p3), .val (.int p4), .val (.int p5), .val (.int (0 : Int32)), .val (.int z2), .val (.int z4), .val (.int z6), .val (.ref x_8), .val (.ref x_12), .val (.ref x_14), .val w20, .val (.ref b23), .val (.int (1 : Int32)), .val (.ref x_29), .val (.ref x_36)] [(.int (1 : Int32))]))
              refine Ends.step (fun t k => XS.istore X38.here hx rfl (hb hby at_236) rfl (l' := #[.val (.int p1), .val (.int p2), .val (.int p3), .val (.int p4), .val (.int p5), .val (.int (0 : Int32)), .val (.int z2), .val (.int z4), .val (.int z6), .val (.ref x_8), .val (.ref x_12), .val (.ref x_14), .val w20, .val (.ref b23), .val (.int (1 : Int32)), .val (.ref x_29), .val (.ref x_36)]) rfl k) ?_
              show Ends _ _ _ _ (T38.setTop (mkF m 238 #[.val (.int p1), .val (.int p2), .val (.int p3), .val (.int p4), .val (.int p5), .val (.int (0 : Int32)), .val (.int z2), .val (.int z4), .val (.int z6), .val (.ref x_8), .val (.ref x_12), .val (.ref x_14), .val w20, .val (.ref b23), .val (.int (1 : Int32)), .val (.ref x_29), .val (.ref x_36)] []))
              refine Ends.step (fun t k => XS.iload X38.here hx rfl (hb hby at_238) rfl k) ?_
              show Ends _ _ _ _ (T38.setTop (mkF m 240 #[.val (.int p1), .val (.int p2), .val (.int p3), .val (.int p4), .val (.int p5), .val (.int (0 : Int32)), .val (.int z2), .val (.int z4), .val (.int z6), .val (.ref x_8), .val (.ref x_12), .val (.ref x_14), .val w20, .val (.ref b23), .val (.int (1 : Int32)), .val (.ref x_29), .val (.ref x_36)] [(.int (1 : Int32))]))
              have CR39 := own_chrK CR22 K26
              have CR40 := own_chrK CR39 K29
              have CR41 := own_chrK CR40 K36
              exact own_finIW X38 hS22 hx hlk hh (own_hEL hw) (Nat.le_trans hk22 (Nat.le_trans (Nat.le_trans K26.1 K29.1) K36.1)) CR41 hZ22 (t := .boolean) Bd.returns (by simp) rfl (hb hby at_240) eh38 ⟨rfl, N38, ((((((((Keep.refl h0 []).trans K8 all0).trans K12 all0).trans K14 all0).trans K22 all0).trans K26 all0).trans K29 all0).trans K36 all0)⟩ (by decide) (by decide)
            by_cases c42 : z2 = (0 : Int32)
            · refine Ends.step (fun t k => XS.ifYes X14.here hx rfl (pc0 := 102) (pc' := 109) rfl (hb hby at_102) rfl ((if0 _ _).trans (teq c42).1) (by decide) (by decide) k) ?_
              show Ends _ _ _ _ (T14.setTop (mkF m 109 #[.val (.int p1), .val (.int p2), .val (.int p3), .val (.int p4), .val (.int p5), .val (.int (0 : Int32)), .val (.int z2), .val (.int z4), .val (.int z6), .val (.ref x_8), .val (.ref x_12), .val (.ref x_14), .unset, .unset, .unset, .unset, .unset] []))
              refine Ends.step (fun t k => XS.iloadN X14.here hx rfl (hb hby at_109) rfl k) ?_
              show Ends _ _ _ _ (T14.setTop (mkF m 110 #[.val (.int p1), .val (.int p2), .val (.int p3), .val (.int p4), .val (.int p5), .val (.int (0 : Int32)), .val (.int z2), .val (.int z4), .val (.int z6), .val (.ref x_8), .val (.ref x_12), .val (.ref x_14), .unset, .unset, .unset, .unset, .unset] [(.int p4)]))
              refine Ends.step (fun t k => XS.iload X14.here hx rfl (hb hby at_110) rfl k) ?_
              show Ends _ _ _ _ (T14.setTop (mkF m 112 #[.val (.int p1), .val (.int p2), .val (.int p3), .val (.int p4), .val (.int p5), .val (.int (0 : Int32)), .val (.int z2), .val (.int z4), .val (.int z6), .val (.ref x_8), .val (.ref x_12), .val (.ref x_14), .unset, .unset, .unset, .unset, .unset] [(.int p5), (.int p4)]))
              refine Ends.step (fun t k => XS.bipush X14.here hx rfl (hb hby at_112) k) ?_
              show Ends _ _ _ _ (T14.setTop (mkF m 114 #[.val (.int p1), .val (.int p2), .val (.int p3), .val (.int p4), .val (.int p5), .val (.int (0 : Int32)), .val (.int z2), .val (.int z4), .val (.int z6), .val (.ref x_8), .val (.ref x_12), .val (.ref x_14), .unset, .unset, .unset, .unset, .unset] [(.int (32 : Int32)), (.int p5), (.int p4)]))
              refine Ends.step (fun t k => XS.iand X14.here hx rfl (hb hby at_114) rfl k) ?_
              show Ends _ _ _ _ (T14.setTop (mkF m 115 #[.val (.int p1), .val (.int p2), .val (.int p3), .val (.int p4), .val (.int p5), .val (.int (0 : Int32)), .val (.int z2), .val (.int z4), .val (.int z6), .val (.ref x_8), .val (.ref x_12), .val (.ref x_14), .unset, .unset, .unset, .unset, .unset] [(.int (p5 &&& (32 : Int32))), (.int p4)]))
              have J44 : ∀ (z43 : Int32) (hz43 : z43 = (0 : Int32) ∨ z43 = (1 : Int32)), Ends p.tables e below (fun o U' => ∃ v L, o = .returned v ∧ Qrm0 Z p1 p2 p3 p4 p5 h0 n0 v U'.heap L ∧ CHr Z consts_1 s.vm s.heap U'.vm U'.heap ∧ ReturnedEndW s o U' L 40 1216) (T14.setTop (mkF m 123 #[.val (.int p1), .val (.int p2), .val (.int p3), .val (.int p4), .val (.int p5), .val (.int (0 : Int32)), .val (.int z2), .val (.int z4), .val (.int z6), .val (.ref x_8), .val (.ref x_12), .val (.ref x_14), .unset, .unset, .unset, .unset, .unset] [(.int z43), (.int p4)])) := by
                intro z43 hz43
                show Ends _ _ _ _ (T14.setTop (mkF m 123 #[.val (.int p1), .val (.int p2), .val (.int p3), .val (.int p4), .val (.int p5), .val (.int (0 : Int32)), .val (.int z2), .val (.int z4), .val (.int z6), .val (.ref x_8), .val (.ref x_12), .val (.ref x_14), .unset, .unset, .unset, .unset, .unset] [(.int z43), (.int p4)]))
                have F45 : Old Z n0 T14.heap := (F13.keep K14 all0)
                obtain ⟨_, _, ⟨T46, L46, k46, n46⟩, -, Xs46, hs46, hg46, ⟨Lc46, hQ46, l46, y46, z46, CRc46⟩, st46⟩ := callSS X14 hx (y := (⟨"com/example/corbel/corbel/OptionTakesValuePinLaw", "drawn", "(II)Ljava/lang/String;"⟩ : MethodName)) hown14 (mvT hZ14 (hw _ (List.mem_of_getElem? (i := 0) rfl))) (mvT hZ14 (hw _ (List.mem_of_getElem? (i := 1) rfl))) (mvT hZ14 (hw _ (List.mem_of_getElem? (i := 2) rfl))) (mvT hZ14 (hw _ (List.mem_of_getElem? (i := 3) rfl))) (by decide) (backOfSH (s := s) (vm0 := T14.vm) (W := 0) (rmDr l Z a0 hw [] p4 z43 T14.heap n0 (Nat.le_trans Z0 (Nat.le_trans (Nat.le_trans K8.1 K12.1) K14.1)) G1 O2 P5 F45 ) hZ14 (hw _ (List.mem_of_getElem? (i := 3) rfl)) (hw _ (List.mem_of_getElem? (i := 2) rfl)) (by decide) (by decide) (own_hEL hw) CR14.1) (g := (mkF m 123 #[.val (.int p1), .val (.int p2), .val (.int p3), .val (.int p4), .val (.int p5), .val (.int (0 : Int32)), .val (.int z2), .val (.int z4), .val (.int z6), .val (.ref x_8), .val (.ref x_12), .val (.ref x_14), .unset, .unset, .unset, .unset, .unset] [(.int z43), (.int p4)])) rfl (by rw [hml]; rfl) (argsL := [(.int p4), (.int z43)]) (rest := []) (lenOf pd_5 rfl) rfl (by show 2 * 0 + _ ≤ _; exact Nat.le_of_eq rfl) (hb hby at_123) (fun _ _ => ⟨rfl, rfl, (by decide : 12 + 4 ≤ _), (by decide : 24 + 8 ≤ _)⟩)
                dsimp only [Pt.U, Pt.locs, Pt.cells, Pt.slots] at Xs46 hs46 hg46 l46 y46 z46 st46 hQ46 CRc46
                subst l46 y46 z46
                obtain ⟨X46, hS46, hZ46, hown46⟩ := rebS hS14 (Nat.le_trans (Nat.le_refl _) (Nat.le_of_eq (congrArg Array.size (Eq.symm rfl)))) Xs46 hs46 hg46 hZ14 hown14
                have CR46 := CR14.trans CRc46
                obtain ⟨x_46, rfl, Nq46, K46, f46_0, f46_1⟩ := hQ46
                have N46 := Fr.app N14 Nq46
                refine Ends.go st46 ?_
                exact J21 (.ref x_46) T46.vm T46 T46.heap _ (own_mono X46 (by decide) (by decide)) rfl N46 ((Keep.refl T14.heap []).trans K46 all0) _ hZ46 hown46 hS46 (Nat.le_refl _) CR46 rfl
              by_cases c47 : (p5 &&& (32 : Int32)) = (0 : Int32)
              · refine Ends.step (fun t k => XS.ifYes X14.here hx rfl (pc0 := 115) (pc' := 122) rfl (hb hby at_115) rfl ((if0 _ _).trans (teq c47).1) (by decide) (by decide) k) ?_
                show Ends _ _ _ _ (T14.setTop (mkF m 122 #[.val (.int p1), .val (.int p2), .val (.int p3), .val (.int p4), .val (.int p5), .val (.int (0 : Int32)), .val (.int z2), .val (.int z4), .val (.int z6), .val (.ref x_8), .val (.ref x_12), .val (.ref x_14), .unset, .unset, .unset, .unset, .unset] [(.int p4)]))
                refine Ends.step (fun t k => XS.iconst X14.here hx rfl (hb hby at_122) k) ?_
                exact J44 (1 : Int32) (Or.inr rfl)
              · refine Ends.step (fun t k => XS.ifNo X14.here hx rfl (hb hby at_115) rfl ((if0 _ _).trans (feq c47).1) k) ?_
                show Ends _ _ _ _ (T14.setTop (mkF m 118 #[.val (.int p1), .val (.int p2), .val (.int p3), .val (.int p4), .val (.int p5), .val (.int (0 : Int32)), .val (.int z2), .val (.int z4), .val (.int z6), .val (.ref x_8), .val (.ref x_12), .val (.ref x_14), .unset, .unset, .unset, .unset, .unset] [(.int p4)]))
                refine Ends.step (fun t k => XS.iconst X14.here hx rfl (hb hby at_118) k) ?_
                show Ends _ _ _ _ (T14.setTop (mkF m 119 #[.val (.int p1), .val (.int p2), .val (.int p3), .val (.int p4), .val (.int p5), .val (.int (0 : Int32)), .val (.int z2), .val (.int z4), .val (.int z6), .val (.ref x_8), .val (.ref x_12), .val (.ref x_14), .unset, .unset, .unset, .unset, .unset] [(.int (0 : Int32)), (.int p4)]))
                refine Ends.step (fun t k => XS.goto X14.here hx rfl (pc0 := 119) (pc' := 123) rfl (hb hby at_119) (by decide) (by decide) k) ?_
                exact J44 (0 : Int32) (Or.inl rfl)
            · refine Ends.step (fun t k => XS.ifNo X14.here hx rfl (hb hby at_102) rfl ((if0 _ _).trans (feq c42).1) k) ?_
              show Ends _ _ _ _ (T14.setTop (mkF m 105 #[.val (.int p1), .val (.int p2), .val (.int p3), .val (.int p4), .val (.int p5), .val (.int (0 : Int32)), .val (.int z2), .val (.int z4), .val (.int z6), .val (.ref x_8), .val (.ref x_12), .val (.ref x_14), .unset, .unset, .unset, .unset, .unset] []))
              refine Ends.step (fun t k => XS.aconstNull X14.here hx rfl (hb hby at_105) k) ?_
              show Ends _ _ _ _ (T14.setTop (mkF m 106 #[.val (.int p1), .val (.int p2), .val (.int p3), .val (.int p4), .val (.int p5), .val (.int (0 : Int32)), .val (.int z2), .val (.int z4), .val (.int z6), .val (.ref x_8), .val (.ref x_12), .val (.ref x_14), .unset, .unset, .unset, .unset, .unset] [.null]))
              refine Ends.step (fun t k => XS.goto X14.here hx rfl (pc0 := 106) (pc' := 126) rfl (hb hby at_106) (by decide) (by decide) k) ?_
              exact J21 .null T14.vm T14 T14.heap _ (own_mono X14 (by decide) (by decide)) rfl N14 (Keep.refl T14.heap []) _ hZ14 hown14 hS14 (Nat.le_refl _) CR14 rfl
          by_cases c48 : (p5 &&& (16 : Int32)) = (0 : Int32)
          · refine Ends.step (fun t k => XS.ifYes X8.here hx rfl (pc0 := 70) (pc' := 77) rfl (hb hby at_70) rfl ((if0 _ _).trans (teq c48).1) (by decide) (by decide) k) ?_
            show Ends _ _ _ _ (T8.setTop (mkF m 77 #[.val (.int p1), .val (.int p2), .val (.int p3), .val (.int p4), .val (.int p5), .val (.int (0 : Int32)), .val (.int z2), .val (.int z4), .val (.int z6), .val (.ref x_8), .unset, .unset, .unset, .unset, .unset, .unset, .unset] [(.int p2)]))
            refine Ends.step (fun t k => XS.iconst X8.here hx rfl (hb hby at_77) k) ?_
            exact J10 (1 : Int32) (Or.inr rfl)
          · refine Ends.step (fun t k => XS.ifNo X8.here hx rfl (hb hby at_70) rfl ((if0 _ _).trans (feq c48).1) k) ?_
            show Ends _ _ _ _ (T8.setTop (mkF m 73 #[.val (.int p1), .val (.int p2), .val (.int p3), .val (.int p4), .val (.int p5), .val (.int (0 : Int32)), .val (.int z2), .val (.int z4), .val (.int z6), .val (.ref x_8), .unset, .unset, .unset, .unset, .unset, .unset, .unset] [(.int p2)]))
            refine Ends.step (fun t k => XS.iconst X8.here hx rfl (hb hby at_73) k) ?_
            show Ends _ _ _ _ (T8.setTop (mkF m 74 #[.val (.int p1), .val (.int p2), .val (.int p3), .val (.int p4), .val (.int p5), .val (.int (0 : Int32)), .val (.int z2), .val (.int z4), .val (.int z6), .val (.ref x_8), .unset, .unset, .unset, .unset, .unset, .unset, .unset] [(.int (0 : Int32)), (.int p2)]))
            refine Ends.step (fun t k => XS.goto X8.here hx rfl (pc0 := 74) (pc' := 78) rfl (hb hby at_74) (by decide) (by decide) k) ?_
            exact J10 (0 : Int32) (Or.inl rfl)
        by_cases c49 : (p5 &&& (8 : Int32)) = (0 : Int32)
        · refine Ends.step (fun t k => XS.ifYes X0.here hx rfl (pc0 := 47) (pc' := 54) rfl (hb hby at_47) rfl ((if0 _ _).trans (teq c49).1) (by decide) (by decide) k) ?_
          show Ends _ _ _ _ (s₁.setTop (mkF m 54 #[.val (.int p1), .val (.int p2), .val (.int p3), .val (.int p4), .val (.int p5), .val (.int (0 : Int32)), .val (.int z2), .val (.int z4), .unset, .unset, .unset, .unset, .unset, .unset, .unset, .unset, .unset] []))
          refine Ends.step (fun t k => XS.iconst X0.here hx rfl (hb hby at_54) k) ?_
          exact J7 (1 : Int32) (Or.inr rfl)
        · refine Ends.step (fun t k => XS.ifNo X0.here hx rfl (hb hby at_47) rfl ((if0 _ _).trans (feq c49).1) k) ?_
          show Ends _ _ _ _ (s₁.setTop (mkF m 50 #[.val (.int p1), .val (.int p2), .val (.int p3), .val (.int p4), .val (.int p5), .val (.int (0 : Int32)), .val (.int z2), .val (.int z4), .unset, .unset, .unset, .unset, .unset, .unset, .unset, .unset, .unset] []))
          refine Ends.step (fun t k => XS.iconst X0.here hx rfl (hb hby at_50) k) ?_
          show Ends _ _ _ _ (s₁.setTop (mkF m 51 #[.val (.int p1), .val (.int p2), .val (.int p3), .val (.int p4), .val (.int p5), .val (.int (0 : Int32)), .val (.int z2), .val (.int z4), .unset, .unset, .unset, .unset, .unset, .unset, .unset, .unset, .unset] [(.int (0 : Int32))]))
          refine Ends.step (fun t k => XS.goto X0.here hx rfl (pc0 := 51) (pc' := 55) rfl (hb hby at_51) (by decide) (by decide) k) ?_
          exact J7 (0 : Int32) (Or.inl rfl)
      by_cases c50 : (p5 &&& (4 : Int32)) = (0 : Int32)
      · refine Ends.step (fun t k => XS.ifYes X0.here hx rfl (pc0 := 32) (pc' := 39) rfl (hb hby at_32) rfl ((if0 _ _).trans (teq c50).1) (by decide) (by decide) k) ?_
        show Ends _ _ _ _ (s₁.setTop (mkF m 39 #[.val (.int p1), .val (.int p2), .val (.int p3), .val (.int p4), .val (.int p5), .val (.int (0 : Int32)), .val (.int z2), .unset, .unset, .unset, .unset, .unset, .unset, .unset, .unset, .unset, .unset] []))
        refine Ends.step (fun t k => XS.iconst X0.here hx rfl (hb hby at_39) k) ?_
        exact J5 (0 : Int32) (Or.inl rfl)
      · refine Ends.step (fun t k => XS.ifNo X0.here hx rfl (hb hby at_32) rfl ((if0 _ _).trans (feq c50).1) k) ?_
        show Ends _ _ _ _ (s₁.setTop (mkF m 35 #[.val (.int p1), .val (.int p2), .val (.int p3), .val (.int p4), .val (.int p5), .val (.int (0 : Int32)), .val (.int z2), .unset, .unset, .unset, .unset, .unset, .unset, .unset, .unset, .unset, .unset] []))
        refine Ends.step (fun t k => XS.iconst X0.here hx rfl (hb hby at_35) k) ?_
        show Ends _ _ _ _ (s₁.setTop (mkF m 36 #[.val (.int p1), .val (.int p2), .val (.int p3), .val (.int p4), .val (.int p5), .val (.int (0 : Int32)), .val (.int z2), .unset, .unset, .unset, .unset, .unset, .unset, .unset, .unset, .unset, .unset] [(.int (1 : Int32))]))
        refine Ends.step (fun t k => XS.goto X0.here hx rfl (pc0 := 36) (pc' := 40) rfl (hb hby at_36) (by decide) (by decide) k) ?_
        exact J5 (1 : Int32) (Or.inr rfl)
    by_cases c51 : (p5 &&& (2 : Int32)) = (0 : Int32)
    · refine Ends.step (fun t k => XS.ifYes X0.here hx rfl (pc0 := 18) (pc' := 25) rfl (hb hby at_18) rfl ((if0 _ _).trans (teq c51).1) (by decide) (by decide) k) ?_
      show Ends _ _ _ _ (s₁.setTop (mkF m 25 #[.val (.int p1), .val (.int p2), .val (.int p3), .val (.int p4), .val (.int p5), .val (.int (0 : Int32)), .unset, .unset, .unset, .unset, .unset, .unset, .unset, .unset, .unset, .unset, .unset] []))
      refine Ends.step (fun t k => XS.iconst X0.here hx rfl (hb hby at_25) k) ?_
      exact J3 (0 : Int32) (Or.inl rfl)
    · refine Ends.step (fun t k => XS.ifNo X0.here hx rfl (hb hby at_18) rfl ((if0 _ _).trans (feq c51).1) k) ?_
      show Ends _ _ _ _ (s₁.setTop (mkF m 21 #[.val (.int p1), .val (.int p2), .val (.int p3), .val (.int p4), .val (.int p5), .val (.int (0 : Int32)), .unset, .unset, .unset, .unset, .unset, .unset, .unset, .unset, .unset, .unset, .unset] []))
      refine Ends.step (fun t k => XS.iconst X0.here hx rfl (hb hby at_21) k) ?_
      show Ends _ _ _ _ (s₁.setTop (mkF m 22 #[.val (.int p1), .val (.int p2), .val (.int p3), .val (.int p4), .val (.int p5), .val (.int (0 : Int32)), .unset, .unset, .unset, .unset, .unset, .unset, .unset, .unset, .unset, .unset, .unset] [(.int (1 : Int32))]))
      refine Ends.step (fun t k => XS.goto X0.here hx rfl (pc0 := 22) (pc' := 26) rfl (hb hby at_22) (by decide) (by decide) k) ?_
      exact J3 (1 : Int32) (Or.inr rfl)
  · refine Ends.step (fun t k => XS.ifNo X0.here hx rfl (hb hby at_4) rfl ((if0 _ _).trans (feq c1).1) k) ?_
    show Ends _ _ _ _ (s₁.setTop (mkF m 7 #[.val (.int p1), .val (.int p2), .val (.int p3), .val (.int p4), .val (.int p5), .unset, .unset, .unset, .unset, .unset, .unset, .unset, .unset, .unset, .unset, .unset, .unset] []))
    refine Ends.step (fun t k => XS.iconst X0.here hx rfl (hb hby at_7) k) ?_
    show Ends _ _ _ _ (s₁.setTop (mkF m 8 #[.val (.int p1), .val (.int p2), .val (.int p3), .val (.int p4), .val (.int p5), .unset, .unset, .unset, .unset, .unset, .unset, .unset, .unset, .unset, .unset, .unset, .unset] [(.int (1 : Int32))]))
    refine Ends.step (fun t k => XS.goto X0.here hx rfl (pc0 := 8) (pc' := 12) rfl (hb hby at_8) (by decide) (by decide) k) ?_
    show Ends _ _ _ _ (s₁.setTop (mkF m 12 #[.val (.int p1), .val (.int p2), .val (.int p3), .val (.int p4), .val (.int p5), .unset, .unset, .unset, .unset, .unset, .unset, .unset, .unset, .unset, .unset, .unset, .unset] [(.int (1 : Int32))]))
    refine Ends.step (fun t k => XS.istore X0.here hx rfl (hb hby at_12) rfl (l' := #[.val (.int p1), .val (.int p2), .val (.int p3), .val (.int p4), .val (.int p5), .val (.int (1 : Int32)), .unset, .unset, .unset, .unset, .unset, .unset, .unset, .unset, .unset, .unset, .unset]) rfl k) ?_
    show Ends _ _ _ _ (s₁.setTop (mkF m 14 #[.val (.int p1), .val (.int p2), .val (.int p3), .val (.int p4), .val (.int p5), .val (.int (1 : Int32)), .unset, .unset, .unset, .unset, .unset, .unset, .unset, .unset, .unset, .unset, .unset] []))
    refine Ends.step (fun t k => XS.iload X0.here hx rfl (hb hby at_14) rfl k) ?_
    show Ends _ _ _ _ (s₁.setTop (mkF m 16 #[.val (.int p1), .val (.int p2), .val (.int p3), .val (.int p4), .val (.int p5), .val (.int (1 : Int32)), .unset, .unset, .unset, .unset, .unset, .unset, .unset, .unset, .unset, .unset, .unset] [(.int p5)]))
    refine Ends.step (fun t k => XS.iconst X0.here hx rfl (hb hby at_16) k) ?_
    show Ends _ _ _ _ (s₁.setTop (mkF m 17 #[.val (.int p1), .val (.int p2), .val (.int p3), .val (.int p4), .val (.int p5), .val (.int (1 : Int32)), .unset, .unset, .unset, .unset, .unset, .unset, .unset, .unset, .unset, .unset, .unset] [(.int (2 : Int32)), (.int p5)]))
    refine Ends.step (fun t k => XS.iand X0.here hx rfl (hb hby at_17) rfl k) ?_
    show Ends _ _ _ _ (s₁.setTop (mkF m 18 #[.val (.int p1), .val (.int p2), .val (.int p3), .val (.int p4), .val (.int p5), .val (.int (1 : Int32)), .unset, .unset, .unset, .unset, .unset, .unset, .unset, .unset, .unset, .unset, .unset] [(.int (p5 &&& (2 : Int32)))]))
    have J53 : ∀ (z52 : Int32) (hz52 : z52 = (0 : Int32) ∨ z52 = (1 : Int32)), Ends p.tables e below (fun o U' => ∃ v L, o = .returned v ∧ Qrm0 Z p1 p2 p3 p4 p5 h0 n0 v U'.heap L ∧ CHr Z consts_1 s.vm s.heap U'.vm U'.heap ∧ ReturnedEndW s o U' L 40 1216) (s₁.setTop (mkF m 26 #[.val (.int p1), .val (.int p2), .val (.int p3), .val (.int p4), .val (.int p5), .val (.int (1 : Int32)), .unset, .unset, .unset, .unset, .unset, .unset, .unset, .unset, .unset, .unset, .unset] [(.int z52)])) := by
      intro z52 hz52
      show Ends _ _ _ _ (s₁.setTop (mkF m 26 #[.val (.int p1), .val (.int p2), .val (.int p3), .val (.int p4), .val (.int p5), .val (.int (1 : Int32)), .unset, .unset, .unset, .unset, .unset, .unset, .unset, .unset, .unset, .unset, .unset] [(.int z52)]))
      refine Ends.step (fun t k => XS.istore X0.here hx rfl (hb hby at_26) rfl (l' := #[.val (.int p1), .val (.int p2), .val (.int p3), .val (.int p4), .val (.int p5), .val (.int (1 : Int32)), .val (.int z52), .unset, .unset, .unset, .unset, .unset, .unset, .unset, .unset, .unset, .unset]) rfl k) ?_
      show Ends _ _ _ _ (s₁.setTop (mkF m 28 #[.val (.int p1), .val (.int p2), .val (.int p3), .val (.int p4), .val (.int p5), .val (.int (1 : Int32)), .val (.int z52), .unset, .unset, .unset, .unset, .unset, .unset, .unset, .unset, .unset, .unset] []))
      refine Ends.step (fun t k => XS.iload X0.here hx rfl (hb hby at_28) rfl k) ?_
      show Ends _ _ _ _ (s₁.setTop (mkF m 30 #[.val (.int p1), .val (.int p2), .val (.int p3), .val (.int p4), .val (.int p5), .val (.int (1 : Int32)), .val (.int z52), .unset, .unset, .unset, .unset, .unset, .unset, .unset, .unset, .unset, .unset] [(.int p5)]))
      refine Ends.step (fun t k => XS.iconst X0.here hx rfl (hb hby at_30) k) ?_
      show Ends _ _ _ _ (s₁.setTop (mkF m 31 #[.val (.int p1), .val (.int p2), .val (.int p3), .val (.int p4), .val (.int p5), .val (.int (1 : Int32)), .val (.int z52), .unset, .unset, .unset, .unset, .unset, .unset, .unset, .unset, .unset, .unset] [(.int (4 : Int32)), (.int p5)]))
      refine Ends.step (fun t k => XS.iand X0.here hx rfl (hb hby at_31) rfl k) ?_
      show Ends _ _ _ _ (s₁.setTop (mkF m 32 #[.val (.int p1), .val (.int p2), .val (.int p3), .val (.int p4), .val (.int p5), .val (.int (1 : Int32)), .val (.int z52), .unset, .unset, .unset, .unset, .unset, .unset, .unset, .unset, .unset, .unset] [(.int (p5 &&& (4 : Int32)))]))
      have J55 : ∀ (z54 : Int32) (hz54 : z54 = (0 : Int32) ∨ z54 = (1 : Int32)), Ends p.tables e below (fun o U' => ∃ v L, o = .returned v ∧ Qrm0 Z p1 p2 p3 p4 p5 h0 n0 v U'.heap L ∧ CHr Z consts_1 s.vm s.heap U'.vm U'.heap ∧ ReturnedEndW s o U' L 40 1216) (s₁.setTop (mkF m 40 #[.val (.int p1), .val (.int p2), .val (.int p3), .val (.int p4), .val (.int p5), .val (.int (1 : Int32)), .val (.int z52), .unset, .unset, .unset, .unset, .unset, .unset, .unset, .unset, .unset, .unset] [(.int z54)])) := by
        intro z54 hz54
        show Ends _ _ _ _ (s₁.setTop (mkF m 40 #[.val (.int p1), .val (.int p2), .val (.int p3), .val (.int p4), .val (.int p5), .val (.int (1 : Int32)), .val (.int z52), .unset, .unset, .unset, .unset, .unset, .unset, .unset, .unset, .unset, .unset] [(.int z54)]))
        refine Ends.step (fun t k => XS.istore X0.here hx rfl (hb hby at_40) rfl (l' := #[.val (.int p1), .val (.int p2), .val (.int p3), .val (.int p4), .val (.int p5), .val (.int (1 : Int32)), .val (.int z52), .val (.int z54), .unset, .unset, .unset, .unset, .unset, .unset, .unset, .unset, .unset]) rfl k) ?_
        show Ends _ _ _ _ (s₁.setTop (mkF m 42 #[.val (.int p1), .val (.int p2), .val (.int p3), .val (.int p4), .val (.int p5), .val (.int (1 : Int32)), .val (.int z52), .val (.int z54), .unset, .unset, .unset, .unset, .unset, .unset, .unset, .unset, .unset] []))
        refine Ends.step (fun t k => XS.iload X0.here hx rfl (hb hby at_42) rfl k) ?_
        show Ends _ _ _ _ (s₁.setTop (mkF m 44 #[.val (.int p1), .val (.int p2), .val (.int p3), .val (.int p4), .val (.int p5), .val (.int (1 : Int32)), .val (.int z52), .val (.int z54), .unset, .unset, .unset, .unset, .unset, .unset, .unset, .unset, .unset] [(.int p5)]))
        refine Ends.step (fun t k => XS.bipush X0.here hx rfl (hb hby at_44) k) ?_
        show Ends _ _ _ _ (s₁.setTop (mkF m 46 #[.val (.int p1), .val (.int p2), .val (.int p3), .val (.int p4), .val (.int p5), .val (.int (1 : Int32)), .val (.int z52), .val (.int z54), .unset, .unset, .unset, .unset, .unset, .unset, .unset, .unset, .unset] [(.int (8 : Int32)), (.int p5)]))
        refine Ends.step (fun t k => XS.iand X0.here hx rfl (hb hby at_46) rfl k) ?_
        show Ends _ _ _ _ (s₁.setTop (mkF m 47 #[.val (.int p1), .val (.int p2), .val (.int p3), .val (.int p4), .val (.int p5), .val (.int (1 : Int32)), .val (.int z52), .val (.int z54), .unset, .unset, .unset, .unset, .unset, .unset, .unset, .unset, .unset] [(.int (p5 &&& (8 : Int32)))]))
        have J57 : ∀ (z56 : Int32) (hz56 : z56 = (0 : Int32) ∨ z56 = (1 : Int32)), Ends p.tables e below (fun o U' => ∃ v L, o = .returned v ∧ Qrm0 Z p1 p2 p3 p4 p5 h0 n0 v U'.heap L ∧ CHr Z consts_1 s.vm s.heap U'.vm U'.heap ∧ ReturnedEndW s o U' L 40 1216) (s₁.setTop (mkF m 55 #[.val (.int p1), .val (.int p2), .val (.int p3), .val (.int p4), .val (.int p5), .val (.int (1 : Int32)), .val (.int z52), .val (.int z54), .unset, .unset, .unset, .unset, .unset, .unset, .unset, .unset, .unset] [(.int z56)])) := by
          intro z56 hz56
          show Ends _ _ _ _ (s₁.setTop (mkF m 55 #[.val (.int p1), .val (.int p2), .val (.int p3), .val (.int p4), .val (.int p5), .val (.int (1 : Int32)), .val (.int z52), .val (.int z54), .unset, .unset, .unset, .unset, .unset, .unset, .unset, .unset, .unset] [(.int z56)]))
          refine Ends.step (fun t k => XS.istore X0.here hx rfl (hb hby at_55) rfl (l' := #[.val (.int p1), .val (.int p2), .val (.int p3), .val (.int p4), .val (.int p5), .val (.int (1 : Int32)), .val (.int z52), .val (.int z54), .val (.int z56), .unset, .unset, .unset, .unset, .unset, .unset, .unset, .unset]) rfl k) ?_
          show Ends _ _ _ _ (s₁.setTop (mkF m 57 #[.val (.int p1), .val (.int p2), .val (.int p3), .val (.int p4), .val (.int p5), .val (.int (1 : Int32)), .val (.int z52), .val (.int z54), .val (.int z56), .unset, .unset, .unset, .unset, .unset, .unset, .unset, .unset] []))
          refine Ends.step (fun t k => XS.iloadN X0.here hx rfl (hb hby at_57) rfl k) ?_
          show Ends _ _ _ _ (s₁.setTop (mkF m 58 #[.val (.int p1), .val (.int p2), .val (.int p3), .val (.int p4), .val (.int p5), .val (.int (1 : Int32)), .val (.int z52), .val (.int z54), .val (.int z56), .unset, .unset, .unset, .unset, .unset, .unset, .unset, .unset] [(.int p1)]))
          refine Ends.step (fun t k => XS.iconst X0.here hx rfl (hb hby at_58) k) ?_
          show Ends _ _ _ _ (s₁.setTop (mkF m 59 #[.val (.int p1), .val (.int p2), .val (.int p3), .val (.int p4), .val (.int p5), .val (.int (1 : Int32)), .val (.int z52), .val (.int z54), .val (.int z56), .unset, .unset, .unset, .unset, .unset, .unset, .unset, .unset] [(.int (1 : Int32)), (.int p1)]))
          obtain ⟨_, _, ⟨T58, L58, k58, n58⟩, -, Xs58, hs58, hg58, ⟨Lc58, hQ58, l58, y58, z58, CRc58⟩, st58⟩ := callSS X0 hx (y := (⟨"com/example/corbel/corbel/OptionTakesValuePinLaw", "drawn", "(II)Ljava/lang/String;"⟩ : MethodName)) hown (mvT hZ (hw _ (List.mem_of_getElem? (i := 0) rfl))) (mvT hZ (hw _ (List.mem_of_getElem? (i := 1) rfl))) (mvT hZ (hw _ (List.mem_of_getElem? (i := 2) rfl))) (mvT hZ (hw _ (List.mem_of_getElem? (i := 3) rfl))) (by decide) (backOfSH (s := s) (vm0 := s.vm) (W := 0) (rmDr l Z a0 hw [] p1 (1 : Int32) h0 n0 Z0 G1 O2 P5 X00 ) hZ (hw _ (List.mem_of_getElem? (i := 3) rfl)) (hw _ (List.mem_of_getElem? (i := 2) rfl)) (by decide) (by decide) (own_hEL hw) CR0.1) (g := (mkF m 59 #[.val (.int p1), .val (.int p2), .val (.int p3), .val (.int p4), .val (.int p5), .val (.int (1 : Int32)), .val (.int z52), .val (.int z54), .val (.int z56), .unset, .unset, .unset, .unset, .unset, .unset, .unset, .unset] [(.int (1 : Int32)), (.int p1)])) rfl (by rw [hml]; rfl) (argsL := [(.int p1), (.int (1 : Int32))]) (rest := []) (lenOf pd_5 rfl) rfl (by show 2 * 0 + _ ≤ _; exact Nat.le_of_eq rfl) (hb hby at_59) (fun _ _ => ⟨rfl, e0, (by decide : 0 + 4 ≤ _), (by decide : 0 + 8 ≤ _)⟩)
          dsimp only [Pt.U, Pt.locs, Pt.cells, Pt.slots] at Xs58 hs58 hg58 l58 y58 z58 st58 hQ58 CRc58
          subst l58 y58 z58
          obtain ⟨X58, hS58, hZ58, hown58⟩ := rebS hS0 (Nat.le_trans (Nat.zero_le _) (Nat.le_of_eq (congrArg Array.size (Eq.symm e0)))) Xs58 hs58 hg58 hZ hown
          have CR58 := CR0.trans CRc58
          obtain ⟨x_58, rfl, Nq58, K58, f58_0, f58_1⟩ := hQ58
          have N58 := Fr.app N0 Nq58
          refine Ends.go st58 ?_
          show Ends _ _ _ _ (T58.setTop (mkF m 62 #[.val (.int p1), .val (.int p2), .val (.int p3), .val (.int p4), .val (.int p5), .val (.int (1 : Int32)), .val (.int z52), .val (.int z54), .val (.int z56), .unset, .unset, .unset, .unset, .unset, .unset, .unset, .unset] [(.ref x_58)]))
          refine Ends.step (fun t k => XS.astore X58.here hx rfl (hb hby at_62) rfl rfl (l' := #[.val (.int p1), .val (.int p2), .val (.int p3), .val (.int p4), .val (.int p5), .val (.int (1 : Int32)), .val (.int z52), .val (.int z54), .val (.int z56), .val (.ref x_58), .unset, .unset, .unset, .unset, .unset, .unset, .unset]) rfl k) ?_
          show Ends _ _ _ _ (T58.setTop (mkF m 64 #[.val (.int p1), .val (.int p2), .val (.int p3), .val (.int p4), .val (.int p5), .val (.int (1 : Int32)), .val (.int z52), .val (.int z54), .val (.int z56), .val (.ref x_58), .unset, .unset, .unset, .unset, .unset, .unset, .unset] []))
          refine Ends.step (fun t k => XS.iloadN X58.here hx rfl (hb hby at_64) rfl k) ?_
          show Ends _ _ _ _ (T58.setTop (mkF m 65 #[.val (.int p1), .val (.int p2), .val (.int p3), .val (.int p4), .val (.int p5), .val (.int (1 : Int32)), .val (.int z52), .val (.int z54), .val (.int z56), .val (.ref x_58), .unset, .unset, .unset, .unset, .unset, .unset, .unset] [(.int p2)]))
          refine Ends.step (fun t k => XS.iload X58.here hx rfl (hb hby at_65) rfl k) ?_
          show Ends _ _ _ _ (T58.setTop (mkF m 67 #[.val (.int p1), .val (.int p2), .val (.int p3), .val (.int p4), .val (.int p5), .val (.int (1 : Int32)), .val (.int z52), .val (.int z54), .val (.int z56), .val (.ref x_58), .unset, .unset, .unset, .unset, .unset, .unset, .unset] [(.int p5), (.int p2)]))
          refine Ends.step (fun t k => XS.bipush X58.here hx rfl (hb hby at_67) k) ?_
          show Ends _ _ _ _ (T58.setTop (mkF m 69 #[.val (.int p1), .val (.int p2), .val (.int p3), .val (.int p4), .val (.int p5), .val (.int (1 : Int32)), .val (.int z52), .val (.int z54), .val (.int z56), .val (.ref x_58), .unset, .unset, .unset, .unset, .unset, .unset, .unset] [(.int (16 : Int32)), (.int p5), (.int p2)]))
          refine Ends.step (fun t k => XS.iand X58.here hx rfl (hb hby at_69) rfl k) ?_
          show Ends _ _ _ _ (T58.setTop (mkF m 70 #[.val (.int p1), .val (.int p2), .val (.int p3), .val (.int p4), .val (.int p5), .val (.int (1 : Int32)), .val (.int z52), .val (.int z54), .val (.int z56), .val (.ref x_58), .unset, .unset, .unset, .unset, .unset, .unset, .unset] [(.int (p5 &&& (16 : Int32))), (.int p2)]))
          have J60 : ∀ (z59 : Int32) (hz59 : z59 = (0 : Int32) ∨ z59 = (1 : Int32)), Ends p.tables e below (fun o U' => ∃ v L, o = .returned v ∧ Qrm0 Z p1 p2 p3 p4 p5 h0 n0 v U'.heap L ∧ CHr Z consts_1 s.vm s.heap U'.vm U'.heap ∧ ReturnedEndW s o U' L 40 1216) (T58.setTop (mkF m 78 #[.val (.int p1), .val (.int p2), .val (.int p3), .val (.int p4), .val (.int p5), .val (.int (1 : Int32)), .val (.int z52), .val (.int z54), .val (.int z56), .val (.ref x_58), .unset, .unset, .unset, .unset, .unset, .unset, .unset] [(.int z59), (.int p2)])) := by
            intro z59 hz59
            show Ends _ _ _ _ (T58.setTop (mkF m 78 #[.val (.int p1), .val (.int p2), .val (.int p3), .val (.int p4), .val (.int p5), .val (.int (1 : Int32)), .val (.int z52), .val (.int z54), .val (.int z56), .val (.ref x_58), .unset, .unset, .unset, .unset, .unset, .unset, .unset] [(.int z59), (.int p2)]))
            have F61 : Old Z n0 T58.heap := (X00.keep K58 all0)
            obtain ⟨_, _, ⟨T62, L62, k62, n62⟩, -, Xs62, hs62, hg62, ⟨Lc62, hQ62, l62, y62, z62, CRc62⟩, st62⟩ := callSS X58 hx (y := (⟨"com/example/corbel/corbel/OptionTakesValuePinLaw", "drawn", "(II)Ljava/lang/String;"⟩ : MethodName)) hown58 (mvT hZ58 (hw _ (List.mem_of_getElem? (i := 0) rfl))) (mvT hZ58 (hw _ (List.mem_of_getElem? (i := 1) rfl))) (mvT hZ58 (hw _ (List.mem_of_getElem? (i := 2) rfl))) (mvT hZ58 (hw _ (List.mem_of_getElem? (i := 3) rfl))) (by decide) (backOfSH (s := s) (vm0 := T58.vm) (W := 0) (rmDr l Z a0 hw [] p2 z59 T58.heap n0 (Nat.le_trans Z0 K58.1) G1 O2 P5 F61 ) hZ58 (hw _ (List.mem_of_getElem? (i := 3) rfl)) (hw _ (List.mem_of_getElem? (i := 2) rfl)) (by decide) (by decide) (own_hEL hw) CR58.1) (g := (mkF m 78 #[.val (.int p1), .val (.int p2), .val (.int p3), .val (.int p4), .val (.int p5), .val (.int (1 : Int32)), .val (.int z52), .val (.int z54), .val (.int z56), .val (.ref x_58), .unset, .unset, .unset, .unset, .unset, .unset, .unset] [(.int z59), (.int p2)])) rfl (by rw [hml]; rfl) (argsL := [(.int p2), (.int z59)]) (rest := []) (lenOf pd_5 rfl) rfl (by show 2 * 0 + _ ≤ _; exact Nat.le_of_eq rfl) (hb hby at_78) (fun _ _ => ⟨rfl, rfl, (by decide : 4 + 4 ≤ _), (by decide : 8 + 8 ≤ _)⟩)
            dsimp only [Pt.U, Pt.locs, Pt.cells, Pt.slots] at Xs62 hs62 hg62 l62 y62 z62 st62 hQ62 CRc62
            subst l62 y62 z62
            obtain ⟨X62, hS62, hZ62, hown62⟩ := rebS hS58 (Nat.le_trans (Nat.le_refl _) (Nat.le_of_eq (congrArg Array.size (Eq.symm rfl)))) Xs62 hs62 hg62 hZ58 hown58
            have CR62 := CR58.trans CRc62
            obtain ⟨x_62, rfl, Nq62, K62, f62_0, f62_1⟩ := hQ62
            have N62 := Fr.app N58 Nq62
            refine Ends.go st62 ?_
            show Ends _ _ _ _ (T62.setTop (mkF m 81 #[.val (.int p1), .val (.int p2), .val (.int p3), .val (.int p4), .val (.int p5), .val (.int (1 : Int32)), .val (.int z52), .val (.int z54), .val (.int z56), .val (.ref x_58), .unset, .unset, .unset, .unset, .unset, .unset, .unset] [(.ref x_62)]))
            refine Ends.step (fun t k => XS.astore X62.here hx rfl (hb hby at_81) rfl rfl (l' := #[.val (.int p1), .val (.int p2), .val (.int p3), .val (.int p4), .val (.int p5), .val (.int (1 : Int32)), .val (.int z52), .val (.int z54), .val (.int z56), .val (.ref x_58), .val (.ref x_62), .unset, .unset, .unset, .unset, .unset, .unset]) rfl k) ?_
            show Ends _ _ _ _ (T62.setTop (mkF m 83 #[.val (.int p1), .val (.int p2), .val (.int p3), .val (.int p4), .val (.int p5), .val (.int (1 : Int32)), .val (.int z52), .val (.int z54), .val (.int z56), .val (.ref x_58), .val (.ref x_62), .unset, .unset, .unset, .unset, .unset, .unset] []))
            refine Ends.step (fun t k => XS.iload X62.here hx rfl (hb hby at_83) rfl k) ?_
            show Ends _ _ _ _ (T62.setTop (mkF m 85 #[.val (.int p1), .val (.int p2), .val (.int p3), .val (.int p4), .val (.int p5), .val (.int (1 : Int32)), .val (.int z52), .val (.int z54), .val (.int z56), .val (.ref x_58), .val (.ref x_62), .unset, .unset, .unset, .unset, .unset, .unset] [(.int (1 : Int32))]))
            refine Ends.step (fun t k => XS.ifNo X62.here hx rfl (hb hby at_85) rfl ((if0 _ _).trans (feq (by decide : ¬ ((1 : Int32) = (0 : Int32)))).1) k) ?_
            show Ends _ _ _ _ (T62.setTop (mkF m 88 #[.val (.int p1), .val (.int p2), .val (.int p3), .val (.int p4), .val (.int p5), .val (.int (1 : Int32)), .val (.int z52), .val (.int z54), .val (.int z56), .val (.ref x_58), .val (.ref x_62), .unset, .unset, .unset, .unset, .unset, .unset] []))
            refine Ends.step (fun t k => XS.aconstNull X62.here hx rfl (hb hby at_88) k) ?_
            show Ends _ _ _ _ (T62.setTop (mkF m 89 #[.val (.int p1), .val (.int p2), .val (.int p3), .val (.int p4), .val (.int p5), .val (.int (1 : Int32)), .val (.int z52), .val (.int z54), .val (.int z56), .val (.ref x_58), .val (.ref x_62), .unset, .unset, .unset, .unset, .unset, .unset] [.null]))
            refine Ends.step (fun t k => XS.goto X62.here hx rfl (pc0 := 89) (pc' := 98) rfl (hb hby at_89) (by decide) (by decide) k) ?_
            show Ends _ _ _ _ (T62.setTop (mkF m 98 #[.val (.int p1), .val (.int p2), .val (.int p3), .val (.int p4), .val (.int p5), .val (.int (1 : Int32)), .val (.int z52), .val (.int z54), .val (.int z56), .val (.ref x_58), .val (.ref x_62), .unset, .unset, .unset, .unset, .unset, .unset] [.null]))
            refine Ends.step (fun t k => XS.astore X62.here hx rfl (hb hby at_98) rfl rfl (l' := #[.val (.int p1), .val (.int p2), .val (.int p3), .val (.int p4), .val (.int p5), .val (.int (1 : Int32)), .val (.int z52), .val (.int z54), .val (.int z56), .val (.ref x_58), .val (.ref x_62), .val .null, .unset, .unset, .unset, .unset, .unset]) rfl k) ?_
            show Ends _ _ _ _ (T62.setTop (mkF m 100 #[.val (.int p1), .val (.int p2), .val (.int p3), .val (.int p4), .val (.int p5), .val (.int (1 : Int32)), .val (.int z52), .val (.int z54), .val (.int z56), .val (.ref x_58), .val (.ref x_62), .val .null, .unset, .unset, .unset, .unset, .unset] []))
            refine Ends.step (fun t k => XS.iload X62.here hx rfl (hb hby at_100) rfl k) ?_
            show Ends _ _ _ _ (T62.setTop (mkF m 102 #[.val (.int p1), .val (.int p2), .val (.int p3), .val (.int p4), .val (.int p5), .val (.int (1 : Int32)), .val (.int z52), .val (.int z54), .val (.int z56), .val (.ref x_58), .val (.ref x_62), .val .null, .unset, .unset, .unset, .unset, .unset] [(.int z52)]))
            have J69 : ∀ (w68 : Value) (vm70 : Vm) (T70 : State) (h70 : Heap) (L70 : List Loc) (X70 : Stand p l e room_1 (s.setVm vm70) m #[(.int p1), (.int p2), (.int p3), (.int p4), (.int p5)] below meth c T70 L70 12 24) (e70 : T70.heap = h70) (N70 : Fr n0 L70) (K70 : Keep T62.heap h70 []) (kk70 : Nat) (hZ70 : Z.Warmed39 (s.setVm vm70).vm) (hown70 : (s.setVm vm70).vm.findClass "com/example/corbel/corbel/OptionTakesValuePinLaw" = some m.cls) (hS70 : s.Since vm70 kk70) (hk70 : kk70 ≤ h70.size) (CR70 : CHr Z consts_1 s.vm h0 vm70 h70) (hw68 : Value.isRef w68 = true), Ends p.tables e below (fun o U' => ∃ v L, o = .returned v ∧ Qrm0 Z p1 p2 p3 p4 p5 h0 n0 v U'.heap L ∧ CHr Z consts_1 s.vm s.heap U'.vm U'.heap ∧ ReturnedEndW s o U' L 40 1216) (T70.setTop (mkF m 126 #[.val (.int p1), .val (.int p2), .val (.int p3), .val (.int p4), .val (.int p5), .val (.int (1 : Int32)), .val (.int z52), .val (.int z54), .val (.int z56), .val (.ref x_58), .val (.ref x_62), .val .null, .unset, .unset, .unset, .unset, .unset] [w68])) := by
              intro w68 vm70 T70 h70 L70 X70 e70 N70 K70 kk70 hZ70 hown70 hS70 hk70 CR70 hw68
              show Ends _ _ _ _ (T70.setTop (mkF m 126 #[.val (.int p1), .val (.int p2), .val (.int p3), .val (.int p4), .val (.int p5), .val (.int (1 : Int32)), .val (.int z52), .val (.int z54), .val (.int z56), .val (.ref x_58), .val (.ref x_62), .val .null, .unset, .unset, .unset, .unset, .unset] [w68]))
              refine Ends.step (fun t k => XS.astore X70.here hx rfl (hb hby at_126) rfl hw68 (l' := #[.val (.int p1), .val (.int p2), .val (.int p3), .val (.int p4), .val (.int p5), .val (.int (1 : Int32)), .val (.int z52), .val (.int z54), .val (.int z56), .val (.ref x_58), .val (.ref x_62), .val .null, .val w68, .unset, .unset, .unset, .unset]) (XS.store1 (o := .unset) rfl One.u (XT.cat1 hw68)) k) ?_
              show Ends _ _ _ _ (T70.setTop (mkF m 128 #[.val (.int p1), .val (.int p2), .val (.int p3), .val (.int p4), .val (.int p5), .val (.int (1 : Int32)), .val (.int z52), .val (.int z54), .val (.int z56), .val (.ref x_58), .val (.ref x_62), .val .null, .val w68, .unset, .unset, .unset, .unset] []))
              obtain ⟨T71, h71, X71, e71, E71, A71, D71, -, st71⟩ := newO X70 hx hZ70 hown70 (hw _ (List.mem_of_getElem? (i := 34) rfl)) (hw _ (List.mem_of_getElem? (i := 35) rfl)) (hw _ (List.mem_of_getElem? (i := 36) rfl)) e70 (g := (mkF m 128 #[.val (.int p1), .val (.int p2), .val (.int p3), .val (.int p4), .val (.int p5), .val (.int (1 : Int32)), .val (.int z52), .val (.int z54), .val (.int z56), .val (.ref x_58), .val (.ref x_62), .val .null, .val w68, .unset, .unset, .unset, .unset] [])) rfl (hb hby at_128) (by decide) (by decide)
              obtain ⟨b71, g71⟩ : ∃ z, z = h70.size := ⟨_, rfl⟩
              rw [← g71] at A71 D71 st71
              refine Ends.step st71 ?_
              show Ends _ _ _ _ (T71.setTop (mkF m 131 #[.val (.int p1), .val (.int p2), .val (.int p3), .val (.int p4), .val (.int p5), .val (.int (1 : Int32)), .val (.int z52), .val (.int z54), .val (.int z56), .val (.ref x_58), .val (.ref x_62), .val .null, .val w68, .unset, .unset, .unset, .unset] [(.ref b71)]))
              refine Ends.step (fun t k => XS.dup X71.here hx rfl (hb hby at_131) rfl rfl k) ?_
              show Ends _ _ _ _ (T71.setTop (mkF m 132 #[.val (.int p1), .val (.int p2), .val (.int p3), .val (.int p4), .val (.int p5), .val (.int (1 : Int32)), .val (.int z52), .val (.int z54), .val (.int z56), .val (.ref x_58), .val (.ref x_62), .val .null, .val w68, .unset, .unset, .unset, .unset] [(.ref b71), (.ref b71)]))
              refine Ends.step (fun t k => XS.aload X71.here hx rfl (hb hby at_132) rfl rfl k) ?_
              show Ends _ _ _ _ (T71.setTop (mkF m 134 #[.val (.int p1), .val (.int p2), .val (.int p3), .val (.int p4), .val (.int p5), .val (.int (1 : Int32)), .val (.int z52), .val (.int z54), .val (.int z56), .val (.ref x_58), .val (.ref x_62), .val .null, .val w68, .unset, .unset, .unset, .unset] [(.ref x_58), (.ref b71), (.ref b71)]))
              refine Ends.step (fun t k => XS.aload X71.here hx rfl (hb hby at_134) rfl rfl k) ?_
              show Ends _ _ _ _ (T71.setTop (mkF m 136 #[.val (.int p1), .val (.int p2), .val (.int p3), .val (.int p4), .val (.int p5), .val (.int (1 : Int32)), .val (.int z52), .val (.int z54), .val (.int z56), .val (.ref x_58), .val (.ref x_62), .val .null, .val w68, .unset, .unset, .unset, .unset] [.null, (.ref x_58), (.ref b71), (.ref b71)]))
              refine Ends.step (fun t k => XS.aload X71.here hx rfl (hb hby at_136) rfl rfl k) ?_
              show Ends _ _ _ _ (T71.setTop (mkF m 138 #[.val (.int p1), .val (.int p2), .val (.int p3), .val (.int p4), .val (.int p5), .val (.int (1 : Int32)), .val (.int z52), .val (.int z54), .val (.int z56), .val (.ref x_58), .val (.ref x_62), .val .null, .val w68, .unset, .unset, .unset, .unset] [(.ref x_62), .null, (.ref x_58), (.ref b71), (.ref b71)]))
              refine Ends.step (fun t k => XS.aload X71.here hx rfl (hb hby at_138) rfl hw68 k) ?_
              show Ends _ _ _ _ (T71.setTop (mkF m 140 #[.val (.int p1), .val (.int p2), .val (.int p3), .val (.int p4), .val (.int p5), .val (.int (1 : Int32)), .val (.int z52), .val (.int z54), .val (.int z56), .val (.ref x_58), .val (.ref x_62), .val .null, .val w68, .unset, .unset, .unset, .unset] [w68, (.ref x_62), .null, (.ref x_58), (.ref b71), (.ref b71)]))
              refine Ends.step (fun t k => XS.iload X71.here hx rfl (hb hby at_140) rfl k) ?_
              show Ends _ _ _ _ (T71.setTop (mkF m 142 #[.val (.int p1), .val (.int p2), .val (.int p3), .val (.int p4), .val (.int p5), .val (.int (1 : Int32)), .val (.int z52), .val (.int z54), .val (.int z56), .val (.ref x_58), .val (.ref x_62), .val .null, .val w68, .unset, .unset, .unset, .unset] [(.int z54), w68, (.ref x_62), .null, (.ref x_58), (.ref b71), (.ref b71)]))
              have F72 : Old Z n0 h71 := (((F61.keep K62 all0).keep K70 all0).ext E71)
              obtain ⟨_, _, ⟨T73, L73, k73, n73⟩, -, X73, ⟨Lc73, hQ73, l73, y73, z73⟩, st73⟩ := X71.specialBack hx (y := (⟨"com/example/corbel/corbel/Options$Option", "<init>", "(Ljava/lang/String;Ljava/lang/String;Ljava/lang/String;Ljava/lang/String;Z)V"⟩ : MethodName)) rfl hown70 (mvT hZ70 (hw _ (List.mem_of_getElem? (i := 37) rfl))) (mvT hZ70 (hw _ (List.mem_of_getElem? (i := 38) rfl))) (mvT hZ70 (hw _ (List.mem_of_getElem? (i := 39) rfl))) (by decide) (backOf (W := 1) (rmOI l Z a0 hw [] b71 (.ref x_58) .null (.ref x_62) w68 z54 h71 n0 (Nat.le_trans Z0 (Nat.le_trans (Nat.le_trans (Nat.le_trans K58.1 K62.1) K70.1) E71.1)) G1 O2 P5 F72 rfl rfl rfl hw68 A71 (D71 (Or.inr (hw _ (List.mem_of_getElem? (i := 47) rfl))) (ty := (.object "java/lang/String")) (by decide)) (D71 (Or.inr (hw _ (List.mem_of_getElem? (i := 49) rfl))) (ty := (.object "java/lang/String")) (by decide)) (D71 (Or.inr (hw _ (List.mem_of_getElem? (i := 51) rfl))) (ty := (.object "java/lang/String")) (by decide)) (D71 (Or.inr (hw _ (List.mem_of_getElem? (i := 53) rfl))) (ty := (.object "java/lang/String")) (by decide)) (D71 (Or.inr (hw _ (List.mem_of_getElem? (i := 55) rfl))) (ty := .boolean) (by decide)) (Nat.le_trans (Nat.le_trans Z0 (Nat.le_trans (Nat.le_trans K58.1 K62.1) K70.1)) (Nat.le_of_eq g71.symm))) hZ70 (hw _ (List.mem_of_getElem? (i := 39) rfl)) (hw _ (List.mem_of_getElem? (i := 36) rfl)) (by decide) (by decide)) (g := (mkF m 142 #[.val (.int p1), .val (.int p2), .val (.int p3), .val (.int p4), .val (.int p5), .val (.int (1 : Int32)), .val (.int z52), .val (.int z54), .val (.int z56), .val (.ref x_58), .val (.ref x_62), .val .null, .val w68, .unset, .unset, .unset, .unset] [(.int z54), w68, (.ref x_62), .null, (.ref x_58), (.ref b71), (.ref b71)])) rfl (by rw [hml]; rfl) (Steps.refl _) (a := b71) (argsL := [(.ref x_58), .null, (.ref x_62), w68, (.int z54)]) (rest := [(.ref b71)]) (lenOf pd_2 rfl) rfl (by show 2 * 0 + _ ≤ _; exact Nat.le_of_eq rfl) (hb hby at_142) (fun _ _ => ⟨rfl, e71, (by decide : 13 + 0 ≤ _), (by decide : 29 + 0 ≤ _)⟩)
              dsimp only [Pt.U, Pt.locs, Pt.cells, Pt.slots] at X73 l73 y73 z73 st73 hQ73
              subst l73 y73 z73
              obtain ⟨rfl, Nq73, K73, f73_0, f73_1, f73_2, f73_3, f73_4⟩ := hQ73
              have N73 := Fr.app N70 Nq73
              refine Ends.go st73 ?_
              have K74 : Keep h70 T73.heap [] := (((Keep.refl h70 []).ext E71).trans K73 (allS (Or.inr (Nat.le_trans (Nat.le_refl _) (Nat.le_of_eq g71.symm))) all0))
              show Ends _ _ _ _ (T73.setTop (mkF m 145 #[.val (.int p1), .val (.int p2), .val (.int p3), .val (.int p4), .val (.int p5), .val (.int (1 : Int32)), .val (.int z52), .val (.int z54), .val (.int z56), .val (.ref x_58), .val (.ref x_62), .val .null, .val w68, .unset, .unset, .unset, .unset] [(.ref b71)]))
              refine Ends.step (fun t k => XS.astore X73.here hx rfl (hb hby at_145) rfl rfl (l' := #[.val (.int p1), .val (.int p2), .val (.int p3), .val (.int p4), .val (.int p5), .val (.int (1 : Int32)), .val (.int z52), .val (.int z54), .val (.int z56), .val (.ref x_58), .val (.ref x_62), .val .null, .val w68, .val (.ref b71), .unset, .unset, .unset]) rfl k) ?_
              show Ends _ _ _ _ (T73.setTop (mkF m 147 #[.val (.int p1), .val (.int p2), .val (.int p3), .val (.int p4), .val (.int p5), .val (.int (1 : Int32)), .val (.int z52), .val (.int z54), .val (.int z56), .val (.ref x_58), .val (.ref x_62), .val .null, .val w68, .val (.ref b71), .unset, .unset, .unset] []))
              refine Ends.step (fun t k => XS.aload X73.here hx rfl (hb hby at_147) rfl rfl k) ?_
              show Ends _ _ _ _ (T73.setTop (mkF m 149 #[.val (.int p1), .val (.int p2), .val (.int p3), .val (.int p4), .val (.int p5), .val (.int (1 : Int32)), .val (.int z52), .val (.int z54), .val (.int z56), .val (.ref x_58), .val (.ref x_62), .val .null, .val w68, .val (.ref b71), .unset, .unset, .unset] [(.ref b71)]))
              have F75 : Old Z n0 T73.heap := (F72.keep K73 (allS (Nat.le_trans (Nat.le_trans Z0 (Nat.le_trans (Nat.le_trans K58.1 K62.1) K70.1)) (Nat.le_of_eq g71.symm)) all0))
              obtain ⟨cq76, kq76, q76a, q76b, q76c⟩ := isOf hZ70 rfl f73_0
              obtain ⟨_, _, ⟨T76, L76, k76, n76⟩, -, X76, ⟨Lc76, hQ76, l76, y76, z76⟩, st76⟩ := X73.virtualBack hx (y := (⟨"com/example/corbel/corbel/Options$Option", "takesValue", "()Z"⟩ : MethodName)) (z := (⟨"com/example/corbel/corbel/Options$Option", "takesValue", "()Z"⟩ : MethodName)) hown70 (mvT hZ70 (hw _ (List.mem_of_getElem? (i := 56) rfl))) (mvT hZ70 (hw _ (List.mem_of_getElem? (i := 57) rfl))) (notFace_of_selects (args := #[]) (mvT hZ70 (hw _ (List.mem_of_getElem? (i := 59) rfl)))) (mvT hZ70 (hw _ (List.mem_of_getElem? (i := 59) rfl))) (mvT hZ70 (hw _ (List.mem_of_getElem? (i := 58) rfl))) (by decide) (backOf (W := 0) (rmTkN l Z a0 hw [] b71 T73.heap n0 (Nat.le_trans Z0 (Nat.le_trans (Nat.le_trans (Nat.le_trans K58.1 K62.1) K70.1) K74.1)) G1 O2 P5 F75 f73_2) hZ70 (hw _ (List.mem_of_getElem? (i := 60) rfl)) (hw _ (List.mem_of_getElem? (i := 36) rfl)) (by decide) (by decide)) q76a q76c (g := (mkF m 149 #[.val (.int p1), .val (.int p2), .val (.int p3), .val (.int p4), .val (.int p5), .val (.int (1 : Int32)), .val (.int z52), .val (.int z54), .val (.int z56), .val (.ref x_58), .val (.ref x_62), .val .null, .val w68, .val (.ref b71), .unset, .unset, .unset] [(.ref b71)])) rfl (by rw [hml]; rfl) (Steps.refl _) (argsL := []) (rest := []) (lenOf pd_6 rfl) rfl (by show 2 * 0 + _ ≤ _; exact Nat.le_of_eq rfl) (hb hby at_149) (fun _ _ => ⟨rfl, rfl, (by decide : 13 + 0 ≤ _), (by decide : 29 + 0 ≤ _)⟩)
              dsimp only [Pt.U, Pt.locs, Pt.cells, Pt.slots] at X76 l76 y76 z76 st76 hQ76
              subst l76 y76 z76
              obtain ⟨rfl, Nq76, eh76⟩ := hQ76
              have N76 := Fr.app N73 Nq76
              refine Ends.go st76 ?_
              show Ends _ _ _ _ (T76.setTop (mkF m 152 #[.val (.int p1), .val (.int p2), .val (.int p3), .val (.int p4), .val (.int p5), .val (.int (1 : Int32)), .val (.int z52), .val (.int z54), .val (.int z56), .val (.ref x_58), .val (.ref x_62), .val .null, .val w68, .val (.ref b71), .unset, .unset, .unset] [(.int (0 : Int32))]))
              refine Ends.step (fun t k => XS.iload X76.here hx rfl (hb hby at_152) rfl k) ?_
              show Ends _ _ _ _ (T76.setTop (mkF m 154 #[.val (.int p1), .val (.int p2), .val (.int p3), .val (.int p4), .val (.int p5), .val (.int (1 : Int32)), .val (.int z52), .val (.int z54), .val (.int z56), .val (.ref x_58), .val (.ref x_62), .val .null, .val w68, .val (.ref b71), .unset, .unset, .unset] [(.int (1 : Int32)), (.int (0 : Int32))]))
              refine Ends.step (fun t k => XS.ifYes X76.here hx rfl (pc0 := 154) (pc' := 161) rfl (hb hby at_154) rfl ((if0 _ _).trans (feq (by decide : ¬ ((1 : Int32) = (0 : Int32)))).2) (by decide) (by decide) k) ?_
              show Ends _ _ _ _ (T76.setTop (mkF m 161 #[.val (.int p1), .val (.int p2), .val (.int p3), .val (.int p4), .val (.int p5), .val (.int (1 : Int32)), .val (.int z52), .val (.int z54), .val (.int z56), .val (.ref x_58), .val (.ref x_62), .val .null, .val w68, .val (.ref b71), .unset, .unset, .unset] [(.int (0 : Int32))]))
              refine Ends.step (fun t k => XS.iconst X76.here hx rfl (hb hby at_161) k) ?_
              show Ends _ _ _ _ (T76.setTop (mkF m 162 #[.val (.int p1), .val (.int p2), .val (.int p3), .val (.int p4), .val (.int p5), .val (.int (1 : Int32)), .val (.int z52), .val (.int z54), .val (.int z56), .val (.ref x_58), .val (.ref x_62), .val .null, .val w68, .val (.ref b71), .unset, .unset, .unset] [(.int (0 : Int32)), (.int (0 : Int32))]))
              refine Ends.step (fun t k => XS.icmpNo X76.here hx rfl (hb hby at_162) rfl (teq (by decide : ((0 : Int32) = (0 : Int32)))).2 k) ?_
              show Ends _ _ _ _ (T76.setTop (mkF m 165 #[.val (.int p1), .val (.int p2), .val (.int p3), .val (.int p4), .val (.int p5), .val (.int (1 : Int32)), .val (.int z52), .val (.int z54), .val (.int z56), .val (.ref x_58), .val (.ref x_62), .val .null, .val w68, .val (.ref b71), .unset, .unset, .unset] []))
              refine Ends.step (fun t k => XS.iconst X76.here hx rfl (hb hby at_165) k) ?_
              show Ends _ _ _ _ (T76.setTop (mkF m 166 #[.val (.int p1), .val (.int p2), .val (.int p3), .val (.int p4), .val (.int p5), .val (.int (1 : Int32)), .val (.int z52), .val (.int z54), .val (.int z56), .val (.ref x_58), .val (.ref x_62), .val .null, .val w68, .val (.ref b71), .unset, .unset, .unset] [(.int (1 : Int32))]))
              refine Ends.step (fun t k => XS.goto X76.here hx rfl (pc0 := 166) (pc' := 170) rfl (hb hby at_166) (by decide) (by decide) k) ?_
              show Ends _ _ _ _ (T76.setTop (mkF m 170 #[.val (.int p1), .val (.int p2), .val (.int p3), .val (.int p4), .val (.int p5), .val (.int (1 : Int32)), .val (.int z52), .val (.int z54), .val (.int z56), .val (.ref x_58), .val (.ref x_62), .val .null, .val w68, .val (.ref b71), .unset, .unset, .unset] [(.int (1 : Int32))]))
              refine Ends.step (fun t k => XS.istore X76.here hx rfl (hb hby at_170) rfl (l' := #[.val (.int p1), .val (.int p2), .val (.int p3), .val (.int p4), .val (.int p5), .val (.int (1 : Int32)), .val (.int z52), .val (.int z54), .val (.int z56), .val (.ref x_58), .val (.ref x_62), .val .null, .val w68, .val (.ref b71), .val (.int (1 : Int32)), .unset, .unset]) rfl k) ?_
              show Ends _ _ _ _ (T76.setTop (mkF m 172 #[.val (.int p1), .val (.int p2), .val (.int p3), .val (.int p4), .val (.int p5), .val (.int (1 : Int32)), .val (.int z52), .val (.int z54), .val (.int z56), .val (.ref x_58), .val (.ref x_62), .val .null, .val w68, .val (.ref b71), .val (.int (1 : Int32)), .unset, .unset] []))
              refine Ends.step (fun t k => XS.aload X76.here hx rfl (hb hby at_172) rfl rfl k) ?_
              show Ends _ _ _ _ (T76.setTop (mkF m 174 #[.val (.int p1), .val (.int p2), .val (.int p3), .val (.int p4), .val (.int p5), .val (.int (1 : Int32)), .val (.int z52), .val (.int z54), .val (.int z56), .val (.ref x_58), .val (.ref x_62), .val .null, .val w68, .val (.ref b71), .val (.int (1 : Int32)), .unset, .unset] [(.ref x_58)]))
              refine Ends.step (fun t k => XS.aload X76.here hx rfl (hb hby at_174) rfl rfl k) ?_
              show Ends _ _ _ _ (T76.setTop (mkF m 176 #[.val (.int p1), .val (.int p2), .val (.int p3), .val (.int p4), .val (.int p5), .val (.int (1 : Int32)), .val (.int z52), .val (.int z54), .val (.int z56), .val (.ref x_58), .val (.ref x_62), .val .null, .val w68, .val (.ref b71), .val (.int (1 : Int32)), .unset, .unset] [(.ref x_62), (.ref x_58)]))
              obtain ⟨_, _, ⟨T77, L77, k77, n77⟩, -, X77, ⟨Lc77, hQ77, l77, y77, z77⟩, st77⟩ := Jvm.LawKit.callS X76 hx (y := (⟨"com/example/corbel/corbel/Options$Option", "flag", "(Ljava/lang/String;Ljava/lang/String;)Lcom/example/corbel/corbel/Options$Option;"⟩ : MethodName)) hown70 (mvT hZ70 (hw _ (List.mem_of_getElem? (i := 61) rfl))) (mvT hZ70 (hw _ (List.mem_of_getElem? (i := 62) rfl))) (mvT hZ70 (hw _ (List.mem_of_getElem? (i := 36) rfl))) (mvT hZ70 (hw _ (List.mem_of_getElem? (i := 63) rfl))) (by decide) (backOf (W := 0) (rmFl l Z a0 hw [] x_58 x_62 T73.heap n0 (Nat.le_trans Z0 (Nat.le_trans (Nat.le_trans (Nat.le_trans K58.1 K62.1) K70.1) K74.1)) G1 O2 P5 F75 ) hZ70 (hw _ (List.mem_of_getElem? (i := 63) rfl)) (hw _ (List.mem_of_getElem? (i := 36) rfl)) (by decide) (by decide)) (g := (mkF m 176 #[.val (.int p1), .val (.int p2), .val (.int p3), .val (.int p4), .val (.int p5), .val (.int (1 : Int32)), .val (.int z52), .val (.int z54), .val (.int z56), .val (.ref x_58), .val (.ref x_62), .val .null, .val w68, .val (.ref b71), .val (.int (1 : Int32)), .unset, .unset] [(.ref x_62), (.ref x_58)])) rfl (by rw [hml]; rfl) (argsL := [(.ref x_58), (.ref x_62)]) (rest := []) (lenOf pd_7 rfl) rfl (by show 2 * 0 + _ ≤ _; exact Nat.le_of_eq rfl) (hb hby at_176) (fun _ _ => ⟨rfl, eh76, (by decide : 13 + 1 ≤ _), (by decide : 29 + 5 ≤ _)⟩)
              dsimp only [Pt.U, Pt.locs, Pt.cells, Pt.slots] at X77 l77 y77 z77 st77 hQ77
              subst l77 y77 z77
              obtain ⟨x_77, rfl, Nq77, K77, f77_0, f77_1, f77_2⟩ := hQ77
              have N77 := Fr.app N76 Nq77
              refine Ends.step st77 ?_
              show Ends _ _ _ _ (T77.setTop (mkF m 179 #[.val (.int p1), .val (.int p2), .val (.int p3), .val (.int p4), .val (.int p5), .val (.int (1 : Int32)), .val (.int z52), .val (.int z54), .val (.int z56), .val (.ref x_58), .val (.ref x_62), .val .null, .val w68, .val (.ref b71), .val (.int (1 : Int32)), .unset, .unset] [(.ref x_77)]))
              refine Ends.step (fun t k => XS.astore X77.here hx rfl (hb hby at_179) rfl rfl (l' := #[.val (.int p1), .val (.int p2), .val (.int p3), .val (.int p4), .val (.int p5), .val (.int (1 : Int32)), .val (.int z52), .val (.int z54), .val (.int z56), .val (.ref x_58), .val (.ref x_62), .val .null, .val w68, .val (.ref b71), .val (.int (1 : Int32)), .val (.ref x_77), .unset]) rfl k) ?_
              show Ends _ _ _ _ (T77.setTop (mkF m 181 #[.val (.int p1), .val (.int p2), .val (.int p3), .val (.int p4), .val (.int p5), .val (.int (1 : Int32)), .val (.int z52), .val (.int z54), .val (.int z56), .val (.ref x_58), .val (.ref x_62), .val .null, .val w68, .val (.ref b71), .val (.int (1 : Int32)), .val (.ref x_77), .unset] []))
              refine Ends.step (fun t k => XS.iload X77.here hx rfl (hb hby at_181) rfl k) ?_
              show Ends _ _ _ _ (T77.setTop (mkF m 183 #[.val (.int p1), .val (.int p2), .val (.int p3), .val (.int p4), .val (.int p5), .val (.int (1 : Int32)), .val (.int z52), .val (.int z54), .val (.int z56), .val (.ref x_58), .val (.ref x_62), .val .null, .val w68, .val (.ref b71), .val (.int (1 : Int32)), .val (.ref x_77), .unset] [(.int (1 : Int32))]))
              refine Ends.step (fun t k => XS.ifNo X77.here hx rfl (hb hby at_183) rfl ((if0 _ _).trans (feq (by decide : ¬ ((1 : Int32) = (0 : Int32)))).1) k) ?_
              show Ends _ _ _ _ (T77.setTop (mkF m 186 #[.val (.int p1), .val (.int p2), .val (.int p3), .val (.int p4), .val (.int p5), .val (.int (1 : Int32)), .val (.int z52), .val (.int z54), .val (.int z56), .val (.ref x_58), .val (.ref x_62), .val .null, .val w68, .val (.ref b71), .val (.int (1 : Int32)), .val (.ref x_77), .unset] []))
              refine Ends.step (fun t k => XS.aload X77.here hx rfl (hb hby at_186) rfl rfl k) ?_
              show Ends _ _ _ _ (T77.setTop (mkF m 188 #[.val (.int p1), .val (.int p2), .val (.int p3), .val (.int p4), .val (.int p5), .val (.int (1 : Int32)), .val (.int z52), .val (.int z54), .val (.int z56), .val (.ref x_58), .val (.ref x_62), .val .null, .val w68, .val (.ref b71), .val (.int (1 : Int32)), .val (.ref x_77), .unset] [(.ref x_77)]))
              have F78 : Old Z n0 T77.heap := (F75.keep K77 all0)
              obtain ⟨cq79, kq79, q79a, q79b, q79c⟩ := isOf hZ70 rfl f77_1
              obtain ⟨_, _, ⟨T79, L79, k79, n79⟩, -, X79, ⟨Lc79, hQ79, l79, y79, z79⟩, st79⟩ := X77.virtualBack hx (y := (⟨"com/example/corbel/corbel/Options$Option", "takesValue", "()Z"⟩ : MethodName)) (z := (⟨"com/example/corbel/corbel/Options$Option", "takesValue", "()Z"⟩ : MethodName)) hown70 (mvT hZ70 (hw _ (List.mem_of_getElem? (i := 56) rfl))) (mvT hZ70 (hw _ (List.mem_of_getElem? (i := 57) rfl))) (notFace_of_selects (args := #[]) (mvT hZ70 (hw _ (List.mem_of_getElem? (i := 59) rfl)))) (mvT hZ70 (hw _ (List.mem_of_getElem? (i := 59) rfl))) (mvT hZ70 (hw _ (List.mem_of_getElem? (i := 58) rfl))) (by decide) (backOf (W := 0) (rmTkN l Z a0 hw [] x_77 T77.heap n0 (Nat.le_trans Z0 (Nat.le_trans (Nat.le_trans (Nat.le_trans (Nat.le_trans K58.1 K62.1) K70.1) K74.1) K77.1)) G1 O2 P5 F78 f77_2) hZ70 (hw _ (List.mem_of_getElem? (i := 60) rfl)) (hw _ (List.mem_of_getElem? (i := 36) rfl)) (by decide) (by decide)) q79a q79c (g := (mkF m 188 #[.val (.int p1), .val (.int p2), .val (.int p3), .val (.int p4), .val (.int p5), .val (.int (1 : Int32)), .val (.int z52), .val (.int z54), .val (.int z56), .val (.ref x_58), .val (.ref x_62), .val .null, .val w68, .val (.ref b71), .val (.int (1 : Int32)), .val (.ref x_77), .unset] [(.ref x_77)])) rfl (by rw [hml]; rfl) (Steps.refl _) (argsL := []) (rest := []) (lenOf pd_6 rfl) rfl (by show 2 * 0 + _ ≤ _; exact Nat.le_of_eq rfl) (hb hby at_188) (fun _ _ => ⟨rfl, rfl, (by decide : 14 + 0 ≤ _), (by decide : 34 + 0 ≤ _)⟩)
              dsimp only [Pt.U, Pt.locs, Pt.cells, Pt.slots] at X79 l79 y79 z79 st79 hQ79
              subst l79 y79 z79
              obtain ⟨rfl, Nq79, eh79⟩ := hQ79
              have N79 := Fr.app N77 Nq79
              refine Ends.go st79 ?_
              show Ends _ _ _ _ (T79.setTop (mkF m 191 #[.val (.int p1), .val (.int p2), .val (.int p3), .val (.int p4), .val (.int p5), .val (.int (1 : Int32)), .val (.int z52), .val (.int z54), .val (.int z56), .val (.ref x_58), .val (.ref x_62), .val .null, .val w68, .val (.ref b71), .val (.int (1 : Int32)), .val (.ref x_77), .unset] [(.int (0 : Int32))]))
              refine Ends.step (fun t k => XS.ifNo X79.here hx rfl (hb hby at_191) rfl ((if0 _ _).trans (teq (by decide : ((0 : Int32) = (0 : Int32)))).2) k) ?_
              show Ends _ _ _ _ (T79.setTop (mkF m 194 #[.val (.int p1), .val (.int p2), .val (.int p3), .val (.int p4), .val (.int p5), .val (.int (1 : Int32)), .val (.int z52), .val (.int z54), .val (.int z56), .val (.ref x_58), .val (.ref x_62), .val .null, .val w68, .val (.ref b71), .val (.int (1 : Int32)), .val (.ref x_77), .unset] []))
              refine Ends.step (fun t k => XS.iconst X79.here hx rfl (hb hby at_194) k) ?_
              show Ends _ _ _ _ (T79.setTop (mkF m 195 #[.val (.int p1), .val (.int p2), .val (.int p3), .val (.int p4), .val (.int p5), .val (.int (1 : Int32)), .val (.int z52), .val (.int z54), .val (.int z56), .val (.ref x_58), .val (.ref x_62), .val .null, .val w68, .val (.ref b71), .val (.int (1 : Int32)), .val (.ref x_77), .unset] [(.int (1 : Int32))]))
              refine Ends.step (fun t k => XS.goto X79.here hx rfl (pc0 := 195) (pc' := 199) rfl (hb hby at_195) (by decide) (by decide) k) ?_
              show Ends _ _ _ _ (T79.setTop (mkF m 199 #[.val (.int p1), .val (.int p2), .val (.int p3), .val (.int p4), .val (.int p5), .val (.int (1 : Int32)), .val (.int z52), .val (.int z54), .val (.int z56), .val (.ref x_58), .val (.ref x_62), .val .null, .val w68, .val (.ref b71), .val (.int (1 : Int32)), .val (.ref x_77), .unset] [(.int (1 : Int32))]))
              refine Ends.step (fun t k => XS.istore X79.here hx rfl (hb hby at_199) rfl (l' := #[.val (.int p1), .val (.int p2), .val (.int p3), .val (.int p4), .val (.int p5), .val (.int (1 : Int32)), .val (.int z52), .val (.int z54), .val (.int z56), .val (.ref x_58), .val (.ref x_62), .val .null, .val w68, .val (.ref b71), .val (.int (1 : Int32)), .val (.ref x_77), .unset]) rfl k) ?_
              show Ends _ _ _ _ (T79.setTop (mkF m 201 #[.val (.int p1), .val (.int p2), .val (.int p3), .val (.int p4), .val (.int p5), .val (.int (1 : Int32)), .val (.int z52), .val (.int z54), .val (.int z56), .val (.ref x_58), .val (.ref x_62), .val .null, .val w68, .val (.ref b71), .val (.int (1 : Int32)), .val (.ref x_77), .unset] []))
              refine Ends.step (fun t k => XS.aload X79.here hx rfl (hb hby at_201) rfl rfl k) ?_
              show Ends _ _ _ _ (T79.setTop (mkF m 203 #[.val (.int p1), .val (.int p2), .val (.int p3), .val (.int p4), .val (.int p5), .val (.int (1 : Int32)), .val (.int z52), .val (.int z54), .val (.int z56), .val (.ref x_58), .val (.ref x_62), .val .null, .val w68, .val (.ref b71), .val (.int (1 : Int32)), .val (.ref x_77), .unset] [(.ref b71)]))
              have F80 : Exa Z T77.heap b71 "com/example/corbel/corbel/Options$Option" := (f73_0.keep K77)
              have F81 : Fld Z T77.heap b71 "com/example/corbel/corbel/Options$Option" "name" "Ljava/lang/String;" (.ref x_58) := (f73_1.keep K77 nin0)
              have F82 : Fld Z T77.heap b71 "com/example/corbel/corbel/Options$Option" "value" "Ljava/lang/String;" .null := (f73_2.keep K77 nin0)
              have F83 : Fld Z T77.heap b71 "com/example/corbel/corbel/Options$Option" "meaning" "Ljava/lang/String;" (.ref x_62) := (f73_3.keep K77 nin0)
              obtain ⟨cq84, kq84, q84a, q84b, q84c⟩ := isOf hZ70 eh79 F80
              obtain ⟨_, _, ⟨T84, L84, k84, n84⟩, -, X84, ⟨Lc84, hQ84, l84, y84, z84⟩, st84⟩ := X79.virtualBack hx (y := (⟨"com/example/corbel/corbel/Options$Option", "asOptional", "()Lcom/example/corbel/corbel/Options$Option;"⟩ : MethodName)) (z := (⟨"com/example/corbel/corbel/Options$Option", "asOptional", "()Lcom/example/corbel/corbel/Options$Option;"⟩ : MethodName)) hown70 (mvT hZ70 (hw _ (List.mem_of_getElem? (i := 66) rfl))) (mvT hZ70 (hw _ (List.mem_of_getElem? (i := 67) rfl))) (notFace_of_selects (args := #[]) (mvT hZ70 (hw _ (List.mem_of_getElem? (i := 69) rfl)))) (mvT hZ70 (hw _ (List.mem_of_getElem? (i := 69) rfl))) (mvT hZ70 (hw _ (List.mem_of_getElem? (i := 68) rfl))) (by decide) (backOf (W := 0) (rmAs l Z a0 hw [] b71 (.ref x_58) .null (.ref x_62) T77.heap n0 (Nat.le_trans Z0 (Nat.le_trans (Nat.le_trans (Nat.le_trans (Nat.le_trans K58.1 K62.1) K70.1) K74.1) K77.1)) G1 O2 P5 F78 F81 F82 F83 rfl rfl rfl) hZ70 (hw _ (List.mem_of_getElem? (i := 70) rfl)) (hw _ (List.mem_of_getElem? (i := 36) rfl)) (by decide) (by decide)) q84a q84c (g := (mkF m 203 #[.val (.int p1), .val (.int p2), .val (.int p3), .val (.int p4), .val (.int p5), .val (.int (1 : Int32)), .val (.int z52), .val (.int z54), .val (.int z56), .val (.ref x_58), .val (.ref x_62), .val .null, .val w68, .val (.ref b71), .val (.int (1 : Int32)), .val (.ref x_77), .unset] [(.ref b71)])) rfl (by rw [hml]; rfl) (Steps.refl _) (argsL := []) (rest := []) (lenOf pd_8 rfl) rfl (by show 2 * 0 + _ ≤ _; exact Nat.le_of_eq rfl) (hb hby at_203) (fun _ _ => ⟨rfl, eh79, (by decide : 14 + 1 ≤ _), (by decide : 34 + 5 ≤ _)⟩)
              dsimp only [Pt.U, Pt.locs, Pt.cells, Pt.slots] at X84 l84 y84 z84 st84 hQ84
              subst l84 y84 z84
              obtain ⟨x_84, rfl, Nq84, K84, f84_0, f84_1, f84_2⟩ := hQ84
              have N84 := Fr.app N79 Nq84
              refine Ends.go st84 ?_
              show Ends _ _ _ _ (T84.setTop (mkF m 206 #[.val (.int p1), .val (.int p2), .val (.int p3), .val (.int p4), .val (.int p5), .val (.int (1 : Int32)), .val (.int z52), .val (.int z54), .val (.int z56), .val (.ref x_58), .val (.ref x_62), .val .null, .val w68, .val (.ref b71), .val (.int (1 : Int32)), .val (.ref x_77), .unset] [(.ref x_84)]))
              refine Ends.step (fun t k => XS.astore X84.here hx rfl (hb hby at_206) rfl rfl (l' := #[.val (.int p1), .val (.int p2), .val (.int p3), .val (.int p4), .val (.int p5), .val (.int (1 : Int32)), .val (.int z52), .val (.int z54), .val (.int z56), .val (.ref x_58), .val (.ref x_62), .val .null, .val w68, .val (.ref b71), .val (.int (1 : Int32)), .val (.ref x_77), .val (.ref x_84)]) rfl k) ?_
              show Ends _ _ _ _ (T84.setTop (mkF m 208 #[.val (.int p1), .val (.int p2), .val (.int p3), .val (.int p4), .val (.int p5), .val (.int (1 : Int32)), .val (.int z52), .val (.int z54), .val (.int z56), .val (.ref x_58), .val (.ref x_62), .val .null, .val w68, .val (.ref b71), .val (.int (1 : Int32)), .val (.ref x_77), .val (.ref x_84)] []))
              refine Ends.step (fun t k => XS.iload X84.here hx rfl (hb hby at_208) rfl k) ?_
              show Ends _ _ _ _ (T84.setTop (mkF m 210 #[.val (.int p1), .val (.int p2), .val (.int p3), .val (.int p4), .val (.int p5), .val (.int (1 : Int32)), .val (.int z52), .val (.int z54), .val (.int z56), .val (.ref x_58), .val (.ref x_62), .val .null, .val w68, .val (.ref b71), .val (.int (1 : Int32)), .val (.ref x_77), .val (.ref x_84)] [(.int (1 : Int32))]))
              refine Ends.step (fun t k => XS.ifNo X84.here hx rfl (hb hby at_210) rfl ((if0 _ _).trans (feq (by decide : ¬ ((1 : Int32) = (0 : Int32)))).1) k) ?_
              show Ends _ _ _ _ (T84.setTop (mkF m 213 #[.val (.int p1), .val (.int p2), .val (.int p3), .val (.int p4), .val (.int p5), .val (.int (1 : Int32)), .val (.int z52), .val (.int z54), .val (.int z56), .val (.ref x_58), .val (.ref x_62), .val .null, .val w68, .val (.ref b71), .val (.int (1 : Int32)), .val (.ref x_77), .val (.ref x_84)] []))
              refine Ends.step (fun t k => XS.aload X84.here hx rfl (hb hby at_213) rfl rfl k) ?_
              show Ends _ _ _ _ (T84.setTop (mkF m 215 #[.val (.int p1), .val (.int p2), .val (.int p3), .val (.int p4), .val (.int p5), .val (.int (1 : Int32)), .val (.int z52), .val (.int z54), .val (.int z56), .val (.ref x_58), .val (.ref x_62), .val .null, .val w68, .val (.ref b71), .val (.int (1 : Int32)), .val (.ref x_77), .val (.ref x_84)] [(.ref x_84)]))
              have F85 : Old Z n0 T84.heap := (F78.keep K84 all0)
              obtain ⟨cq86, kq86, q86a, q86b, q86c⟩ := isOf hZ70 rfl f84_1
              obtain ⟨_, _, ⟨T86, L86, k86, n86⟩, -, X86, ⟨Lc86, hQ86, l86, y86, z86⟩, st86⟩ := X84.virtualBack hx (y := (⟨"com/example/corbel/corbel/Options$Option", "takesValue", "()Z"⟩ : MethodName)) (z := (⟨"com/example/corbel/corbel/Options$Option", "takesValue", "()Z"⟩ : MethodName)) hown70 (mvT hZ70 (hw _ (List.mem_of_getElem? (i := 56) rfl))) (mvT hZ70 (hw _ (List.mem_of_getElem? (i := 57) rfl))) (notFace_of_selects (args := #[]) (mvT hZ70 (hw _ (List.mem_of_getElem? (i := 59) rfl)))) (mvT hZ70 (hw _ (List.mem_of_getElem? (i := 59) rfl))) (mvT hZ70 (hw _ (List.mem_of_getElem? (i := 58) rfl))) (by decide) (backOf (W := 0) (rmTkN l Z a0 hw [] x_84 T84.heap n0 (Nat.le_trans Z0 (Nat.le_trans (Nat.le_trans (Nat.le_trans (Nat.le_trans (Nat.le_trans K58.1 K62.1) K70.1) K74.1) K77.1) K84.1)) G1 O2 P5 F85 f84_2) hZ70 (hw _ (List.mem_of_getElem? (i := 60) rfl)) (hw _ (List.mem_of_getElem? (i := 36) rfl)) (by decide) (by decide)) q86a q86c (g := (mkF m 215 #[.val (.int p1), .val (.int p2), .val (.int p3), .val (.int p4), .val (.int p5), .val (.int (1 : Int32)), .val (.int z52), .val (.int z54), .val (.int z56), .val (.ref x_58), .val (.ref x_62), .val .null, .val w68, .val (.ref b71), .val (.int (1 : Int32)), .val (.ref x_77), .val (.ref x_84)] [(.ref x_84)])) rfl (by rw [hml]; rfl) (Steps.refl _) (argsL := []) (rest := []) (lenOf pd_6 rfl) rfl (by show 2 * 0 + _ ≤ _; exact Nat.le_of_eq rfl) (hb hby at_215) (fun _ _ => ⟨rfl, rfl, (by decide : 15 + 0 ≤ _), (by decide : 39 + 0 ≤ _)⟩)
              dsimp only [Pt.U, Pt.locs, Pt.cells, Pt.slots] at X86 l86 y86 z86 st86 hQ86
              subst l86 y86 z86
              obtain ⟨rfl, Nq86, eh86⟩ := hQ86
              have N86 := Fr.app N84 Nq86
              refine Ends.go st86 ?_
              show Ends _ _ _ _ (T86.setTop (mkF m 218 #[.val (.int p1), .val (.int p2), .val (.int p3), .val (.int p4), .val (.int p5), .val (.int (1 : Int32)), .val (.int z52), .val (.int z54), .val (.int z56), .val (.ref x_58), .val (.ref x_62), .val .null, .val w68, .val (.ref b71), .val (.int (1 : Int32)), .val (.ref x_77), .val (.ref x_84)] [(.int (0 : Int32))]))
              refine Ends.step (fun t k => XS.iload X86.here hx rfl (hb hby at_218) rfl k) ?_
              show Ends _ _ _ _ (T86.setTop (mkF m 220 #[.val (.int p1), .val (.int p2), .val (.int p3), .val (.int p4), .val (.int p5), .val (.int (1 : Int32)), .val (.int z52), .val (.int z54), .val (.int z56), .val (.ref x_58), .val (.ref x_62), .val .null, .val w68, .val (.ref b71), .val (.int (1 : Int32)), .val (.ref x_77), .val (.ref x_84)] [(.int (1 : Int32)), (.int (0 : Int32))]))
              refine Ends.step (fun t k => XS.ifYes X86.here hx rfl (pc0 := 220) (pc' := 227) rfl (hb hby at_220) rfl ((if0 _ _).trans (feq (by decide : ¬ ((1 : Int32) = (0 : Int32)))).2) (by decide) (by decide) k) ?_
              show Ends _ _ _ _ (T86.setTop (mkF m 227 #[.val (.int p1), .val (.int p2), .val (.int p3), .val (.int p4), .val (.int p5), .val (.int (1 : Int32)), .val (.int z52), .val (.int z54), .val (.int z56), .val (.ref x_58), .val (.ref x_62), .val .null, .val w68, .val (.ref b71), .val (.int (1 : Int32)), .val (.ref x_77), .val (.ref x_84)] [(.int (0 : Int32))]))
              refine Ends.step (fun t k => XS.iconst X86.here hx rfl (hb hby at_227) k) ?_
              show Ends _ _ _ _ (T86.setTop (mkF m 228 #[.val (.int p1), .val (.int p2), .val (.int p3), .val (.int p4), .val (.int p5), .val (.int (1 : Int32)), .val (.int z52), .val (.int z54), .val (.int z56), .val (.ref x_58), .val (.ref x_62), .val .null, .val w68, .val (.ref b71), .val (.int (1 : Int32)), .val (.ref x_77), .val (.ref x_84)] [(.int (0 : Int32)), (.int (0 : Int32))]))
              refine Ends.step (fun t k => XS.icmpNo X86.here hx rfl (hb hby at_228) rfl (teq (by decide : ((0 : Int32) = (0 : Int32)))).2 k) ?_
              show Ends _ _ _ _ (T86.setTop (mkF m 231 #[.val (.int p1), .val (.int p2), .val (.int p3), .val (.int p4), .val (.int p5), .val (.int (1 : Int32)), .val (.int z52), .val (.int z54), .val (.int z56), .val (.ref x_58), .val (.ref x_62), .val .null, .val w68, .val (.ref b71), .val (.int (1 : Int32)), .val (.ref x_77), .val (.ref x_84)] []))
              refine Ends.step (fun t k => XS.iconst X86.here hx rfl (hb hby at_231) k) ?_
              show Ends _ _ _ _ (T86.setTop (mkF m 232 #[.val (.int p1), .val (.int p2), .val (.int p3), .val (.int p4), .val (.int p5), .val (.int (1 : Int32)), .val (.int z52), .val (.int z54), .val (.int z56), .val (.ref x_58), .val (.ref x_62), .val .null, .val w68, .val (.ref b71), .val (.int (1 : Int32)), .val (.ref x_77), .val (.ref x_84)] [(.int (1 : Int32))]))
              refine Ends.step (fun t k => XS.goto X86.here hx rfl (pc0 := 232) (pc' := 236) rfl (hb hby at_232) (by decide) (by decide) k) ?_
              show Ends _ _ _ _ (T86.setTop (mkF m 236 #[.val (.int p1), .val (.int p2), .val (.int p3), .val (.int p4), .val (.int p5), .val (.int (1 : Int32)), .val (.int z52), .val (.int z54), .val (.int z56), .val (.ref x_58), .val (.ref x_62), .val .null, .val w68, .val (.ref b71), .val (.int (1 : Int32)), .val (.ref x_77), .val (.ref x_84)] [(.int (1 : Int32))]))
              refine Ends.step (fun t k => XS.istore X86.here hx rfl (hb hby at_236) rfl (l' := #[.val (.int p1), .val (.int p2), .val (.int p3), .val (.int p4), .val (.int p5), .val (.int (1 : Int32)), .val (.int z52), .val (.int z54), .val (.int z56), .val (.ref x_58), .val (.ref x_62), .val .null, .val w68, .val (.ref b71), .val (.int (1 : Int32)), .val (.ref x_77), .val (.ref x_84)]) rfl k) ?_
              show Ends _ _ _ _ (T86.setTop (mkF m 238 #[.val (.int p1), .val (.int p2), .val (.int p3), .val (.int p4), .val (.int p5), .val (.int (1 : Int32)), .val (.int z52), .val (.int z54), .val (.int z56), .val (.ref x_58), .val (.ref x_62), .val .null, .val w68, .val (.ref b71), .val (.int (1 : Int32)), .val (.ref x_77), .val (.ref x_84)] []))
              refine Ends.step (fun t k => XS.iload X86.here hx rfl (hb hby at_238) rfl k) ?_
              show Ends _ _ _ _ (T86.setTop (mkF m 240 #[.val (.int p1), .val (.int p2), .val (.int p3), .val (.int p4), .val (.int p5), .val (.int (1 : Int32)), .val (.int z52), .val (.int z54), .val (.int z56), .val (.ref x_58), .val (.ref x_62), .val .null, .val w68, .val (.ref b71), .val (.int (1 : Int32)), .val (.ref x_77), .val (.ref x_84)] [(.int (1 : Int32))]))
              have CR87 := own_chrK CR70 K74
              have CR88 := own_chrK CR87 K77
              have CR89 := own_chrK CR88 K84
              exact own_finIW X86 hS70 hx hlk hh (own_hEL hw) (Nat.le_trans hk70 (Nat.le_trans (Nat.le_trans K74.1 K77.1) K84.1)) CR89 hZ70 (t := .boolean) Bd.returns (by simp) rfl (hb hby at_240) eh86 ⟨rfl, N86, (((((((Keep.refl h0 []).trans K58 all0).trans K62 all0).trans K70 all0).trans K74 all0).trans K77 all0).trans K84 all0)⟩ (by decide) (by decide)
            by_cases c90 : z52 = (0 : Int32)
            · refine Ends.step (fun t k => XS.ifYes X62.here hx rfl (pc0 := 102) (pc' := 109) rfl (hb hby at_102) rfl ((if0 _ _).trans (teq c90).1) (by decide) (by decide) k) ?_
              show Ends _ _ _ _ (T62.setTop (mkF m 109 #[.val (.int p1), .val (.int p2), .val (.int p3), .val (.int p4), .val (.int p5), .val (.int (1 : Int32)), .val (.int z52), .val (.int z54), .val (.int z56), .val (.ref x_58), .val (.ref x_62), .val .null, .unset, .unset, .unset, .unset, .unset] []))
              refine Ends.step (fun t k => XS.iloadN X62.here hx rfl (hb hby at_109) rfl k) ?_
              show Ends _ _ _ _ (T62.setTop (mkF m 110 #[.val (.int p1), .val (.int p2), .val (.int p3), .val (.int p4), .val (.int p5), .val (.int (1 : Int32)), .val (.int z52), .val (.int z54), .val (.int z56), .val (.ref x_58), .val (.ref x_62), .val .null, .unset, .unset, .unset, .unset, .unset] [(.int p4)]))
              refine Ends.step (fun t k => XS.iload X62.here hx rfl (hb hby at_110) rfl k) ?_
              show Ends _ _ _ _ (T62.setTop (mkF m 112 #[.val (.int p1), .val (.int p2), .val (.int p3), .val (.int p4), .val (.int p5), .val (.int (1 : Int32)), .val (.int z52), .val (.int z54), .val (.int z56), .val (.ref x_58), .val (.ref x_62), .val .null, .unset, .unset, .unset, .unset, .unset] [(.int p5), (.int p4)]))
              refine Ends.step (fun t k => XS.bipush X62.here hx rfl (hb hby at_112) k) ?_
              show Ends _ _ _ _ (T62.setTop (mkF m 114 #[.val (.int p1), .val (.int p2), .val (.int p3), .val (.int p4), .val (.int p5), .val (.int (1 : Int32)), .val (.int z52), .val (.int z54), .val (.int z56), .val (.ref x_58), .val (.ref x_62), .val .null, .unset, .unset, .unset, .unset, .unset] [(.int (32 : Int32)), (.int p5), (.int p4)]))
              refine Ends.step (fun t k => XS.iand X62.here hx rfl (hb hby at_114) rfl k) ?_
              show Ends _ _ _ _ (T62.setTop (mkF m 115 #[.val (.int p1), .val (.int p2), .val (.int p3), .val (.int p4), .val (.int p5), .val (.int (1 : Int32)), .val (.int z52), .val (.int z54), .val (.int z56), .val (.ref x_58), .val (.ref x_62), .val .null, .unset, .unset, .unset, .unset, .unset] [(.int (p5 &&& (32 : Int32))), (.int p4)]))
              have J92 : ∀ (z91 : Int32) (hz91 : z91 = (0 : Int32) ∨ z91 = (1 : Int32)), Ends p.tables e below (fun o U' => ∃ v L, o = .returned v ∧ Qrm0 Z p1 p2 p3 p4 p5 h0 n0 v U'.heap L ∧ CHr Z consts_1 s.vm s.heap U'.vm U'.heap ∧ ReturnedEndW s o U' L 40 1216) (T62.setTop (mkF m 123 #[.val (.int p1), .val (.int p2), .val (.int p3), .val (.int p4), .val (.int p5), .val (.int (1 : Int32)), .val (.int z52), .val (.int z54), .val (.int z56), .val (.ref x_58), .val (.ref x_62), .val .null, .unset, .unset, .unset, .unset, .unset] [(.int z91), (.int p4)])) := by
                intro z91 hz91
                show Ends _ _ _ _ (T62.setTop (mkF m 123 #[.val (.int p1), .val (.int p2), .val (.int p3), .val (.int p4), .val (.int p5), .val (.int (1 : Int32)), .val (.int z52), .val (.int z54), .val (.int z56), .val (.ref x_58), .val (.ref x_62), .val .null, .unset, .unset, .unset, .unset, .unset] [(.int z91), (.int p4)]))
                have F93 : Old Z n0 T62.heap := (F61.keep K62 all0)
                obtain ⟨_, _, ⟨T94, L94, k94, n94⟩, -, Xs94, hs94, hg94, ⟨Lc94, hQ94, l94, y94, z94, CRc94⟩, st94⟩ := callSS X62 hx (y := (⟨"com/example/corbel/corbel/OptionTakesValuePinLaw", "drawn", "(II)Ljava/lang/String;"⟩ : MethodName)) hown62 (mvT hZ62 (hw _ (List.mem_of_getElem? (i := 0) rfl))) (mvT hZ62 (hw _ (List.mem_of_getElem? (i := 1) rfl))) (mvT hZ62 (hw _ (List.mem_of_getElem? (i := 2) rfl))) (mvT hZ62 (hw _ (List.mem_of_getElem? (i := 3) rfl))) (by decide) (backOfSH (s := s) (vm0 := T62.vm) (W := 0) (rmDr l Z a0 hw [] p4 z91 T62.heap n0 (Nat.le_trans Z0 (Nat.le_trans K58.1 K62.1)) G1 O2 P5 F93 ) hZ62 (hw _ (List.mem_of_getElem? (i := 3) rfl)) (hw _ (List.mem_of_getElem? (i := 2) rfl)) (by decide) (by decide) (own_hEL hw) CR62.1) (g := (mkF m 123 #[.val (.int p1), .val (.int p2), .val (.int p3), .val (.int p4), .val (.int p5), .val (.int (1 : Int32)), .val (.int z52), .val (.int z54), .val (.int z56), .val (.ref x_58), .val (.ref x_62), .val .null, .unset, .unset, .unset, .unset, .unset] [(.int z91), (.int p4)])) rfl (by rw [hml]; rfl) (argsL := [(.int p4), (.int z91)]) (rest := []) (lenOf pd_5 rfl) rfl (by show 2 * 0 + _ ≤ _; exact Nat.le_of_eq rfl) (hb hby at_123) (fun _ _ => ⟨rfl, rfl, (by decide : 8 + 4 ≤ _), (by decide : 16 + 8 ≤ _)⟩)
                dsimp only [Pt.U, Pt.locs, Pt.cells, Pt.slots] at Xs94 hs94 hg94 l94 y94 z94 st94 hQ94 CRc94
                subst l94 y94 z94
                obtain ⟨X94, hS94, hZ94, hown94⟩ := rebS hS62 (Nat.le_trans (Nat.le_refl _) (Nat.le_of_eq (congrArg Array.size (Eq.symm rfl)))) Xs94 hs94 hg94 hZ62 hown62
                have CR94 := CR62.trans CRc94
                obtain ⟨x_94, rfl, Nq94, K94, f94_0, f94_1⟩ := hQ94
                have N94 := Fr.app N62 Nq94
                refine Ends.go st94 ?_
                exact J69 (.ref x_94) T94.vm T94 T94.heap _ (own_mono X94 (by decide) (by decide)) rfl N94 ((Keep.refl T62.heap []).trans K94 all0) _ hZ94 hown94 hS94 (Nat.le_refl _) CR94 rfl
              by_cases c95 : (p5 &&& (32 : Int32)) = (0 : Int32)
              · refine Ends.step (fun t k => XS.ifYes X62.here hx rfl (pc0 := 115) (pc' := 122) rfl (hb hby at_115) rfl ((if0 _ _).trans (teq c95).1) (by decide) (by decide) k) ?_
                show Ends _ _ _ _ (T62.setTop (mkF m 122 #[.val (.int p1), .val (.int p2), .val (.int p3), .val (.int p4), .val (.int p5), .val (.int (1 : Int32)), .val (.int z52), .val (.int z54), .val (.int z56), .val (.ref x_58), .val (.ref x_62), .val .null, .unset, .unset, .unset, .unset, .unset] [(.int p4)]))
                refine Ends.step (fun t k => XS.iconst X62.here hx rfl (hb hby at_122) k) ?_
                exact J92 (1 : Int32) (Or.inr rfl)
              · refine Ends.step (fun t k => XS.ifNo X62.here hx rfl (hb hby at_115) rfl ((if0 _ _).trans (feq c95).1) k) ?_
                show Ends _ _ _ _ (T62.setTop (mkF m 118 #[.val (.int p1), .val (.int p2), .val (.int p3), .val (.int p4), .val (.int p5), .val (.int (1 : Int32)), .val (.int z52), .val (.int z54), .val (.int z56), .val (.ref x_58), .val (.ref x_62), .val .null, .unset, .unset, .unset, .unset, .unset] [(.int p4)]))
                refine Ends.step (fun t k => XS.iconst X62.here hx rfl (hb hby at_118) k) ?_
                show Ends _ _ _ _ (T62.setTop (mkF m 119 #[.val (.int p1), .val (.int p2), .val (.int p3), .val (.int p4), .val (.int p5), .val (.int (1 : Int32)), .val (.int z52), .val (.int z54), .val (.int z56), .val (.ref x_58), .val (.ref x_62), .val .null, .unset, .unset, .unset, .unset, .unset] [(.int (0 : Int32)), (.int p4)]))
                refine Ends.step (fun t k => XS.goto X62.here hx rfl (pc0 := 119) (pc' := 123) rfl (hb hby at_119) (by decide) (by decide) k) ?_
                exact J92 (0 : Int32) (Or.inl rfl)
            · refine Ends.step (fun t k => XS.ifNo X62.here hx rfl (hb hby at_102) rfl ((if0 _ _).trans (feq c90).1) k) ?_
              show Ends _ _ _ _ (T62.setTop (mkF m 105 #[.val (.int p1), .val (.int p2), .val (.int p3), .val (.int p4), .val (.int p5), .val (.int (1 : Int32)), .val (.int z52), .val (.int z54), .val (.int z56), .val (.ref x_58), .val (.ref x_62), .val .null, .unset, .unset, .unset, .unset, .unset] []))
              refine Ends.step (fun t k => XS.aconstNull X62.here hx rfl (hb hby at_105) k) ?_
              show Ends _ _ _ _ (T62.setTop (mkF m 106 #[.val (.int p1), .val (.int p2), .val (.int p3), .val (.int p4), .val (.int p5), .val (.int (1 : Int32)), .val (.int z52), .val (.int z54), .val (.int z56), .val (.ref x_58), .val (.ref x_62), .val .null, .unset, .unset, .unset, .unset, .unset] [.null]))
              refine Ends.step (fun t k => XS.goto X62.here hx rfl (pc0 := 106) (pc' := 126) rfl (hb hby at_106) (by decide) (by decide) k) ?_
              exact J69 .null T62.vm T62 T62.heap _ (own_mono X62 (by decide) (by decide)) rfl N62 (Keep.refl T62.heap []) _ hZ62 hown62 hS62 (Nat.le_refl _) CR62 rfl
          by_cases c96 : (p5 &&& (16 : Int32)) = (0 : Int32)
          · refine Ends.step (fun t k => XS.ifYes X58.here hx rfl (pc0 := 70) (pc' := 77) rfl (hb hby at_70) rfl ((if0 _ _).trans (teq c96).1) (by decide) (by decide) k) ?_
            show Ends _ _ _ _ (T58.setTop (mkF m 77 #[.val (.int p1), .val (.int p2), .val (.int p3), .val (.int p4), .val (.int p5), .val (.int (1 : Int32)), .val (.int z52), .val (.int z54), .val (.int z56), .val (.ref x_58), .unset, .unset, .unset, .unset, .unset, .unset, .unset] [(.int p2)]))
            refine Ends.step (fun t k => XS.iconst X58.here hx rfl (hb hby at_77) k) ?_
            exact J60 (1 : Int32) (Or.inr rfl)
          · refine Ends.step (fun t k => XS.ifNo X58.here hx rfl (hb hby at_70) rfl ((if0 _ _).trans (feq c96).1) k) ?_
            show Ends _ _ _ _ (T58.setTop (mkF m 73 #[.val (.int p1), .val (.int p2), .val (.int p3), .val (.int p4), .val (.int p5), .val (.int (1 : Int32)), .val (.int z52), .val (.int z54), .val (.int z56), .val (.ref x_58), .unset, .unset, .unset, .unset, .unset, .unset, .unset] [(.int p2)]))
            refine Ends.step (fun t k => XS.iconst X58.here hx rfl (hb hby at_73) k) ?_
            show Ends _ _ _ _ (T58.setTop (mkF m 74 #[.val (.int p1), .val (.int p2), .val (.int p3), .val (.int p4), .val (.int p5), .val (.int (1 : Int32)), .val (.int z52), .val (.int z54), .val (.int z56), .val (.ref x_58), .unset, .unset, .unset, .unset, .unset, .unset, .unset] [(.int (0 : Int32)), (.int p2)]))
            refine Ends.step (fun t k => XS.goto X58.here hx rfl (pc0 := 74) (pc' := 78) rfl (hb hby at_74) (by decide) (by decide) k) ?_
            exact J60 (0 : Int32) (Or.inl rfl)
        by_cases c97 : (p5 &&& (8 : Int32)) = (0 : Int32)
        · refine Ends.step (fun t k => XS.ifYes X0.here hx rfl (pc0 := 47) (pc' := 54) rfl (hb hby at_47) rfl ((if0 _ _).trans (teq c97).1) (by decide) (by decide) k) ?_
          show Ends _ _ _ _ (s₁.setTop (mkF m 54 #[.val (.int p1), .val (.int p2), .val (.int p3), .val (.int p4), .val (.int p5), .val (.int (1 : Int32)), .val (.int z52), .val (.int z54), .unset, .unset, .unset, .unset, .unset, .unset, .unset, .unset, .unset] []))
          refine Ends.step (fun t k => XS.iconst X0.here hx rfl (hb hby at_54) k) ?_
          exact J57 (1 : Int32) (Or.inr rfl)
        · refine Ends.step (fun t k => XS.ifNo X0.here hx rfl (hb hby at_47) rfl ((if0 _ _).trans (feq c97).1) k) ?_
          show Ends _ _ _ _ (s₁.setTop (mkF m 50 #[.val (.int p1), .val (.int p2), .val (.int p3), .val (.int p4), .val (.int p5), .val (.int (1 : Int32)), .val (.int z52), .val (.int z54), .unset, .unset, .unset, .unset, .unset, .unset, .unset, .unset, .unset] []))
          refine Ends.step (fun t k => XS.iconst X0.here hx rfl (hb hby at_50) k) ?_
          show Ends _ _ _ _ (s₁.setTop (mkF m 51 #[.val (.int p1), .val (.int p2), .val (.int p3), .val (.int p4), .val (.int p5), .val (.int (1 : Int32)), .val (.int z52), .val (.int z54), .unset, .unset, .unset, .unset, .unset, .unset, .unset, .unset, .unset] [(.int (0 : Int32))]))
          refine Ends.step (fun t k => XS.goto X0.here hx rfl (pc0 := 51) (pc' := 55) rfl (hb hby at_51) (by decide) (by decide) k) ?_
          exact J57 (0 : Int32) (Or.inl rfl)
      by_cases c98 : (p5 &&& (4 : Int32)) = (0 : Int32)
      · refine Ends.step (fun t k => XS.ifYes X0.here hx rfl (pc0 := 32) (pc' := 39) rfl (hb hby at_32) rfl ((if0 _ _).trans (teq c98).1) (by decide) (by decide) k) ?_
        show Ends _ _ _ _ (s₁.setTop (mkF m 39 #[.val (.int p1), .val (.int p2), .val (.int p3), .val (.int p4), .val (.int p5), .val (.int (1 : Int32)), .val (.int z52), .unset, .unset, .unset, .unset, .unset, .unset, .unset, .unset, .unset, .unset] []))
        refine Ends.step (fun t k => XS.iconst X0.here hx rfl (hb hby at_39) k) ?_
        exact J55 (0 : Int32) (Or.inl rfl)
      · refine Ends.step (fun t k => XS.ifNo X0.here hx rfl (hb hby at_32) rfl ((if0 _ _).trans (feq c98).1) k) ?_
        show Ends _ _ _ _ (s₁.setTop (mkF m 35 #[.val (.int p1), .val (.int p2), .val (.int p3), .val (.int p4), .val (.int p5), .val (.int (1 : Int32)), .val (.int z52), .unset, .unset, .unset, .unset, .unset, .unset, .unset, .unset, .unset, .unset] []))
        refine Ends.step (fun t k => XS.iconst X0.here hx rfl (hb hby at_35) k) ?_
        show Ends _ _ _ _ (s₁.setTop (mkF m 36 #[.val (.int p1), .val (.int p2), .val (.int p3), .val (.int p4), .val (.int p5), .val (.int (1 : Int32)), .val (.int z52), .unset, .unset, .unset, .unset, .unset, .unset, .unset, .unset, .unset, .unset] [(.int (1 : Int32))]))
        refine Ends.step (fun t k => XS.goto X0.here hx rfl (pc0 := 36) (pc' := 40) rfl (hb hby at_36) (by decide) (by decide) k) ?_
        exact J55 (1 : Int32) (Or.inr rfl)
    by_cases c99 : (p5 &&& (2 : Int32)) = (0 : Int32)
    · refine Ends.step (fun t k => XS.ifYes X0.here hx rfl (pc0 := 18) (pc' := 25) rfl (hb hby at_18) rfl ((if0 _ _).trans (teq c99).1) (by decide) (by decide) k) ?_
      show Ends _ _ _ _ (s₁.setTop (mkF m 25 #[.val (.int p1), .val (.int p2), .val (.int p3), .val (.int p4), .val (.int p5), .val (.int (1 : Int32)), .unset, .unset, .unset, .unset, .unset, .unset, .unset, .unset, .unset, .unset, .unset] []))
      refine Ends.step (fun t k => XS.iconst X0.here hx rfl (hb hby at_25) k) ?_
      exact J53 (0 : Int32) (Or.inl rfl)
    · refine Ends.step (fun t k => XS.ifNo X0.here hx rfl (hb hby at_18) rfl ((if0 _ _).trans (feq c99).1) k) ?_
      show Ends _ _ _ _ (s₁.setTop (mkF m 21 #[.val (.int p1), .val (.int p2), .val (.int p3), .val (.int p4), .val (.int p5), .val (.int (1 : Int32)), .unset, .unset, .unset, .unset, .unset, .unset, .unset, .unset, .unset, .unset, .unset] []))
      refine Ends.step (fun t k => XS.iconst X0.here hx rfl (hb hby at_21) k) ?_
      show Ends _ _ _ _ (s₁.setTop (mkF m 22 #[.val (.int p1), .val (.int p2), .val (.int p3), .val (.int p4), .val (.int p5), .val (.int (1 : Int32)), .unset, .unset, .unset, .unset, .unset, .unset, .unset, .unset, .unset, .unset, .unset] [(.int (1 : Int32))]))
      refine Ends.step (fun t k => XS.goto X0.here hx rfl (pc0 := 22) (pc' := 26) rfl (hb hby at_22) (by decide) (by decide) k) ?_
      exact J53 (1 : Int32) (Or.inr rfl)
set_option maxRecDepth 65536 in
set_option maxHeartbeats 40000000 in
theorem comes_1 {Post : Tables → Env → Array Value → State → Outcome → State → Prop} (hpost : ∀ tb e args s v u, (limb_1_1.after args s (.returned v) u = true ∧ limb_1_2.after args s (.returned v) u = true ∧ True) → ReturnedEndW s (.returned v) u (Jvm.fieldLocs frame_1_writes args s ++ Jvm.arrayLocs frame_1_arrays args s ++ Jvm.staticLocs frame_1_statics s) 40 1216 → Post tb e args s (.returned v) u) :
    ArmFor flags0 classFile x code maxLocals ret World_1 tables_1 room_1 Calls_1 rest_1 Pre_1 Post := by
  intro l hfl _ _ p e ha hc hk s m args below hf hA hF happ hP
  obtain ⟨hcalls, hrest, hpre⟩ := hP
  obtain ⟨-, -, -, hnamed, -, -, -, hat⟩ := (Spec.applies_iff hf).mp happ
  obtain ⟨hg, hn⟩ := and_e (Cond.before_iff.mp (show (Jvm.Cond.and given_1 narrow_1).before args s = true from hpre))
  obtain ⟨hcount, hg1⟩ := and_e hg
  obtain ⟨w0, w1, w2, w3, w4, rfl⟩ : ∃ w0 w1 w2 w3 w4 : Value, args = #[w0, w1, w2, w3, w4] := by
    have hs : args.size = 5 := by simpa [Cond.value, given_1] using hcount
    obtain ⟨L⟩ := args
    match L, hs with
    | [w0, w1, w2, w3, w4], _ => exact ⟨w0, w1, w2, w3, w4, rfl⟩
  have hw := fun d (hd : d ∈ tables_1) => atoms_spec (ws := Jvm.Cond.code x code maxLocals ret :: tables_1) hat d (List.mem_cons_of_mem _ hd)
  have hfit : Fit s := fun {y c} hc i hi => by
    obtain ⟨ha, rfl⟩ := Array.getElem?_eq_some_iff.mp hc
    have q := List.all_eq_true.mp ((Array.all_eq_true_iff_forall_mem.mp hF) _ (Array.getElem_mem ha)) i (List.mem_range.mpr hi)
    simpa [Array.getElem?_eq_getElem hi] using q
  obtain ⟨ga0, hg2⟩ := and_e hg1
  obtain ⟨i0, ei0⟩ := is_v ga0
  obtain rfl : w0 = (.int i0) := Option.some.inj ei0
  obtain ⟨ga1, hg3⟩ := and_e hg2
  obtain ⟨i1, ei1⟩ := is_v ga1
  obtain rfl : w1 = (.int i1) := Option.some.inj ei1
  obtain ⟨ga2, hg4⟩ := and_e hg3
  obtain ⟨i2, ei2⟩ := is_v ga2
  obtain rfl : w2 = (.int i2) := Option.some.inj ei2
  obtain ⟨ga3, hg5⟩ := and_e hg4
  obtain ⟨i3, ei3⟩ := is_v ga3
  obtain rfl : w3 = (.int i3) := Option.some.inj ei3
  obtain ⟨i4, ei4⟩ := is_v hg5
  obtain rfl : w4 = (.int i4) := Option.some.inj ei4
  obtain ⟨hsets, hown0⟩ := atoms_of _ (rest_1_c_eq ▸ (show rest_1_c.before _ s = true from hrest))
  have nCS := not_v (Cond.before_iff.mp (hsets _ (List.mem_of_getElem? (i := 2) rfl)))
  obtain ⟨iCS, eCS⟩ := is_v (Cond.before_iff.mp (hsets _ (List.mem_of_getElem? (i := 1) rfl)))
  have SCS : Sta s s.heap "java/lang/String" "COMPACT_STRINGS" "Z" (.int iCS) := Sta.start eCS (Or.inl (hsets _ (List.mem_of_getElem? (i := 0) rfl)))
  have cCS : ¬ (iCS = (0 : Int32)) := gotF (Cond.eq_ints eCS (Term.int_eval (0))) nCS
  have CH0 : CHv s consts_1 s.vm s.heap := CHv.start (own_hEL hw) (fun p hp => hcalls.1 p hp) (show Jvm.Lit.compactW.before _ s = true from (hsets _ (List.mem_of_getElem? (i := 2) rfl))) (hw _ (List.mem_of_getElem? (i := 23) rfl)) (hw _ (List.mem_of_getElem? (i := 6) rfl))
  obtain ⟨n, o, h1, h2, h3, _, L, rfl, ⟨rfl, N, _⟩, _, hq⟩ := rm0 l s _ hw tables_1 i0 i1 i2 i3 i4 s.heap s.heap.size (Nat.le_refl _) iCS SCS cCS  (Old.start s) p e ha hc hk s m _ below hf ((Spec.applies_iff_loose hf).mp happ).1 ⟨rfl, State.Warmed39.refl s, rfl, CH0⟩ trivial
  refine ⟨n, _, h1, h2, h3, hpost _ _ _ _ _ _ ⟨Cond.after_iff.mpr rfl, Cond.after_iff.mpr (eq_i res_at (Term.int_eval (1)) rfl), trivial⟩ ⟨hq.1, hq.2.1, hq.2.2.1, (hq.2.2.2.sift fun y hy => Or.inr (N y hy)).mono (by decide) (by decide)⟩⟩
theorem main_1_1 : Claimed_1_1 := comes_1 fun _ _ _ _ _ _ h hF => ⟨h.1, hF⟩
theorem main_1_2 : Claimed_1_2 := comes_1 fun _ _ _ _ _ _ h hF => ⟨h.2.1, hF⟩
end Jvm.Pilot.@@N@@
namespace Jvm.Pilot.@@N@@
open Jvm Jvm.ClassFile Sem Op Lib Jvm.Free Jvm.Stand Jvm.Pilot.@@N@@.Jvm.D
/-! MADE BY PROGRAM (witnessworld.py) out of the Statement's table words and the real class files: 21 classes; the members and pool entries that the words name. The judged class is class 1, her method 2. -/
namespace start1
open Jvm.ClassFile
def u (s : String) : CpInfo := .utf8 (stringToUtf16 s)
/-- a pool by its gaps: so many unusable entries, then the entry; so many at the end -/
def gap : Nat → List CpInfo → List CpInfo
  | 0, r => r
  | n + 1, r => .unusable :: gap n r
def poolList (es : List (Nat × CpInfo)) (last : Nat) : List CpInfo := es.foldr (fun e r => gap e.1 (e.2 :: r)) (gap last [])
def pool (es : List (Nat × CpInfo)) (last : Nat) : Array CpInfo := ⟨poolList es last⟩
def fileOf (pool : Array CpInfo) (this : Nat) (attrs : Array Attribute := #[]) (ms : Array MethodInfo := #[]) (fl : Nat := 33) (sup : Nat := 0) (ifs : Array Nat := #[]) (fds : Array FieldInfo := #[]) : ClassFile where
  minorVersion := 0
  majorVersion := 65
  constantPool := pool
  accessFlags := fl
  thisClass := this
  superClass := sup
  interfaces := ifs
  fields := fds
  methods := ms
  attributes := attrs
def plain (name : String) (sup : Option ClassId) : Class where
  name := name
  kind := .ordinary
  loader := none
  accessFlags := 33
  super := sup
  interfaces := #[]
  cf := none
  fields := #[]
  methods := #[]
  instanceTypes := #[]
  staticTypes := #[]
  resolved := #[]
  callSites := []
  init := .initialized
  statics := none
  mirror := none

def pool0 : Array CpInfo := pool [(5, u "<init>"), (0, u "()V"), (1, .class_ 10), (1, u "java/lang/Object")] 113

def k0c0 : Code := { maxStack := 0, maxLocals := 1, code := object_method_1_code, exceptionTable := #[], attributes := #[] }
def k0m0 : Method := { name := "<init>", desc := "()V", sig := { parameters := [], returnType := none }, accessFlags := 1, code := some k0c0 }
/-- java/lang/Object -/
def k0 : Class := { plain "java/lang/Object" none with
  accessFlags := 33
  interfaces := #[]
  cf := some (fileOf pool0 8 #[] #[{ accessFlags := 1, nameIndex := 5, descriptorIndex := 6, attributes := #[] }] 33 0 #[] #[])
  fields := #[]
  methods := #[k0m0]
  instanceTypes := #[]
  staticTypes := #[]
  resolved := Array.replicate 124 none
  statics := none }

def pool1 : Array CpInfo := pool [(2, .class_ 4), (1, u "java/lang/Object"), (0, u "<init>"), (0, u "()V"), (0, .class_ 8), (0, u "java/lang/String"), (0, .methodref 7 10), (0, .nameAndType 5 11), (0, u "([C)V"), (0, .methodref 13 14), (0, .class_ 15), (0, .nameAndType 16 17), (0, u "com/example/corbel/corbel/OptionTakesValuePinLaw"), (0, u "drawn"), (0, u "(II)Ljava/lang/String;"), (0, .class_ 19), (0, u "com/example/corbel/corbel/Options$Option"), (0, .methodref 18 21), (0, .nameAndType 5 22), (0, u "(Ljava/lang/String;Ljava/lang/String;Ljava/lang/String;Ljava/lang/String;Z)V"), (0, .methodref 18 24), (0, .nameAndType 25 26), (0, u "takesValue"), (0, u "()Z"), (0, .methodref 18 28), (0, .nameAndType 29 30), (0, u "flag"), (0, u "(Ljava/lang/String;Ljava/lang/String;)Lcom/example/corbel/corbel/Options$Option;"), (0, .methodref 18 32), (0, .nameAndType 33 34), (0, u "asOptional"), (0, u "()Lcom/example/corbel/corbel/Options$Option;"), (3, u "law"), (0, u "(IIIII)Z")] 6

def k1m0 : Method := { name := "<init>", desc := "()V", sig := { parameters := [], returnType := none }, accessFlags := 2, code := none }
def k1c1 : Code := { maxStack := 4, maxLocals := 3, code := method_2_code, exceptionTable := #[], attributes := #[] }
def k1m1 : Method := { name := "drawn", desc := "(II)Ljava/lang/String;", sig := { parameters := [.int, .int], returnType := some (.object "java/lang/String") }, accessFlags := 10, code := some k1c1 }
def k1c2 : Code := { maxStack := 7, maxLocals := 17, code := code, exceptionTable := #[], attributes := #[] }
def k1m2 : Method := { name := "law", desc := "(IIIII)Z", sig := { parameters := [.int, .int, .int, .int, .int], returnType := some .boolean }, accessFlags := 9, code := some k1c2 }
/-- com/example/corbel/corbel/OptionTakesValuePinLaw -/
def k1 : Class := { plain "com/example/corbel/corbel/OptionTakesValuePinLaw" (some 0) with
  accessFlags := 49
  interfaces := #[]
  cf := some (fileOf pool1 13 #[] #[{ accessFlags := 2, nameIndex := 5, descriptorIndex := 6, attributes := #[] }, { accessFlags := 10, nameIndex := 16, descriptorIndex := 17, attributes := #[] }, { accessFlags := 9, nameIndex := 38, descriptorIndex := 39, attributes := #[] }] 49 2 #[] #[])
  fields := #[]
  methods := #[k1m0, k1m1, k1m2]
  instanceTypes := #[]
  staticTypes := #[]
  resolved := Array.replicate 46 none
  statics := none }

def pool2 : Array CpInfo := pool [(1, .class_ 2), (0, u "java/io/Serializable"), (0, .class_ 4), (0, u "java/lang/Object")] 2

/-- java/io/Serializable -/
def k2 : Class := { plain "java/io/Serializable" (some 0) with
  accessFlags := 1537
  interfaces := #[]
  cf := some (fileOf pool2 1 #[] #[] 1537 3 #[] #[])
  fields := #[]
  methods := #[]
  instanceTypes := #[]
  staticTypes := #[]
  resolved := Array.replicate 7 none
  statics := none }

def pool3 : Array CpInfo := pool [(1, .class_ 2), (0, u "java/lang/Comparable"), (0, .class_ 4), (0, u "java/lang/Object")] 7

/-- java/lang/Comparable -/
def k3 : Class := { plain "java/lang/Comparable" (some 0) with
  accessFlags := 1537
  interfaces := #[]
  cf := some (fileOf pool3 1 #[] #[] 1537 3 #[] #[])
  fields := #[]
  methods := #[]
  instanceTypes := #[]
  staticTypes := #[]
  resolved := Array.replicate 12 none
  statics := none }

def pool4 : Array CpInfo := pool [(2, .class_ 4), (1, u "java/lang/CharSequence"), (42, .class_ 48), (0, u "java/lang/CharSequence$1CodePointIterator"), (10, .class_ 60), (0, u "java/lang/CharSequence$1CharIterator"), (5, .class_ 67), (0, u "java/lang/Object")] 63

/-- java/lang/CharSequence -/
def k4 : Class := { plain "java/lang/CharSequence" (some 0) with
  accessFlags := 1537
  interfaces := #[]
  cf := some (fileOf pool4 2 #[.nestMembers #[47, 59]] #[] 1537 66 #[] #[])
  fields := #[]
  methods := #[]
  instanceTypes := #[]
  staticTypes := #[]
  resolved := Array.replicate 131 none
  statics := none }

def pool5 : Array CpInfo := pool [(1, .class_ 2), (0, u "java/lang/constant/Constable"), (0, .class_ 4), (0, u "java/lang/Object")] 6

/-- java/lang/constant/Constable -/
def k5 : Class := { plain "java/lang/constant/Constable" (some 0) with
  accessFlags := 1537
  interfaces := #[]
  cf := some (fileOf pool5 1 #[] #[] 1537 3 #[] #[])
  fields := #[]
  methods := #[]
  instanceTypes := #[]
  staticTypes := #[]
  resolved := Array.replicate 11 none
  statics := none }

def pool6 : Array CpInfo := pool [(1, .class_ 2), (0, u "java/lang/constant/ConstantDesc"), (0, .class_ 4), (0, u "java/lang/Object")] 32

/-- java/lang/constant/ConstantDesc -/
def k6 : Class := { plain "java/lang/constant/ConstantDesc" (some 0) with
  accessFlags := 1537
  interfaces := #[]
  cf := some (fileOf pool6 1 #[] #[] 1537 3 #[] #[])
  fields := #[]
  methods := #[]
  instanceTypes := #[]
  staticTypes := #[]
  resolved := Array.replicate 37 none
  statics := none }

def pool7 : Array CpInfo := pool [(1, .methodref 2 3), (0, .class_ 4), (0, .nameAndType 5 6), (0, u "java/lang/Object"), (0, u "<init>"), (0, u "()V"), (0, .string 8), (0, u ""), (0, .fieldref 10 11), (0, .class_ 12), (0, .nameAndType 13 14), (0, u "java/lang/String"), (0, u "value"), (0, u "[B"), (0, .fieldref 10 16), (0, .nameAndType 17 18), (0, u "coder"), (0, u "B"), (2, u "hash"), (0, u "I"), (2, u "hashIsZero"), (0, u "Z"), (0, .methodref 10 28), (0, .nameAndType 5 29), (0, u "([CIILjava/lang/Void;)V"), (8, .fieldref 10 39), (0, .nameAndType 40 26), (0, u "COMPACT_STRINGS"), (1, .class_ 44), (1, u "java/lang/StringUTF16"), (0, u "compress"), (1, .methodref 42 48), (0, .nameAndType 49 50), (0, u "coderFromArrayLen"), (0, u "([BI)B"), (126, .methodref 42 178), (0, .nameAndType 45 179), (0, u "([CII)[B"), (395, .class_ 576), (0, u "java/lang/CharSequence"), (22, u "CASE_INSENSITIVE_ORDER"), (0, u "Ljava/util/Comparator;"), (409, u "([C)V"), (90, u "serialPersistentFields"), (0, u "[Ljava/io/ObjectStreamField;"), (0, .class_ 1104), (0, u "java/lang/String$CaseInsensitiveComparator"), (1, .class_ 1107), (0, u "java/io/Serializable"), (0, .class_ 1109), (0, u "java/lang/Comparable"), (0, .class_ 1111), (0, u "java/lang/constant/Constable"), (0, .class_ 1113), (0, u "java/lang/constant/ConstantDesc"), (2, u "serialVersionUID"), (0, u "J"), (3, u "REPL"), (0, u "C"), (2, u "LATIN1"), (1, u "UTF16")] 323

def k7m0 : Method := { name := "<init>", desc := "()V", sig := { parameters := [], returnType := none }, accessFlags := 1, code := none }
def k7c1 : Code := { maxStack := 5, maxLocals := 2, code := jdk_42_method_3_code, exceptionTable := #[], attributes := #[] }
def k7m1 : Method := { name := "<init>", desc := "([C)V", sig := { parameters := [(.array .char)], returnType := none }, accessFlags := 1, code := some k7c1 }
def k7c2 : Code := { maxStack := 4, maxLocals := 6, code := jdk_42_method_149_code, exceptionTable := #[], attributes := #[] }
def k7m2 : Method := { name := "<init>", desc := "([CIILjava/lang/Void;)V", sig := { parameters := [(.array .char), .int, .int, (.object "java/lang/Void")], returnType := none }, accessFlags := 2, code := some k7c2 }
/-- java/lang/String -/
def k7 : Class := { plain "java/lang/String" (some 0) with
  accessFlags := 49
  interfaces := #[2, 3, 4, 5, 6]
  cf := some (fileOf pool7 10 #[.nestMembers #[1103]] #[{ accessFlags := 1, nameIndex := 5, descriptorIndex := 6, attributes := #[] }, { accessFlags := 1, nameIndex := 5, descriptorIndex := 1010, attributes := #[] }, { accessFlags := 2, nameIndex := 5, descriptorIndex := 29, attributes := #[] }] 49 2 #[1106, 1108, 575, 1110, 1112] #[{ accessFlags := 18, nameIndex := 13, descriptorIndex := 14, attributes := #[] }, { accessFlags := 18, nameIndex := 17, descriptorIndex := 18, attributes := #[] }, { accessFlags := 2, nameIndex := 21, descriptorIndex := 22, attributes := #[] }, { accessFlags := 2, nameIndex := 25, descriptorIndex := 26, attributes := #[] }, { accessFlags := 26, nameIndex := 1116, descriptorIndex := 1117, attributes := #[] }, { accessFlags := 24, nameIndex := 40, descriptorIndex := 26, attributes := #[] }, { accessFlags := 26, nameIndex := 1101, descriptorIndex := 1102, attributes := #[] }, { accessFlags := 26, nameIndex := 1121, descriptorIndex := 1122, attributes := #[] }, { accessFlags := 25, nameIndex := 599, descriptorIndex := 600, attributes := #[] }, { accessFlags := 24, nameIndex := 1125, descriptorIndex := 18, attributes := #[] }, { accessFlags := 24, nameIndex := 1127, descriptorIndex := 18, attributes := #[] }])
  fields := #[{ name := "value", type := (.array .byte), accessFlags := 18, slot := 0, constantValue := 0 }, { name := "coder", type := .byte, accessFlags := 18, slot := 1, constantValue := 0 }, { name := "hash", type := .int, accessFlags := 2, slot := 2, constantValue := 0 }, { name := "hashIsZero", type := .boolean, accessFlags := 2, slot := 3, constantValue := 0 }, { name := "serialVersionUID", type := .long, accessFlags := 26, slot := 0, constantValue := 0 }, { name := "COMPACT_STRINGS", type := .boolean, accessFlags := 24, slot := 1, constantValue := 0 }, { name := "serialPersistentFields", type := (.array (.object "java/io/ObjectStreamField")), accessFlags := 26, slot := 2, constantValue := 0 }, { name := "REPL", type := .char, accessFlags := 26, slot := 3, constantValue := 0 }, { name := "CASE_INSENSITIVE_ORDER", type := (.object "java/util/Comparator"), accessFlags := 25, slot := 4, constantValue := 0 }, { name := "LATIN1", type := .byte, accessFlags := 24, slot := 5, constantValue := 0 }, { name := "UTF16", type := .byte, accessFlags := 24, slot := 6, constantValue := 0 }]
  methods := #[k7m0, k7m1, k7m2]
  instanceTypes := #[(.array .byte), .byte, .int, .boolean]
  staticTypes := #[.long, .boolean, (.array (.object "java/io/ObjectStreamField")), .char, (.object "java/util/Comparator"), .byte, .byte]
  resolved := Array.replicate 1451 none
  statics := some 0 }

def pool8 : Array CpInfo := pool [(6, .class_ 8), (1, u "java/lang/Object"), (0, u "<init>"), (0, u "()V"), (1, .class_ 14), (1, u "java/lang/StringUTF16"), (31, u "$assertionsDisabled"), (0, u "Z"), (13, u "HI_BYTE_SHIFT"), (0, u "I"), (2, u "LO_BYTE_SHIFT"), (49, .methodref 12 116), (0, .nameAndType 117 118), (0, u "compress"), (0, u "([CI[BII)I"), (3, u "([CII)[B"), (138, u "coderFromArrayLen"), (0, u "([BI)B"), (106, .class_ 371), (1, u "java/lang/StringUTF16$LinesSpliterator"), (58, u "MAX_LENGTH"), (196, .class_ 628), (0, u "java/lang/StringUTF16$CodePointsSpliterator"), (0, .class_ 630), (0, u "java/lang/StringUTF16$CharsSpliterator")] 4

def k8m0 : Method := { name := "<init>", desc := "()V", sig := { parameters := [], returnType := none }, accessFlags := 0, code := none }
def k8c1 : Code := { maxStack := 2, maxLocals := 2, code := jdk_52_method_15_code, exceptionTable := #[], attributes := #[] }
def k8m1 : Method := { name := "coderFromArrayLen", desc := "([BI)B", sig := { parameters := [(.array .byte), .int], returnType := some .byte }, accessFlags := 8, code := some k8c1 }
def k8c2 : Code := { maxStack := 5, maxLocals := 6, code := jdk_52_method_16_code, exceptionTable := #[], attributes := #[] }
def k8m2 : Method := { name := "compress", desc := "([CII)[B", sig := { parameters := [(.array .char), .int, .int], returnType := some (.array .byte) }, accessFlags := 9, code := some k8c2 }
def k8c3 : Code := { maxStack := 3, maxLocals := 7, code := jdk_52_method_21_code, exceptionTable := #[], attributes := #[] }
def k8m3 : Method := { name := "compress", desc := "([CI[BII)I", sig := { parameters := [(.array .char), .int, (.array .byte), .int, .int], returnType := some .int }, accessFlags := 9, code := some k8c3 }
/-- java/lang/StringUTF16 -/
def k8 : Class := { plain "java/lang/StringUTF16" (some 0) with
  accessFlags := 48
  interfaces := #[]
  cf := some (fileOf pool8 12 #[.nestMembers #[627, 629, 369]] #[{ accessFlags := 0, nameIndex := 9, descriptorIndex := 10, attributes := #[] }, { accessFlags := 8, nameIndex := 261, descriptorIndex := 262, attributes := #[] }, { accessFlags := 9, nameIndex := 117, descriptorIndex := 122, attributes := #[] }, { accessFlags := 9, nameIndex := 117, descriptorIndex := 118, attributes := #[] }] 48 6 #[] #[{ accessFlags := 26, nameIndex := 61, descriptorIndex := 62, attributes := #[] }, { accessFlags := 26, nameIndex := 65, descriptorIndex := 62, attributes := #[] }, { accessFlags := 24, nameIndex := 430, descriptorIndex := 62, attributes := #[] }, { accessFlags := 4120, nameIndex := 46, descriptorIndex := 47, attributes := #[] }])
  fields := #[{ name := "HI_BYTE_SHIFT", type := .int, accessFlags := 26, slot := 0, constantValue := 0 }, { name := "LO_BYTE_SHIFT", type := .int, accessFlags := 26, slot := 1, constantValue := 0 }, { name := "MAX_LENGTH", type := .int, accessFlags := 24, slot := 2, constantValue := 0 }, { name := "$assertionsDisabled", type := .boolean, accessFlags := 4120, slot := 3, constantValue := 0 }]
  methods := #[k8m0, k8m1, k8m2, k8m3]
  instanceTypes := #[]
  staticTypes := #[.int, .int, .int, .boolean]
  resolved := Array.replicate 635 none
  statics := none }

def pool9 : Array CpInfo := pool [(1, .methodref 2 3), (0, .class_ 4), (0, .nameAndType 5 6), (0, u "java/lang/Object"), (0, u "<init>"), (0, u "()V"), (0, .class_ 8), (0, u "java/lang/Record")] 13

def k9c0 : Code := { maxStack := 1, maxLocals := 1, code := jdk_30_method_1_code, exceptionTable := #[], attributes := #[] }
def k9m0 : Method := { name := "<init>", desc := "()V", sig := { parameters := [], returnType := none }, accessFlags := 4, code := some k9c0 }
/-- java/lang/Record -/
def k9 : Class := { plain "java/lang/Record" (some 0) with
  accessFlags := 1057
  interfaces := #[]
  cf := some (fileOf pool9 7 #[] #[{ accessFlags := 4, nameIndex := 5, descriptorIndex := 6, attributes := #[] }] 1057 2 #[] #[])
  fields := #[]
  methods := #[k9m0]
  instanceTypes := #[]
  staticTypes := #[]
  resolved := Array.replicate 22 none
  statics := none }

def pool10 : Array CpInfo := pool [(1, .methodref 2 3), (0, .class_ 4), (0, .nameAndType 5 6), (0, u "java/lang/Record"), (0, u "<init>"), (0, u "()V"), (0, .fieldref 8 9), (0, .class_ 10), (0, .nameAndType 11 12), (0, u "com/example/corbel/corbel/Options$Option"), (0, u "name"), (0, u "Ljava/lang/String;"), (0, .fieldref 8 14), (0, .nameAndType 15 12), (0, u "value"), (0, .fieldref 8 17), (0, .nameAndType 18 12), (0, u "meaning"), (0, .fieldref 8 20), (0, .nameAndType 21 12), (0, u "fallback"), (0, .fieldref 8 23), (0, .nameAndType 24 25), (0, u "required"), (0, u "Z"), (0, .methodref 8 27), (0, .nameAndType 5 28), (0, u "(Ljava/lang/String;Ljava/lang/String;Ljava/lang/String;Ljava/lang/String;Z)V"), (0, .methodref 8 30), (0, .nameAndType 31 32), (0, u "optional"), (0, u "(Ljava/lang/String;Ljava/lang/String;Ljava/lang/String;)Lcom/example/corbel/corbel/Options$Option;"), (2, u "takesValue"), (0, u "()Z"), (23, u "asOptional"), (0, u "()Lcom/example/corbel/corbel/Options$Option;"), (0, u "flag"), (0, u "(Ljava/lang/String;Ljava/lang/String;)Lcom/example/corbel/corbel/Options$Option;"), (7, .class_ 72), (0, u "com/example/corbel/corbel/Options")] 31

def k10c0 : Code := { maxStack := 2, maxLocals := 6, code := prog_50_method_2_code, exceptionTable := #[], attributes := #[] }
def k10m0 : Method := { name := "<init>", desc := "(Ljava/lang/String;Ljava/lang/String;Ljava/lang/String;Ljava/lang/String;Z)V", sig := { parameters := [(.object "java/lang/String"), (.object "java/lang/String"), (.object "java/lang/String"), (.object "java/lang/String"), .boolean], returnType := none }, accessFlags := 0, code := some k10c0 }
def k10c1 : Code := { maxStack := 7, maxLocals := 3, code := prog_50_method_3_code, exceptionTable := #[], attributes := #[] }
def k10m1 : Method := { name := "optional", desc := "(Ljava/lang/String;Ljava/lang/String;Ljava/lang/String;)Lcom/example/corbel/corbel/Options$Option;", sig := { parameters := [(.object "java/lang/String"), (.object "java/lang/String"), (.object "java/lang/String")], returnType := some (.object "com/example/corbel/corbel/Options$Option") }, accessFlags := 8, code := some k10c1 }
def k10c2 : Code := { maxStack := 3, maxLocals := 1, code := prog_50_method_4_code, exceptionTable := #[], attributes := #[] }
def k10m2 : Method := { name := "asOptional", desc := "()Lcom/example/corbel/corbel/Options$Option;", sig := { parameters := [], returnType := some (.object "com/example/corbel/corbel/Options$Option") }, accessFlags := 0, code := some k10c2 }
def k10c3 : Code := { maxStack := 7, maxLocals := 2, code := prog_50_method_5_code, exceptionTable := #[], attributes := #[] }
def k10m3 : Method := { name := "flag", desc := "(Ljava/lang/String;Ljava/lang/String;)Lcom/example/corbel/corbel/Options$Option;", sig := { parameters := [(.object "java/lang/String"), (.object "java/lang/String")], returnType := some (.object "com/example/corbel/corbel/Options$Option") }, accessFlags := 8, code := some k10c3 }
def k10c4 : Code := { maxStack := 1, maxLocals := 1, code := prog_50_method_6_code, exceptionTable := #[], attributes := #[] }
def k10m4 : Method := { name := "takesValue", desc := "()Z", sig := { parameters := [], returnType := some .boolean }, accessFlags := 0, code := some k10c4 }
/-- com/example/corbel/corbel/Options$Option -/
def k10 : Class := { plain "com/example/corbel/corbel/Options$Option" (some 9) with
  accessFlags := 48
  interfaces := #[]
  cf := some (fileOf pool10 8 #[.nestHost 71] #[{ accessFlags := 0, nameIndex := 5, descriptorIndex := 28, attributes := #[] }, { accessFlags := 8, nameIndex := 31, descriptorIndex := 32, attributes := #[] }, { accessFlags := 0, nameIndex := 60, descriptorIndex := 61, attributes := #[] }, { accessFlags := 8, nameIndex := 62, descriptorIndex := 63, attributes := #[] }, { accessFlags := 0, nameIndex := 35, descriptorIndex := 36, attributes := #[] }] 48 2 #[] #[{ accessFlags := 18, nameIndex := 11, descriptorIndex := 12, attributes := #[] }, { accessFlags := 18, nameIndex := 15, descriptorIndex := 12, attributes := #[] }, { accessFlags := 18, nameIndex := 18, descriptorIndex := 12, attributes := #[] }, { accessFlags := 18, nameIndex := 21, descriptorIndex := 12, attributes := #[] }, { accessFlags := 18, nameIndex := 24, descriptorIndex := 25, attributes := #[] }])
  fields := #[{ name := "name", type := (.object "java/lang/String"), accessFlags := 18, slot := 0, constantValue := 0 }, { name := "value", type := (.object "java/lang/String"), accessFlags := 18, slot := 1, constantValue := 0 }, { name := "meaning", type := (.object "java/lang/String"), accessFlags := 18, slot := 2, constantValue := 0 }, { name := "fallback", type := (.object "java/lang/String"), accessFlags := 18, slot := 3, constantValue := 0 }, { name := "required", type := .boolean, accessFlags := 18, slot := 4, constantValue := 0 }]
  methods := #[k10m0, k10m1, k10m2, k10m3, k10m4]
  instanceTypes := #[(.object "java/lang/String"), (.object "java/lang/String"), (.object "java/lang/String"), (.object "java/lang/String"), .boolean]
  staticTypes := #[]
  resolved := Array.replicate 104 none
  statics := none }

def pool11 : Array CpInfo := pool [(4, .class_ 6), (1, u "java/lang/Object"), (0, u "<init>"), (0, u "()V"), (5, .class_ 16), (1, u "java/lang/StringLatin1"), (104, u "$assertionsDisabled"), (0, u "Z"), (98, .class_ 223), (1, u "java/lang/StringLatin1$LinesSpliterator"), (166, .class_ 391), (0, u "java/lang/StringLatin1$CharsSpliterator")] 3

def k11m0 : Method := { name := "<init>", desc := "()V", sig := { parameters := [], returnType := none }, accessFlags := 0, code := none }
/-- java/lang/StringLatin1 -/
def k11 : Class := { plain "java/lang/StringLatin1" (some 0) with
  accessFlags := 48
  interfaces := #[]
  cf := some (fileOf pool11 14 #[.nestMembers #[390, 221]] #[{ accessFlags := 0, nameIndex := 7, descriptorIndex := 8, attributes := #[] }] 48 4 #[] #[{ accessFlags := 4120, nameIndex := 121, descriptorIndex := 122, attributes := #[] }])
  fields := #[{ name := "$assertionsDisabled", type := .boolean, accessFlags := 4120, slot := 0, constantValue := 0 }]
  methods := #[k11m0]
  instanceTypes := #[]
  staticTypes := #[.boolean]
  resolved := Array.replicate 395 none
  statics := none }

def pool12 : Array CpInfo := pool [(2, .class_ 4), (1, u "java/lang/Object"), (0, u "<init>"), (0, u "()V"), (17, .class_ 26), (1, u "jdk/internal/util/Preconditions"), (28, .class_ 56), (0, u "jdk/internal/util/Preconditions$4"), (57, .class_ 115), (0, u "jdk/internal/util/Preconditions$1"), (7, u "SIOOBE_FORMATTER"), (0, u "Ljava/util/function/BiFunction;"), (0, .class_ 126), (0, u "jdk/internal/util/Preconditions$2"), (3, u "AIOOBE_FORMATTER"), (0, .class_ 132), (0, u "jdk/internal/util/Preconditions$3"), (3, u "IOOBE_FORMATTER")] 57

def k12m0 : Method := { name := "<init>", desc := "()V", sig := { parameters := [], returnType := none }, accessFlags := 1, code := none }
/-- jdk/internal/util/Preconditions -/
def k12 : Class := { plain "jdk/internal/util/Preconditions" (some 0) with
  accessFlags := 33
  interfaces := #[]
  cf := some (fileOf pool12 24 #[.nestMembers #[55, 131, 125, 114]] #[{ accessFlags := 1, nameIndex := 5, descriptorIndex := 6, attributes := #[] }] 33 2 #[] #[{ accessFlags := 25, nameIndex := 123, descriptorIndex := 124, attributes := #[] }, { accessFlags := 25, nameIndex := 130, descriptorIndex := 124, attributes := #[] }, { accessFlags := 25, nameIndex := 136, descriptorIndex := 124, attributes := #[] }])
  fields := #[{ name := "SIOOBE_FORMATTER", type := (.object "java/util/function/BiFunction"), accessFlags := 25, slot := 0, constantValue := 0 }, { name := "AIOOBE_FORMATTER", type := (.object "java/util/function/BiFunction"), accessFlags := 25, slot := 1, constantValue := 0 }, { name := "IOOBE_FORMATTER", type := (.object "java/util/function/BiFunction"), accessFlags := 25, slot := 2, constantValue := 0 }]
  methods := #[k12m0]
  instanceTypes := #[]
  staticTypes := #[(.object "java/util/function/BiFunction"), (.object "java/util/function/BiFunction"), (.object "java/util/function/BiFunction")]
  resolved := Array.replicate 194 none
  statics := some 1 }

def pool13 : Array CpInfo := pool [(9, u "<init>"), (6, .class_ 18), (1, u "java/lang/Object"), (0, u "()V"), (1, .class_ 23), (1, u "jdk/internal/util/ArraysSupport"), (0, u "LOG2_ARRAY_LONG_INDEX_SCALE"), (0, u "I"), (2, u "U"), (0, u "Ljdk/internal/misc/Unsafe;"), (8, u "BIG_ENDIAN"), (0, u "Z"), (8, u "LOG2_BYTE_BIT_SIZE"), (4, u "LOG2_ARRAY_INT_INDEX_SCALE"), (54, u "JLA"), (0, u "Ljdk/internal/access/JavaLangAccess;"), (11, u "LOG2_ARRAY_BOOLEAN_INDEX_SCALE"), (9, u "LOG2_ARRAY_BYTE_INDEX_SCALE"), (5, u "LOG2_ARRAY_CHAR_INDEX_SCALE"), (5, u "LOG2_ARRAY_SHORT_INDEX_SCALE"), (18, u "LOG2_ARRAY_FLOAT_INDEX_SCALE"), (24, u "LOG2_ARRAY_DOUBLE_INDEX_SCALE"), (89, u "T_BOOLEAN"), (2, u "T_CHAR"), (1, u "T_FLOAT"), (1, u "T_DOUBLE"), (1, u "T_BYTE"), (1, u "T_SHORT"), (1, u "T_INT"), (1, u "T_LONG"), (1, u "SOFT_MAX_ARRAY_LENGTH")] 83

def k13m0 : Method := { name := "<init>", desc := "()V", sig := { parameters := [], returnType := none }, accessFlags := 2, code := none }
/-- jdk/internal/util/ArraysSupport -/
def k13 : Class := { plain "jdk/internal/util/ArraysSupport" (some 0) with
  accessFlags := 33
  interfaces := #[]
  cf := some (fileOf pool13 21 #[] #[{ accessFlags := 2, nameIndex := 9, descriptorIndex := 19, attributes := #[] }] 33 16 #[] #[{ accessFlags := 24, nameIndex := 28, descriptorIndex := 29, attributes := #[] }, { accessFlags := 26, nameIndex := 38, descriptorIndex := 39, attributes := #[] }, { accessFlags := 25, nameIndex := 121, descriptorIndex := 25, attributes := #[] }, { accessFlags := 25, nameIndex := 131, descriptorIndex := 25, attributes := #[] }, { accessFlags := 25, nameIndex := 137, descriptorIndex := 25, attributes := #[] }, { accessFlags := 25, nameIndex := 143, descriptorIndex := 25, attributes := #[] }, { accessFlags := 25, nameIndex := 53, descriptorIndex := 25, attributes := #[] }, { accessFlags := 25, nameIndex := 24, descriptorIndex := 25, attributes := #[] }, { accessFlags := 25, nameIndex := 162, descriptorIndex := 25, attributes := #[] }, { accessFlags := 25, nameIndex := 187, descriptorIndex := 25, attributes := #[] }, { accessFlags := 26, nameIndex := 48, descriptorIndex := 25, attributes := #[] }, { accessFlags := 25, nameIndex := 277, descriptorIndex := 25, attributes := #[] }, { accessFlags := 25, nameIndex := 280, descriptorIndex := 25, attributes := #[] }, { accessFlags := 25, nameIndex := 282, descriptorIndex := 25, attributes := #[] }, { accessFlags := 25, nameIndex := 284, descriptorIndex := 25, attributes := #[] }, { accessFlags := 25, nameIndex := 286, descriptorIndex := 25, attributes := #[] }, { accessFlags := 25, nameIndex := 288, descriptorIndex := 25, attributes := #[] }, { accessFlags := 25, nameIndex := 290, descriptorIndex := 25, attributes := #[] }, { accessFlags := 25, nameIndex := 292, descriptorIndex := 25, attributes := #[] }, { accessFlags := 26, nameIndex := 108, descriptorIndex := 109, attributes := #[] }, { accessFlags := 25, nameIndex := 294, descriptorIndex := 25, attributes := #[] }])
  fields := #[{ name := "U", type := (.object "jdk/internal/misc/Unsafe"), accessFlags := 24, slot := 0, constantValue := 0 }, { name := "BIG_ENDIAN", type := .boolean, accessFlags := 26, slot := 1, constantValue := 0 }, { name := "LOG2_ARRAY_BOOLEAN_INDEX_SCALE", type := .int, accessFlags := 25, slot := 2, constantValue := 0 }, { name := "LOG2_ARRAY_BYTE_INDEX_SCALE", type := .int, accessFlags := 25, slot := 3, constantValue := 0 }, { name := "LOG2_ARRAY_CHAR_INDEX_SCALE", type := .int, accessFlags := 25, slot := 4, constantValue := 0 }, { name := "LOG2_ARRAY_SHORT_INDEX_SCALE", type := .int, accessFlags := 25, slot := 5, constantValue := 0 }, { name := "LOG2_ARRAY_INT_INDEX_SCALE", type := .int, accessFlags := 25, slot := 6, constantValue := 0 }, { name := "LOG2_ARRAY_LONG_INDEX_SCALE", type := .int, accessFlags := 25, slot := 7, constantValue := 0 }, { name := "LOG2_ARRAY_FLOAT_INDEX_SCALE", type := .int, accessFlags := 25, slot := 8, constantValue := 0 }, { name := "LOG2_ARRAY_DOUBLE_INDEX_SCALE", type := .int, accessFlags := 25, slot := 9, constantValue := 0 }, { name := "LOG2_BYTE_BIT_SIZE", type := .int, accessFlags := 26, slot := 10, constantValue := 0 }, { name := "T_BOOLEAN", type := .int, accessFlags := 25, slot := 11, constantValue := 0 }, { name := "T_CHAR", type := .int, accessFlags := 25, slot := 12, constantValue := 0 }, { name := "T_FLOAT", type := .int, accessFlags := 25, slot := 13, constantValue := 0 }, { name := "T_DOUBLE", type := .int, accessFlags := 25, slot := 14, constantValue := 0 }, { name := "T_BYTE", type := .int, accessFlags := 25, slot := 15, constantValue := 0 }, { name := "T_SHORT", type := .int, accessFlags := 25, slot := 16, constantValue := 0 }, { name := "T_INT", type := .int, accessFlags := 25, slot := 17, constantValue := 0 }, { name := "T_LONG", type := .int, accessFlags := 25, slot := 18, constantValue := 0 }, { name := "JLA", type := (.object "jdk/internal/access/JavaLangAccess"), accessFlags := 26, slot := 19, constantValue := 0 }, { name := "SOFT_MAX_ARRAY_LENGTH", type := .int, accessFlags := 25, slot := 20, constantValue := 0 }]
  methods := #[k13m0]
  instanceTypes := #[]
  staticTypes := #[(.object "jdk/internal/misc/Unsafe"), .boolean, .int, .int, .int, .int, .int, .int, .int, .int, .int, .int, .int, .int, .int, .int, .int, .int, .int, (.object "jdk/internal/access/JavaLangAccess"), .int]
  resolved := Array.replicate 378 none
  statics := none }

def pool14 : Array CpInfo := pool [(1, u "java/lang/Cloneable"), (0, .class_ 1), (0, u "java/lang/Object"), (0, .class_ 3)] 3

/-- java/lang/Cloneable -/
def k14 : Class := { plain "java/lang/Cloneable" (some 0) with
  accessFlags := 1537
  interfaces := #[]
  cf := some (fileOf pool14 2 #[] #[] 1537 4 #[] #[])
  fields := #[]
  methods := #[]
  instanceTypes := #[]
  staticTypes := #[]
  resolved := Array.replicate 8 none
  statics := none }

/-- the primitive byte -/
def k15 : Class := { plain "byte" none with kind := .primitive 'B', accessFlags := 0x411 }
/-- [B -/
def k16 : Class := { plain "[B" (some 0) with kind := .array 15 .byte, interfaces := #[14, 2], accessFlags := 1041 }

/-- the primitive char -/
def k17 : Class := { plain "char" none with kind := .primitive 'C', accessFlags := 0x411 }
/-- [C -/
def k18 : Class := { plain "[C" (some 0) with kind := .array 17 .char, interfaces := #[14, 2], accessFlags := 1041 }

/-- the primitive int -/
def k19 : Class := { plain "int" none with kind := .primitive 'I', accessFlags := 0x411 }
/-- [I -/
def k20 : Class := { plain "[I" (some 0) with kind := .array 19 .int, interfaces := #[14, 2], accessFlags := 1041 }

def heap : Heap := #[{ cls := 7, slots := #[.long 0, .int 1, .null, .int 0, .null, .int 0, .int 0], vm := .statics 7 },
  { cls := 12, slots := #[.null, .null, .null], vm := .statics 12 }]
def classes : Array Class := #[k0, k1, k2, k3, k4, k5, k6, k7, k8, k9, k10, k11, k12, k13, k14, k15, k16, k17, k18, k19, k20]
def interned : List (Array UInt16 × Addr) := []
def slotsUsed : Nat := 10
def theMethod : MethodId := ⟨1, 2⟩
def args0 : Array Value := #[.int 5, .int 5, .int 5, .int 5, .int 5]
def aboutOver (below : List Frame) : State where
  vm := { classes := classes, interned := interned.toArray }
  heap := heap
  slotsUsed := slotsUsed
  threads := #[{ frames := .invoking theMethod args0 :: below }]
def below0 : List Frame := [.native { method := ⟨0, 0⟩, args := #[] }]
def about1 : State := aboutOver below0
def p0 : Program := .bare "" "" ""
def e0 : Env := launch0.env 0 0 0
theorem w_frames : about1.frames = Frame.invoking theMethod args0 :: below0 := rfl
set_option maxRecDepth 65536 in
theorem w_args : argsFit about1.vm theMethod args0 = true := by decide +kernel
set_option maxRecDepth 65536 in
theorem w_heap : heapFits about1 = true := by decide +kernel
set_option maxRecDepth 65536 in
theorem w_runnable : about1.curStatus? = some .runnable := by decide +kernel
set_option maxRecDepth 65536 in
theorem w_alone : about1.alone = true := by decide +kernel
set_option maxRecDepth 65536 in
theorem w_named : about1.methodNamed? x = some theMethod := by decide +kernel
set_option maxRecDepth 65536 in
theorem w_hears : about1.hears theMethod below0 = true := by decide +kernel
set_option maxRecDepth 65536 in
theorem w_ripe : about1.ripe theMethod args0 below0 = true := by decide +kernel
theorem w_running : about1.status = .running := rfl
set_option maxRecDepth 65536 in
theorem w_room : about1.hasRoom e0.platform room_1 = true :=
  launch0.hasRoom_least _ room_1 (by decide +kernel) (by decide +kernel) (by decide +kernel) (by decide +kernel) (by decide +kernel) (by decide +kernel)
theorem allAtoms_all (ts : List Jvm.Cond) (a : Array Jvm.Value) (st : Jvm.State) : (allAtoms ts).before a st = ts.all (fun c => c.before a st) := by
  induction ts with
  | nil => rfl
  | cons c t ih =>
    show (Jvm.Cond.and c (allAtoms t)).before a st = _
    rw [Jvm.Cond.before_and, ih, List.all_cons]
def words1 : List Jvm.Cond := Jvm.Cond.code x code maxLocals ret :: tables_1
/-- a 'code' word, met by the world's own term for the bytes: nothing is compared byte by byte -/
theorem code_word {y : MethodName} {bytes : ByteArray} {mx : Nat} {rt : Option FieldType} {a : Array Value} {s : State} {m : MethodId} {meth : Method} {c : Code} (h1 : s.methodNamed? y = some m) (h2 : s.vm.method? m = some meth) (h3 : meth.code = some c) (h4 : c.code = bytes)
    (h5 : (c.maxLocals == mx && c.exceptionTable.isEmpty && decide (c.maxStack ≤ mostOperands) && decide (meth.sig.returnType = rt) && !meth.locks && decide (parseMethodDescriptor y.desc = some meth.sig)) = true) : (Jvm.Cond.code y bytes mx rt).before a s = true := by
  simp only [Bool.and_eq_true, beq_iff_eq, Bool.not_eq_true', decide_eq_true_eq] at h5
  obtain ⟨⟨⟨⟨⟨g1, g2⟩, g3⟩, g4⟩, g5⟩, g6⟩ := h5
  simp [Cond.before, Cond.holds, Cond.value, h1, h2, h3, h4, g1, g2, g3, g4, g5, g6]
def isCode : Jvm.Cond → Bool
  | .code _ _ _ _ => true
  | _ => false
theorem all_split {L : List Jvm.Cond} {P : Jvm.Cond → Bool} (h1 : L.all (fun c => isCode c || P c) = true) (h2 : ∀ c ∈ L.filter isCode, P c = true) : L.all P = true := by
  refine List.all_eq_true.mpr fun c hc => ?_
  have h := List.all_eq_true.mp h1 c hc
  rcases Bool.eq_false_or_eq_true (isCode c) with hi | hi
  · exact h2 c (List.mem_filter.mpr ⟨hc, hi⟩)
  · simpa [hi] using h
set_option maxRecDepth 65536 in
theorem w_c0 : (Jvm.Cond.code x code maxLocals ret).before args0 about1 = true := code_word (m := ⟨1, 2⟩) (meth := k1m2) (c := k1c2) (by decide +kernel) rfl rfl rfl (by decide +kernel)
set_option maxRecDepth 65536 in
theorem w_c1 : (Jvm.Cond.code ({ cls := "com/example/corbel/corbel/OptionTakesValuePinLaw", name := "drawn", desc := "(II)Ljava/lang/String;" } : Jvm.MethodName) method_2_code (3 : Nat) (Option.some (Jvm.ClassFile.FieldType.object "java/lang/String"))).before args0 about1 = true := code_word (m := ⟨1, 1⟩) (meth := k1m1) (c := k1c1) (by decide +kernel) rfl rfl rfl (by decide +kernel)
set_option maxRecDepth 65536 in
theorem w_c2 : (Jvm.Cond.code ({ cls := "java/lang/String", name := "<init>", desc := "([C)V" } : Jvm.MethodName) jdk_42_method_3_code (2 : Nat) (Option.none : Option Jvm.ClassFile.FieldType)).before args0 about1 = true := code_word (m := ⟨7, 1⟩) (meth := k7m1) (c := k7c1) (by decide +kernel) rfl rfl rfl (by decide +kernel)
set_option maxRecDepth 65536 in
theorem w_c3 : (Jvm.Cond.code ({ cls := "java/lang/String", name := "<init>", desc := "([CIILjava/lang/Void;)V" } : Jvm.MethodName) jdk_42_method_149_code (6 : Nat) (Option.none : Option Jvm.ClassFile.FieldType)).before args0 about1 = true := code_word (m := ⟨7, 2⟩) (meth := k7m2) (c := k7c2) (by decide +kernel) rfl rfl rfl (by decide +kernel)
set_option maxRecDepth 65536 in
theorem w_c4 : (Jvm.Cond.code ({ cls := "java/lang/Object", name := "<init>", desc := "()V" } : Jvm.MethodName) object_method_1_code (1 : Nat) (Option.none : Option Jvm.ClassFile.FieldType)).before args0 about1 = true := code_word (m := ⟨0, 0⟩) (meth := k0m0) (c := k0c0) (by decide +kernel) rfl rfl rfl (by decide +kernel)
set_option maxRecDepth 65536 in
theorem w_c5 : (Jvm.Cond.code ({ cls := "java/lang/StringUTF16", name := "compress", desc := "([CII)[B" } : Jvm.MethodName) jdk_52_method_16_code (6 : Nat) (Option.some (Jvm.ClassFile.FieldType.array Jvm.ClassFile.FieldType.byte))).before args0 about1 = true := code_word (m := ⟨8, 2⟩) (meth := k8m2) (c := k8c2) (by decide +kernel) rfl rfl rfl (by decide +kernel)
set_option maxRecDepth 65536 in
theorem w_c6 : (Jvm.Cond.code ({ cls := "java/lang/StringUTF16", name := "compress", desc := "([CI[BII)I" } : Jvm.MethodName) jdk_52_method_21_code (7 : Nat) (Option.some Jvm.ClassFile.FieldType.int)).before args0 about1 = true := code_word (m := ⟨8, 3⟩) (meth := k8m3) (c := k8c3) (by decide +kernel) rfl rfl rfl (by decide +kernel)
set_option maxRecDepth 65536 in
theorem w_c7 : (Jvm.Cond.code ({ cls := "java/lang/StringUTF16", name := "coderFromArrayLen", desc := "([BI)B" } : Jvm.MethodName) jdk_52_method_15_code (2 : Nat) (Option.some Jvm.ClassFile.FieldType.byte)).before args0 about1 = true := code_word (m := ⟨8, 1⟩) (meth := k8m1) (c := k8c1) (by decide +kernel) rfl rfl rfl (by decide +kernel)
set_option maxRecDepth 65536 in
theorem w_c8 : (Jvm.Cond.code ({ cls := "com/example/corbel/corbel/Options$Option", name := "<init>", desc := "(Ljava/lang/String;Ljava/lang/String;Ljava/lang/String;Ljava/lang/String;Z)V" } : Jvm.MethodName) prog_50_method_2_code (6 : Nat) (Option.none : Option Jvm.ClassFile.FieldType)).before args0 about1 = true := code_word (m := ⟨10, 0⟩) (meth := k10m0) (c := k10c0) (by decide +kernel) rfl rfl rfl (by decide +kernel)
set_option maxRecDepth 65536 in
theorem w_c9 : (Jvm.Cond.code ({ cls := "java/lang/Record", name := "<init>", desc := "()V" } : Jvm.MethodName) jdk_30_method_1_code (1 : Nat) (Option.none : Option Jvm.ClassFile.FieldType)).before args0 about1 = true := code_word (m := ⟨9, 0⟩) (meth := k9m0) (c := k9c0) (by decide +kernel) rfl rfl rfl (by decide +kernel)
set_option maxRecDepth 65536 in
theorem w_c10 : (Jvm.Cond.code ({ cls := "com/example/corbel/corbel/Options$Option", name := "takesValue", desc := "()Z" } : Jvm.MethodName) prog_50_method_6_code (1 : Nat) (Option.some Jvm.ClassFile.FieldType.boolean)).before args0 about1 = true := code_word (m := ⟨10, 4⟩) (meth := k10m4) (c := k10c4) (by decide +kernel) rfl rfl rfl (by decide +kernel)
set_option maxRecDepth 65536 in
theorem w_c11 : (Jvm.Cond.code ({ cls := "com/example/corbel/corbel/Options$Option", name := "flag", desc := "(Ljava/lang/String;Ljava/lang/String;)Lcom/example/corbel/corbel/Options$Option;" } : Jvm.MethodName) prog_50_method_5_code (2 : Nat) (Option.some (Jvm.ClassFile.FieldType.object "com/example/corbel/corbel/Options$Option"))).before args0 about1 = true := code_word (m := ⟨10, 3⟩) (meth := k10m3) (c := k10c3) (by decide +kernel) rfl rfl rfl (by decide +kernel)
set_option maxRecDepth 65536 in
theorem w_c12 : (Jvm.Cond.code ({ cls := "com/example/corbel/corbel/Options$Option", name := "asOptional", desc := "()Lcom/example/corbel/corbel/Options$Option;" } : Jvm.MethodName) prog_50_method_4_code (1 : Nat) (Option.some (Jvm.ClassFile.FieldType.object "com/example/corbel/corbel/Options$Option"))).before args0 about1 = true := code_word (m := ⟨10, 2⟩) (meth := k10m2) (c := k10c2) (by decide +kernel) rfl rfl rfl (by decide +kernel)
set_option maxRecDepth 65536 in
theorem w_c13 : (Jvm.Cond.code ({ cls := "com/example/corbel/corbel/Options$Option", name := "optional", desc := "(Ljava/lang/String;Ljava/lang/String;Ljava/lang/String;)Lcom/example/corbel/corbel/Options$Option;" } : Jvm.MethodName) prog_50_method_3_code (3 : Nat) (Option.some (Jvm.ClassFile.FieldType.object "com/example/corbel/corbel/Options$Option"))).before args0 about1 = true := code_word (m := ⟨10, 1⟩) (meth := k10m1) (c := k10c1) (by decide +kernel) rfl rfl rfl (by decide +kernel)
def codes1 : List Jvm.Cond := [Jvm.Cond.code x code maxLocals ret, Jvm.Cond.code ({ cls := "com/example/corbel/corbel/OptionTakesValuePinLaw", name := "drawn", desc := "(II)Ljava/lang/String;" } : Jvm.MethodName) method_2_code (3 : Nat) (Option.some (Jvm.ClassFile.FieldType.object "java/lang/String")), Jvm.Cond.code ({ cls := "java/lang/String", name := "<init>", desc := "([C)V" } : Jvm.MethodName) jdk_42_method_3_code (2 : Nat) (Option.none : Option Jvm.ClassFile.FieldType), Jvm.Cond.code ({ cls := "java/lang/String", name := "<init>", desc := "([CIILjava/lang/Void;)V" } : Jvm.MethodName) jdk_42_method_149_code (6 : Nat) (Option.none : Option Jvm.ClassFile.FieldType), Jvm.Cond.code ({ cls := "java/lang/Object", name := "<init>", desc := "()V" } : Jvm.MethodName) object_method_1_code (1 : Nat) (Option.none : Option Jvm.ClassFile.FieldType), Jvm.Cond.code ({ cls := "java/lang/StringUTF16", name := "compress", desc := "([CII)[B" } : Jvm.MethodName) jdk_52_method_16_code (6 : Nat) (Option.some (Jvm.ClassFile.FieldType.array Jvm.ClassFile.FieldType.byte)), Jvm.Cond.code ({ cls := "java/lang/StringUTF16", name := "compress", desc := "([CI[BII)I" } : Jvm.MethodName) jdk_52_method_21_code (7 : Nat) (Option.some Jvm.ClassFile.FieldType.int), Jvm.Cond.code ({ cls := "java/lang/StringUTF16", name := "coderFromArrayLen", desc := "([BI)B" } : Jvm.MethodName) jdk_52_method_15_code (2 : Nat) (Option.some Jvm.ClassFile.FieldType.byte), Jvm.Cond.code ({ cls := "com/example/corbel/corbel/Options$Option", name := "<init>", desc := "(Ljava/lang/String;Ljava/lang/String;Ljava/lang/String;Ljava/lang/String;Z)V" } : Jvm.MethodName) prog_50_method_2_code (6 : Nat) (Option.none : Option Jvm.ClassFile.FieldType), Jvm.Cond.code ({ cls := "java/lang/Record", name := "<init>", desc := "()V" } : Jvm.MethodName) jdk_30_method_1_code (1 : Nat) (Option.none : Option Jvm.ClassFile.FieldType), Jvm.Cond.code ({ cls := "com/example/corbel/corbel/Options$Option", name := "takesValue", desc := "()Z" } : Jvm.MethodName) prog_50_method_6_code (1 : Nat) (Option.some Jvm.ClassFile.FieldType.boolean), Jvm.Cond.code ({ cls := "com/example/corbel/corbel/Options$Option", name := "flag", desc := "(Ljava/lang/String;Ljava/lang/String;)Lcom/example/corbel/corbel/Options$Option;" } : Jvm.MethodName) prog_50_method_5_code (2 : Nat) (Option.some (Jvm.ClassFile.FieldType.object "com/example/corbel/corbel/Options$Option")), Jvm.Cond.code ({ cls := "com/example/corbel/corbel/Options$Option", name := "asOptional", desc := "()Lcom/example/corbel/corbel/Options$Option;" } : Jvm.MethodName) prog_50_method_4_code (1 : Nat) (Option.some (Jvm.ClassFile.FieldType.object "com/example/corbel/corbel/Options$Option")), Jvm.Cond.code ({ cls := "com/example/corbel/corbel/Options$Option", name := "optional", desc := "(Ljava/lang/String;Ljava/lang/String;Ljava/lang/String;)Lcom/example/corbel/corbel/Options$Option;" } : Jvm.MethodName) prog_50_method_3_code (3 : Nat) (Option.some (Jvm.ClassFile.FieldType.object "com/example/corbel/corbel/Options$Option"))]
set_option maxRecDepth 65536 in
theorem codes_eq : words1.filter isCode = codes1 := rfl
theorem w_codes : ∀ c ∈ words1.filter isCode, c.before args0 about1 = true := by
  rw [codes_eq]
  intro c hc
  simp only [codes1, List.mem_cons, List.not_mem_nil, or_false] at hc
  rcases hc with rfl | rfl | rfl | rfl | rfl | rfl | rfl | rfl | rfl | rfl | rfl | rfl | rfl | rfl
  · exact w_c0
  · exact w_c1
  · exact w_c2
  · exact w_c3
  · exact w_c4
  · exact w_c5
  · exact w_c6
  · exact w_c7
  · exact w_c8
  · exact w_c9
  · exact w_c10
  · exact w_c11
  · exact w_c12
  · exact w_c13
set_option maxRecDepth 65536 in
theorem w_t1 : (words1.take 24).all (fun c => isCode c || c.before args0 about1) = true := by decide +kernel
set_option maxRecDepth 65536 in
theorem w_t2 : ((words1.drop 24).take 24).all (fun c => isCode c || c.before args0 about1) = true := by decide +kernel
set_option maxRecDepth 65536 in
theorem w_t3 : (((words1.drop 24).drop 24).take 24).all (fun c => isCode c || c.before args0 about1) = true := by decide +kernel
set_option maxRecDepth 65536 in
theorem w_t4 : (((words1.drop 24).drop 24).drop 24).all (fun c => isCode c || c.before args0 about1) = true := by decide +kernel
theorem w_tables : (allAtoms (Jvm.Cond.code x code maxLocals ret :: tables_1)).before args0 about1 = true := by
  rw [allAtoms_all]
  show words1.all (fun c => c.before args0 about1) = true
  refine all_split ?_ w_codes
  rw [← List.take_append_drop 24 words1, List.all_append, w_t1, ← List.take_append_drop 24 (words1.drop 24), List.all_append, w_t2, ← List.take_append_drop 24 ((words1.drop 24).drop 24), List.all_append, w_t3, w_t4]
  rfl
set_option maxRecDepth 65536 in
theorem w_rest : rest_1_c.before args0 about1 = true := by decide +kernel
set_option maxRecDepth 65536 in
theorem w_case : (Jvm.Cond.and given_1 narrow_1).before args0 about1 = true := by decide +kernel
set_option maxRecDepth 65536 in
theorem w_consts : constsHeld consts_1 about1 := Jvm.Lit.constsHeldB_iff.mp (by decide +kernel)
theorem w_applies : (headSpec (Jvm.Cond.code x code maxLocals ret :: tables_1) room_1).applies x e0.platform about1 = true :=
  (Spec.applies_iff w_frames).mpr ⟨w_running, w_runnable, w_alone, w_named, w_hears, w_ripe, w_room, w_tables⟩
theorem atStart : AtStart classFile x code maxLocals ret World_1 tables_1 room_1 Calls_1 rest_1 Pre_1 launch0 p0 e0 about1 theMethod args0 below0 :=
  ⟨lists_1, trivial, launch0.admits_env _ _ _, launch0.least_env, fairChoices_fair.cas, fairChoices_fair.clock, w_frames, w_args, w_heap, w_applies, ⟨w_consts, trivial⟩, w_rest, w_case⟩
end start1
theorem witness_1 : WitnessClaimed_1 := ⟨start1.p0, start1.e0, start1.about1, start1.theMethod, start1.args0, start1.below0, start1.atStart⟩
end Jvm.Pilot.@@N@@
