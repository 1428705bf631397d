import JvmDerived
import JvmDerived.Pilot.@@N@@Statement
import JvmDerived.Pilot.@@N@@Code
set_option linter.unusedVariables false
set_option linter.unusedSimpArgs false
/- laws to paste: Road.backV (cut by pick.py; bodies as the Statement names them) -/
namespace Jvm.Pilot.@@N@@
namespace StrChars
open Jvm Sem ClassFile Op Lib Jvm.Stand Jvm.Free.XT Jvm.Free.ALB Jvm.Free.JM Jvm.Free
open Jvm.Lib.Cold (StaticIs)
/-- a char array whose places are chars -/
def Ch (a : Addr) (A : Cell) (U : State) : Prop := Arr .char a A U ∧ Typed .char A
theorem Ch.mv {a : Addr} {A : Cell} {U U' : State} (h : Ch a A U) (hal : U.vm.Alike U'.vm) (hh : U'.heap = U.heap) : Ch a A U' := ⟨h.1.mv hal hh, h.2⟩
theorem Ch.keep {a : Addr} {A : Cell} {U U' : State} (h : Ch a A U) (hal : U.vm.Alike U'.vm) (hk : U'.heap[a]? = some A) : Ch a A U' := ⟨h.1.keep hal hk, h.2⟩
/-- what place i of a char[]'s cell holds -/
def cv (A : Cell) (i : Nat) : Int32 := match A.slots[i]? with | some (.int x) => x | _ => 0
theorem Ch.get {a : Addr} {A : Cell} {U : State} (h : Ch a A U) {i : Nat} (hi : i < A.slots.size) : A.slots[i]? = some (.int (cv A i)) := by
  have e := Array.getElem?_eq_getElem hi
  have f := h.2 i _ e
  unfold cv; rw [e]
  generalize A.slots[i] = v at f
  cases v <;> simp [fits] at f ⊢
/-- the byte that i2b leaves of a char -/
def lo8 (x : Int32) : Int32 := x.toInt8.toInt32
theorem fits_lo8 (y : Int32) : fits .byte (.int (lo8 y)) = true := by
  have h1 := y.toInt8.le_toInt
  have h2 := y.toInt8.toInt_lt
  simp only [lo8, fits, Bool.and_eq_true, decide_eq_true_eq, Int32.le_iff_toInt_le, Int8.toInt_toInt32, show (-128 : Int32).toInt = -128 from by decide, show (127 : Int32).toInt = 127 from by decide]
  omega
/-- A' is A but that each place j of lo .. hi - 1 holds f j -/
def Laid (A A' : Cell) (lo hi : Nat) (f : Nat → Value) : Prop := A'.cls = A.cls ∧ A'.vm = A.vm ∧ A'.slots.size = A.slots.size ∧ ∀ i, A'.slots[i]? = if lo ≤ i ∧ i < hi then some (f i) else A.slots[i]?
theorem Laid.zero (A : Cell) (lo : Nat) (f : Nat → Value) : Laid A A lo (lo + 0) f := ⟨rfl, rfl, rfl, fun i => by rw [if_neg (by omega)]⟩
theorem Laid.step {A Ak : Cell} {lo k : Nat} {f : Nat → Value} {v : Value} (h : Laid A Ak lo k f) (hlo : lo ≤ k) (hk : k < Ak.slots.size) (hv : v = f k) : Laid A (Ak.setSlot k v) lo (k + 1) f := by
  refine ⟨h.1, h.2.1, by simpa [Cell.setSlot] using h.2.2.1, fun i => ?_⟩
  by_cases e : k = i
  · subst e; rw [Cell.slots_setSlot_self v hk, if_pos (by omega), hv]
  · rw [Cell.slots_setSlot_ne v e, h.2.2.2 i]
    by_cases q : lo ≤ i ∧ i < k
    · rw [if_pos q, if_pos (by omega)]
    · rw [if_neg q, if_neg (by omega)]
def U16 : String := "java/lang/StringUTF16"
namespace Cmp5
def yN : MethodName := ⟨"java/lang/StringUTF16", "compress", "([CI[BII)I"⟩
abbrev yB : ByteArray := jdk_52_method_21_code
theorem d0 : decode yB 0 = .ok (.iconst 0, 1) := by decide +kernel
theorem d1 : decode yB 1 = .ok (.istore 5, 2) := by decide +kernel
theorem d3 : decode yB 3 = .ok (.iload 5, 2) := by decide +kernel
theorem d5 : decode yB 5 = .ok (.iload 4, 2) := by decide +kernel
theorem d7 : decode yB 7 = .ok (.if_icmp (.ge) 37, 3) := by decide +kernel
theorem d10 : decode yB 10 = .ok (.aload_n 0, 1) := by decide +kernel
theorem d11 : decode yB 11 = .ok (.iload_n 1, 1) := by decide +kernel
theorem d12 : decode yB 12 = .ok (.caload, 1) := by decide +kernel
theorem d13 : decode yB 13 = .ok (.istore 6, 2) := by decide +kernel
theorem d15 : decode yB 15 = .ok (.iload 6, 2) := by decide +kernel
theorem d17 : decode yB 17 = .ok (.sipush 255, 3) := by decide +kernel
theorem d20 : decode yB 20 = .ok (.if_icmp (.le) 6, 3) := by decide +kernel
theorem d26 : decode yB 26 = .ok (.aload_n 2, 1) := by decide +kernel
theorem d27 : decode yB 27 = .ok (.iload_n 3, 1) := by decide +kernel
theorem d28 : decode yB 28 = .ok (.iload 6, 2) := by decide +kernel
theorem d30 : decode yB 30 = .ok (.i2b, 1) := by decide +kernel
theorem d31 : decode yB 31 = .ok (.bastore, 1) := by decide +kernel
theorem d32 : decode yB 32 = .ok (.iinc 1 1, 3) := by decide +kernel
theorem d35 : decode yB 35 = .ok (.iinc 3 1, 3) := by decide +kernel
theorem d38 : decode yB 38 = .ok (.iinc 5 1, 3) := by decide +kernel
theorem d41 : decode yB 41 = .ok (.goto (-38), 3) := by decide +kernel
theorem d44 : decode yB 44 = .ok (.iload 4, 2) := by decide +kernel
theorem d46 : decode yB 46 = .ok (.ireturn, 1) := by decide +kernel
def site : List Cond := []
def tab : Cond := tabOf yN yB 7 (some .int) site
def P (b : Addr) (A : Cell) (d : Addr) (B : Cell) (o q len : Nat) (args : Array Value) (s : State) : Prop := args = #[.ref b, .int (Int32.ofNat o), .ref d, .int (Int32.ofNat q), .int (Int32.ofNat len)] ∧ Ch b A s ∧ Arr .byte d B s ∧ b ≠ d ∧ o + len ≤ A.slots.size ∧ q + len ≤ B.slots.size ∧ ∀ i, i < len → ¬ 255 < cv A (o + i)
def E (b : Addr) (A : Cell) (d : Addr) (B : Cell) (o q len : Nat) (r : Option Value) (s u : State) : Prop := r = some (.int (Int32.ofNat len)) ∧ ∃ B', Put d B' s u ∧ Laid B B' q (q + len) (fun j => Value.int (lo8 (cv A (o + (j - q)))))
/-- no char of the range above 255: len; the places written hold each char's low byte -/
theorem law (l : Launch) (b : Addr) (A : Cell) (d : Addr) (B : Cell) (o q len : Nat) : Law l yN 5 5 0 0 yB 7 (some .int) site (P b A d B o q len) (E b A d B o q len) (copyLocs d q len) 0 0 := by
  refine Law.of_walk (plainFor_of_name (by decide +kernel)) (by decide +kernel) (by decide +kernel) (by decide) (fun _ _ h => by rw [h.1]; rfl) (fun _ U U' hal hh h => ⟨h.1, h.2.1.mv hal hh, h.2.2.1.mv hal hh, h.2.2.2⟩) (fun r U U' V V' h1 hal h2 h => ⟨h.1, h.2.elim fun B' q => ⟨B', q.1.mv h1 h2, q.2⟩⟩) ?_
  intro p e s m args below meth c s₁ X0 hexec hbytes hml hret hlk hnm hown hh0 W hP
  obtain ⟨rfl, hA, hB, hne, l1, l2, hp⟩ := hP
  have c1 : Steps p.tables e below (s₁.setTop (entryFrame m #[.ref b, .int (Int32.ofNat o), .ref d, .int (Int32.ofNat q), .int (Int32.ofNat len)] 7)) (s₁.setTop (mkF m 0 #[.val (.ref b), .val (.int (Int32.ofNat o)), .val (.ref d), .val (.int (Int32.ofNat q)), .val (.int (Int32.ofNat len)), .unset, .unset] [])) := entry rfl
  have hA0 := hA.1.mv X0.warmed.alike hh0
  have hB0 := hB.mv X0.warmed.alike hh0
  have a31 := hA.1.2.2.2
  have c2 : Steps p.tables e below (s₁.setTop (entryFrame m #[.ref b, .int (Int32.ofNat o), .ref d, .int (Int32.ofNat q), .int (Int32.ofNat len)] 7)) (s₁.setTop (mkF m 3 #[.val (.ref b), .val (.int (Int32.ofNat o)), .val (.ref d), .val (.int (Int32.ofNat q)), .val (.int (Int32.ofNat len)), .val (.int 0), .unset] [])) := c1.trans (by
    refine iconstV X0.here hexec rfl 0 (hb hbytes d0) (by decide) ?_
    refine XS.istore X0.here hexec rfl (hb hbytes d1) rfl rfl ?_
    exact Steps.refl _)
  have loop : ∀ (r i : Nat), i + r = len → ∀ (z : Slot), (z = .unset ∨ ∃ w, z = .val w ∧ w.category = 1) → ∀ (Tl : State) (Bk : Cell), Stand p l e { frames := 0, locals := 0, cells := 0, slots := 0 } s m #[.ref b, .int (Int32.ofNat o), .ref d, .int (Int32.ofNat q), .int (Int32.ofNat len)] below meth c Tl ([] ++ copyLocs d q i) 0 0 → Put d Bk s₁ Tl → Laid B Bk q (q + i) (fun j => Value.int (lo8 (cv A (o + (j - q))))) →
      Steps p.tables e below (s₁.setTop (entryFrame m #[.ref b, .int (Int32.ofNat o), .ref d, .int (Int32.ofNat q), .int (Int32.ofNat len)] 7)) (Tl.setTop (mkF m 3 #[.val (.ref b), .val (.int (Int32.ofNat (o + i))), .val (.ref d), .val (.int (Int32.ofNat (q + i))), .val (.int (Int32.ofNat len)), .val (.int (Int32.ofNat i)), z] [])) → ∃ (T' : State) (B' : Cell) (z' : Slot), Stand p l e { frames := 0, locals := 0, cells := 0, slots := 0 } s m #[.ref b, .int (Int32.ofNat o), .ref d, .int (Int32.ofNat q), .int (Int32.ofNat len)] below meth c T' ([] ++ copyLocs d q len) 0 0 ∧ Put d B' s₁ T' ∧ Laid B B' q (q + len) (fun j => Value.int (lo8 (cv A (o + (j - q))))) ∧
      Steps p.tables e below (s₁.setTop (entryFrame m #[.ref b, .int (Int32.ofNat o), .ref d, .int (Int32.ofNat q), .int (Int32.ofNat len)] 7)) (T'.setTop (mkF m 3 #[.val (.ref b), .val (.int (Int32.ofNat (o + len))), .val (.ref d), .val (.int (Int32.ofNat (q + len))), .val (.int (Int32.ofNat len)), .val (.int (Int32.ofNat len)), z'] [])) := by
    intro r
    induction r with
    | zero =>
      intro i hi z hz Tl Bk Xl pl fl cl
      have hil : i = len := by omega
      rw [hil] at Xl fl cl
      exact ⟨Tl, Bk, z, Xl, pl, fl, cl⟩
    | succ r ih =>
      intro i hi z hz Tl Bk Xl pl fl cl
      have all := X0.warmed.alike.symm.trans Xl.warmed.alike
      have hAl := hA0.keep all (pl.other hne hA0.1)
      have hBk := hB0.like all pl.1 fl.1 fl.2.1 fl.2.2.1
      have hlt : q + i < Bk.slots.size := by rw [fl.2.2.1]; omega
      have c3 : Steps p.tables e below (s₁.setTop (entryFrame m #[.ref b, .int (Int32.ofNat o), .ref d, .int (Int32.ofNat q), .int (Int32.ofNat len)] 7)) (Tl.setTop (mkF m 12 #[.val (.ref b), .val (.int (Int32.ofNat (o + i))), .val (.ref d), .val (.int (Int32.ofNat (q + i))), .val (.int (Int32.ofNat len)), .val (.int (Int32.ofNat i)), z] [.int (Int32.ofNat (o + i)), .ref b])) := cl.trans (by
        refine XS.iload Xl.here hexec rfl (hb hbytes d3) rfl ?_
        refine XS.iload Xl.here hexec rfl (hb hbytes d5) rfl ?_
        refine XS.icmpNo Xl.here hexec rfl (hb hbytes d7) rfl (ii_ge_f (lt32 (by omega) (by omega))) ?_
        refine XS.aloadN Xl.here hexec rfl (hb hbytes d10) rfl rfl ?_
        refine XS.iloadN Xl.here hexec rfl (hb hbytes d11) rfl ?_
        exact Steps.refl _)
      have c4 : Steps p.tables e below (s₁.setTop (entryFrame m #[.ref b, .int (Int32.ofNat o), .ref d, .int (Int32.ofNat q), .int (Int32.ofNat len)] 7)) (Tl.setTop (mkF m 13 #[.val (.ref b), .val (.int (Int32.ofNat (o + i))), .val (.ref d), .val (.int (Int32.ofNat (q + i))), .val (.int (Int32.ofNat len)), .val (.int (Int32.ofNat i)), z] [.int (cv A (o + i))])) := c3.trans (by
        refine Xl.aget hexec hAl rfl (hA.get (i := o + i) (by omega)) rfl rfl (hb hbytes d12) ?_
        exact Steps.refl _)
      have c5 : Steps p.tables e below (s₁.setTop (entryFrame m #[.ref b, .int (Int32.ofNat o), .ref d, .int (Int32.ofNat q), .int (Int32.ofNat len)] 7)) (Tl.setTop (mkF m 15 #[.val (.ref b), .val (.int (Int32.ofNat (o + i))), .val (.ref d), .val (.int (Int32.ofNat (q + i))), .val (.int (Int32.ofNat len)), .val (.int (Int32.ofNat i)), .val (.int (cv A (o + i)))] [])) := c4.trans (by
        refine XS.istoreS Xl.here hexec rfl (hb hbytes d13) rfl rfl hz ?_
        exact Steps.refl _)
      have c6 : Steps p.tables e below (s₁.setTop (entryFrame m #[.ref b, .int (Int32.ofNat o), .ref d, .int (Int32.ofNat q), .int (Int32.ofNat len)] 7)) (Tl.setTop (mkF m 31 #[.val (.ref b), .val (.int (Int32.ofNat (o + i))), .val (.ref d), .val (.int (Int32.ofNat (q + i))), .val (.int (Int32.ofNat len)), .val (.int (Int32.ofNat i)), .val (.int (cv A (o + i)))] [.int (lo8 (cv A (o + i))), .int (Int32.ofNat (q + i)), .ref d])) := c5.trans (by
        refine XS.iload Xl.here hexec rfl (hb hbytes d15) rfl ?_
        refine sipushV Xl.here hexec rfl 255 (hb hbytes d17) (by decide) ?_
        refine XS.icmpYes Xl.here hexec rfl (pc0 := 20) rfl (hb hbytes d20) rfl (ii_le_t (hp i (by omega))) (by decide) rfl ?_
        refine XS.aloadN Xl.here hexec rfl (hb hbytes d26) rfl rfl ?_
        refine XS.iloadN Xl.here hexec rfl (hb hbytes d27) rfl ?_
        refine XS.iload Xl.here hexec rfl (hb hbytes d28) rfl ?_
        refine i2b Xl.here hexec rfl (hb hbytes d30) rfl ?_
        exact Steps.refl _)
      obtain ⟨T7, X7, p7, st7⟩ := Xl.aput hexec hBk rfl hlt rfl (fits_lo8 (cv A (o + i))) (g := (mkF m 31 #[.val (.ref b), .val (.int (Int32.ofNat (o + i))), .val (.ref d), .val (.int (Int32.ofNat (q + i))), .val (.int (Int32.ofNat len)), .val (.int (Int32.ofNat i)), .val (.int (cv A (o + i)))] [.int (lo8 (cv A (o + i))), .int (Int32.ofNat (q + i)), .ref d])) rfl (rest := []) rfl (hb hbytes d31)
      have c8 : Steps p.tables e below (s₁.setTop (entryFrame m #[.ref b, .int (Int32.ofNat o), .ref d, .int (Int32.ofNat q), .int (Int32.ofNat len)] 7)) (T7.setTop (mkF m 32 #[.val (.ref b), .val (.int (Int32.ofNat (o + i))), .val (.ref d), .val (.int (Int32.ofNat (q + i))), .val (.int (Int32.ofNat len)), .val (.int (Int32.ofNat i)), .val (.int (cv A (o + i)))] [])) := c6.trans (st7 _ (Steps.refl _))
      have c9 : Steps p.tables e below (s₁.setTop (entryFrame m #[.ref b, .int (Int32.ofNat o), .ref d, .int (Int32.ofNat q), .int (Int32.ofNat len)] 7)) (T7.setTop (mkF m 3 #[.val (.ref b), .val (.int (Int32.ofNat (o + i) + 1)), .val (.ref d), .val (.int (Int32.ofNat (q + i) + 1)), .val (.int (Int32.ofNat len)), .val (.int (Int32.ofNat i + 1)), .val (.int (cv A (o + i)))] [])) := c8.trans (by
        refine iincV X7.here hexec rfl 1 (hb hbytes d32) (by decide) rfl rfl ?_
        refine iincV X7.here hexec rfl 1 (hb hbytes d35) (by decide) rfl rfl ?_
        refine iincV X7.here hexec rfl 1 (hb hbytes d38) (by decide) rfl rfl ?_
        refine XS.goto X7.here hexec rfl (pc0 := 41) rfl (hb hbytes d41) (by decide) rfl ?_
        exact Steps.refl _)
      have c10 : Steps p.tables e below (s₁.setTop (entryFrame m #[.ref b, .int (Int32.ofNat o), .ref d, .int (Int32.ofNat q), .int (Int32.ofNat len)] 7)) (T7.setTop (mkF m 3 #[.val (.ref b), .val (.int (Int32.ofNat (o + (i + 1)))), .val (.ref d), .val (.int (Int32.ofNat (q + (i + 1)))), .val (.int (Int32.ofNat len)), .val (.int (Int32.ofNat (i + 1))), .val (.int (cv A (o + i)))] [])) := by
        have := c9
        rw [succ32, succ32, succ32] at this
        exact this
      exact ih (i + 1) (by omega) _ (Or.inr ⟨_, rfl, rfl⟩) T7 _ (by rw [copyLocs_step, ← List.append_assoc]; exact X7) (pl.trans p7) (fl.step (by omega) hlt (by simp)) c10
  obtain ⟨T9, B9, z9, X9, p9, f9, g9⟩ := loop len 0 (by omega) .unset (Or.inl rfl) s₁ B (by simpa [copyLocs] using X0) ⟨hB0.1, fun _ _ => rfl, rfl⟩ (Laid.zero _ _ _) c2
  have c11 : Steps p.tables e below (s₁.setTop (entryFrame m #[.ref b, .int (Int32.ofNat o), .ref d, .int (Int32.ofNat q), .int (Int32.ofNat len)] 7)) (T9.setTop (mkF m 46 #[.val (.ref b), .val (.int (Int32.ofNat (o + len))), .val (.ref d), .val (.int (Int32.ofNat (q + len))), .val (.int (Int32.ofNat len)), .val (.int (Int32.ofNat len)), z9] [.int (Int32.ofNat len)])) := g9.trans (by
    refine XS.iload X9.here hexec rfl (hb hbytes d3) rfl ?_
    refine XS.iload X9.here hexec rfl (hb hbytes d5) rfl ?_
    refine XS.icmpYes X9.here hexec rfl (pc0 := 7) rfl (hb hbytes d7) rfl (ii_ge_t (nlt32 (by omega) (Nat.le_refl _))) (by decide) rfl ?_
    refine XS.iload X9.here hexec rfl (hb hbytes d44) rfl ?_
    exact Steps.refl _)
  exact ⟨T9, some (.int (Int32.ofNat len)), _, _, _, X9, by simp, rfl, rfl, (fun h => by cases h), ⟨rfl, B9, p9.from hh0, f9⟩, fun fs hl => c11.trans (X9.ireturnOut hexec hret rfl (Or.inl rfl) (hb hbytes d46) hl)⟩
end Cmp5
namespace Cmp3
def yN : MethodName := ⟨"java/lang/StringUTF16", "compress", "([CII)[B"⟩
abbrev yB : ByteArray := jdk_52_method_16_code
theorem d0 : decode yB 0 = .ok (.iload_n 2, 1) := by decide +kernel
theorem d1 : decode yB 1 = .ok (.newarray .byte, 2) := by decide +kernel
theorem d3 : decode yB 3 = .ok (.astore_n 3, 1) := by decide +kernel
theorem d4 : decode yB 4 = .ok (.aload_n 0, 1) := by decide +kernel
theorem d5 : decode yB 5 = .ok (.iload_n 1, 1) := by decide +kernel
theorem d6 : decode yB 6 = .ok (.aload_n 3, 1) := by decide +kernel
theorem d7 : decode yB 7 = .ok (.iconst 0, 1) := by decide +kernel
theorem d8 : decode yB 8 = .ok (.iload_n 2, 1) := by decide +kernel
theorem d9 : decode yB 9 = .ok (.invokestatic 115, 3) := by decide +kernel
theorem d12 : decode yB 12 = .ok (.istore 4, 2) := by decide +kernel
theorem d14 : decode yB 14 = .ok (.iload 4, 2) := by decide +kernel
theorem d16 : decode yB 16 = .ok (.iload_n 2, 1) := by decide +kernel
theorem d17 : decode yB 17 = .ok (.if_icmp (.eq) 40, 3) := by decide +kernel
theorem d57 : decode yB 57 = .ok (.aload_n 3, 1) := by decide +kernel
theorem d58 : decode yB 58 = .ok (.areturn, 1) := by decide +kernel
def site : List Cond := [.arrayClass .byte, Cmp5.tab] ++ staticW U16 115 Cmp5.yN
def tab : Cond := tabOf yN yB 6 (some (.array .byte)) site
def P (b : Addr) (A : Cell) (o len : Nat) (args : Array Value) (s : State) : Prop := args = #[.ref b, .int (Int32.ofNat o), .int (Int32.ofNat len)] ∧ Ch b A s ∧ o + len ≤ A.slots.size ∧ len ≤ 536870912 ∧ ∀ i, i < len → ¬ 255 < cv A (o + i)
def E (b : Addr) (A : Cell) (o len : Nat) (r : Option Value) (s u : State) : Prop := NewArr .byte "[B" len (fun j => .int (lo8 (cv A (o + j)))) r s u ∧ u.heap.size = s.heap.size + 1
/-- no char of the range above 255: a new byte[] of their low bytes -/
theorem law (l : Launch) (b : Addr) (A : Cell) (o len : Nat) : Law l yN 3 3 1 18 yB 6 (some (.array .byte)) site (P b A o len) (E b A o len) [] 1 len := by
  refine Law.of_walk (plainFor_of_name (by decide +kernel)) (by decide +kernel) (by decide +kernel) (by decide) (fun _ _ h => by rw [h.1]; rfl) (fun _ U U' hal hh h => ⟨h.1, h.2.1.mv hal hh, h.2.2⟩) (fun r U U' V V' h1 hal h2 h => ⟨NewArr.mv r U U' V V' h1 hal h2 h.1, by rw [h1, h2]; exact h.2⟩) ?_
  intro p e s m args below meth c s₁ X0 hexec hbytes hml hret hlk hnm hown hh0 W hP
  obtain ⟨rfl, hA, l1, l2, hp⟩ := hP
  have a31 := hA.1.2.2.2
  have c1 : Steps p.tables e below (s₁.setTop (entryFrame m #[.ref b, .int (Int32.ofNat o), .int (Int32.ofNat len)] 6)) (s₁.setTop (mkF m 0 #[.val (.ref b), .val (.int (Int32.ofNat o)), .val (.int (Int32.ofNat len)), .unset, .unset, .unset] [])) := entry rfl
  have c2 : Steps p.tables e below (s₁.setTop (entryFrame m #[.ref b, .int (Int32.ofNat o), .int (Int32.ofNat len)] 6)) (s₁.setTop (mkF m 1 #[.val (.ref b), .val (.int (Int32.ofNat o)), .val (.int (Int32.ofNat len)), .unset, .unset, .unset] [.int (Int32.ofNat len)])) := c1.trans (by
    refine XS.iloadN X0.here hexec rfl (hb hbytes d0) rfl ?_
    exact Steps.refl _)
  obtain ⟨T3, B3, X3, ba3, bs3, bv3, bh3, bf3, st3⟩ := X0.anew hexec (atype := .byte) (wk W (.arrayClass .byte)) rfl (by show len * 1 ≤ _; omega) (by omega) (g := (mkF m 1 #[.val (.ref b), .val (.int (Int32.ofNat o)), .val (.int (Int32.ofNat len)), .unset, .unset, .unset] [.int (Int32.ofNat len)])) rfl (hb hbytes d1) (rest := []) rfl (Nat.le_refl _) (by show 0 + len ≤ len; omega)
  rw [hh0] at ba3 st3
  have kp3 : XT.Kept s T3 := (XT.Kept.of_eq hh0).push bh3
  have hA3 := hA.keep X3.warmed.alike (kp3 _ _ hA.1.1)
  have hne : b ≠ s.heap.size := hA.1.ne
  have c4 : Steps p.tables e below (s₁.setTop (entryFrame m #[.ref b, .int (Int32.ofNat o), .int (Int32.ofNat len)] 6)) (T3.setTop (mkF m 3 #[.val (.ref b), .val (.int (Int32.ofNat o)), .val (.int (Int32.ofNat len)), .unset, .unset, .unset] [.ref s.heap.size])) := c2.trans (st3 _ (Steps.refl _))
  have c5 : Steps p.tables e below (s₁.setTop (entryFrame m #[.ref b, .int (Int32.ofNat o), .int (Int32.ofNat len)] 6)) (T3.setTop (mkF m 9 #[.val (.ref b), .val (.int (Int32.ofNat o)), .val (.int (Int32.ofNat len)), .val (.ref s.heap.size), .unset, .unset] [.int (Int32.ofNat len), .int 0, .ref s.heap.size, .int (Int32.ofNat o), .ref b])) := c4.trans (by
    refine XS.astoreN X3.here hexec rfl (hb hbytes d3) rfl rfl rfl ?_
    refine XS.aloadN X3.here hexec rfl (hb hbytes d4) rfl rfl ?_
    refine XS.iloadN X3.here hexec rfl (hb hbytes d5) rfl ?_
    refine XS.aloadN X3.here hexec rfl (hb hbytes d6) rfl rfl ?_
    refine iconstV X3.here hexec rfl 0 (hb hbytes d7) (by decide) ?_
    refine XS.iloadN X3.here hexec rfl (hb hbytes d8) rfl ?_
    exact Steps.refl _)
  obtain ⟨v6, T6, X6, E6, g6⟩ := X3.callS hexec (Cmp5.law l b A s.heap.size B3 o 0 len) hown (wks W (staticW U16 115 Cmp5.yN)) (wk W Cmp5.tab) (W := 0) (Nat.le_of_ble_eq_true rfl) (Nat.le_of_ble_eq_true rfl) (Nat.le_refl _) (by show 0 + len + 0 ≤ len; omega) (g := (mkF m 9 #[.val (.ref b), .val (.int (Int32.ofNat o)), .val (.int (Int32.ofNat len)), .val (.ref s.heap.size), .unset, .unset] [.int (Int32.ofNat len), .int (Int32.ofNat 0), .ref s.heap.size, .int (Int32.ofNat o), .ref b])) rfl (by rw [hml]; rfl) c5 (argsL := [.ref b, .int (Int32.ofNat o), .ref s.heap.size, .int (Int32.ofNat 0), .int (Int32.ofNat len)]) (rest := []) rfl rfl (by show 2 * 0 + 0 ≤ _; decide) (hb hbytes d9) (⟨rfl, hA3, ba3, hne, l1, by rw [bs3]; simp, hp⟩)
  obtain ⟨rfl, B6, p6, f6⟩ := E6
  have c7 : Steps p.tables e below (s₁.setTop (entryFrame m #[.ref b, .int (Int32.ofNat o), .int (Int32.ofNat len)] 6)) (T6.setTop (mkF m 12 #[.val (.ref b), .val (.int (Int32.ofNat o)), .val (.int (Int32.ofNat len)), .val (.ref s.heap.size), .unset, .unset] [.int (Int32.ofNat len)])) := g6
  have c8 : Steps p.tables e below (s₁.setTop (entryFrame m #[.ref b, .int (Int32.ofNat o), .int (Int32.ofNat len)] 6)) (T6.setTop (mkF m 58 #[.val (.ref b), .val (.int (Int32.ofNat o)), .val (.int (Int32.ofNat len)), .val (.ref s.heap.size), .val (.int (Int32.ofNat len)), .unset] [.ref s.heap.size])) := c7.trans (by
    refine XS.istore X6.here hexec rfl (hb hbytes d12) rfl rfl ?_
    refine XS.iload X6.here hexec rfl (hb hbytes d14) rfl ?_
    refine XS.iloadN X6.here hexec rfl (hb hbytes d16) rfl ?_
    refine XS.icmpYes X6.here hexec rfl (pc0 := 17) rfl (hb hbytes d17) rfl (ii_eq_t rfl) (by decide) rfl ?_
    refine XS.aloadN X6.here hexec rfl (hb hbytes d57) rfl rfl ?_
    exact Steps.refl _)
  have X8 := X6.wide (L' := []) (cells' := 1) (slots' := len) (fun x hx hlt => by
    simp only [List.nil_append, copyLocs, List.mem_map, List.mem_range] at hx
    obtain ⟨i, -, rfl⟩ := hx
    exact absurd hlt (Nat.lt_irrefl _)) (Nat.le_refl _) (by omega)
  exact ⟨T6, some (.ref s.heap.size), _, _, _, X8, rfl, rfl, rfl, (fun h => by cases h), ⟨⟨rfl, B6, ba3.like (X3.warmed.alike.symm.trans X6.warmed.alike) p6.1 f6.1 f6.2.1 f6.2.2.1, f6.2.1.trans bv3, by rw [X6.warmed.alike.findClass, f6.1]; exact bf3, by rw [f6.2.2.1, bs3]; simp, fun j hj => by rw [f6.2.2.2 j, if_pos (by omega)]; rfl, kp3.put p6 (Nat.le_refl _)⟩, by rw [p6.2.2, bh3, hh0]; simp⟩, fun fs hl => c8.trans (X8.areturnOut hexec rfl hret rfl (hb hbytes d58) hl)⟩
end Cmp3
namespace CodL
def yN : MethodName := ⟨"java/lang/StringUTF16", "coderFromArrayLen", "([BI)B"⟩
abbrev yB : ByteArray := jdk_52_method_15_code
theorem d0 : decode yB 0 = .ok (.iload_n 1, 1) := by decide +kernel
theorem d1 : decode yB 1 = .ok (.aload_n 0, 1) := by decide +kernel
theorem d2 : decode yB 2 = .ok (.arraylength, 1) := by decide +kernel
theorem d3 : decode yB 3 = .ok (.isub, 1) := by decide +kernel
theorem d4 : decode yB 4 = .ok (.bipush 31, 2) := by decide +kernel
theorem d6 : decode yB 6 = .ok (.iushr, 1) := by decide +kernel
theorem d7 : decode yB 7 = .ok (.i2b, 1) := by decide +kernel
theorem d8 : decode yB 8 = .ok (.ireturn, 1) := by decide +kernel
def site : List Cond := []
def tab : Cond := tabOf yN yB 2 (some .byte) site
def P (d : Addr) (B : Cell) (args : Array Value) (s : State) : Prop := args = #[.ref d, .int (Int32.ofNat B.slots.size)] ∧ Arr .byte d B s
def E (r : Option Value) (s u : State) : Prop := XT.PureE (some (.int 0)) r s u
/-- an array as long as the number of chars: LATIN1 -/
theorem law (l : Launch) (d : Addr) (B : Cell) : Law l yN 2 2 0 0 yB 2 (some .byte) site (P d B) E [] 0 0 := by
  refine Law.of_walk (plainFor_of_name (by decide +kernel)) (by decide +kernel) (by decide +kernel) (by decide) (fun _ _ h => by rw [h.1]; rfl) (fun _ U U' hal hh h => ⟨h.1, h.2.mv hal hh⟩) (fun r U U' V V' h1 hal h2 h => XT.PureE.mv r U U' V V' h1 hal h2 h) ?_
  intro p e s m args below meth c s₁ X0 hexec hbytes hml hret hlk hnm hown hh0 W hP
  obtain ⟨rfl, hB⟩ := hP
  have hB0 := hB.mv X0.warmed.alike hh0
  have c1 : Steps p.tables e below (s₁.setTop (entryFrame m #[.ref d, .int (Int32.ofNat B.slots.size)] 2)) (s₁.setTop (mkF m 0 #[.val (.ref d), .val (.int (Int32.ofNat B.slots.size))] [])) := entry rfl
  have c2 : Steps p.tables e below (s₁.setTop (entryFrame m #[.ref d, .int (Int32.ofNat B.slots.size)] 2)) (s₁.setTop (mkF m 2 #[.val (.ref d), .val (.int (Int32.ofNat B.slots.size))] [.ref d, .int (Int32.ofNat B.slots.size)])) := c1.trans (by
    refine XS.iloadN X0.here hexec rfl (hb hbytes d0) rfl ?_
    refine XS.aloadN X0.here hexec rfl (hb hbytes d1) rfl rfl ?_
    exact Steps.refl _)
  have c3 : Steps p.tables e below (s₁.setTop (entryFrame m #[.ref d, .int (Int32.ofNat B.slots.size)] 2)) (s₁.setTop (mkF m 8 #[.val (.ref d), .val (.int (Int32.ofNat B.slots.size))] [.int (lo8 (ushr (Int32.ofNat B.slots.size - Int32.ofNat B.slots.size) 31))])) := c2.trans (by
    refine X0.alen hexec hB0 rfl rfl (hb hbytes d2) ?_
    refine XS.isub X0.here hexec rfl (hb hbytes d3) rfl ?_
    refine bipushV X0.here hexec rfl 31 (hb hbytes d4) (by decide) ?_
    refine iushr X0.here hexec rfl (hb hbytes d6) rfl ?_
    refine i2b X0.here hexec rfl (hb hbytes d7) rfl ?_
    exact Steps.refl _)
  have e0 : lo8 (ushr (Int32.ofNat B.slots.size - Int32.ofNat B.slots.size) 31) = 0 := by rw [Int32.sub_self]; decide
  rw [e0] at c3
  exact ⟨s₁, some (.int 0), _, _, _, X0, rfl, rfl, rfl, (fun h => by cases h), ⟨rfl, hh0⟩, fun fs hl => c3.trans (X0.ireturnOut hexec hret rfl (Or.inr (Or.inr (Or.inl rfl))) (hb hbytes d8) hl)⟩
end CodL
/-- the String at a is Latin-1 over a new byte[] (the heap's one new cell): the low bytes of the len chars of A from o on; every cell but a is kept -/
def Got (a : Addr) (D : Cell) (fV fC : Field) (A : Cell) (o len : Nat) (r : Option Value) (s u : State) : Prop := r = none ∧ ∃ D' V : Cell, Blank "java/lang/String" a D' u ∧ Same D D' [fV.slot, fC.slot] ∧ D'.slots[fV.slot]? = some (.ref s.heap.size) ∧ D'.slots[fC.slot]? = some (.int 0) ∧ Arr .byte s.heap.size V u ∧ V.vm = .none ∧ u.vm.findClass "[B" = some V.cls ∧ V.slots.size = len ∧ (∀ j, j < len → V.slots[j]? = some (.int (lo8 (cv A (o + j))))) ∧ (∀ (y : Addr) (c : Cell), y ≠ a → s.heap[y]? = some c → u.heap[y]? = some c) ∧ u.heap.size = s.heap.size + 1
theorem Got.mv {a : Addr} {D A : Cell} {fV fC : Field} {o len : Nat} : ∀ r (U U' V V' : State), U'.heap = U.heap → V.vm.Alike V'.vm → V'.heap = V.heap → Got a D fV fC A o len r U V → Got a D fV fC A o len r U' V' :=
  fun r U U' V V' h1 hal h2 ⟨e0, D', X, a1, a2, a3, a4, a5, a6, a7, a8, a9, a10, a11⟩ => ⟨e0, D', X, a1.mv hal h2, a2, by rw [h1]; exact a3, a4, by rw [h1]; exact a5.mv hal h2, a6, by rw [hal.findClass]; exact a7, a8, a9, by rw [h1, h2]; exact a10, by rw [h1, h2]; exact a11⟩
namespace New4
def yN : MethodName := ⟨"java/lang/String", "<init>", "([CIILjava/lang/Void;)V"⟩
abbrev yB : ByteArray := jdk_42_method_149_code
theorem d0 : decode yB 0 = .ok (.aload_n 0, 1) := by decide +kernel
theorem d1 : decode yB 1 = .ok (.invokespecial 1, 3) := by decide +kernel
theorem d4 : decode yB 4 = .ok (.iload_n 3, 1) := by decide +kernel
theorem d5 : decode yB 5 = .ok (.ifCond (.ne) 22, 3) := by decide +kernel
theorem d27 : decode yB 27 = .ok (.getstatic 38, 3) := by decide +kernel
theorem d30 : decode yB 30 = .ok (.ifCond (.eq) 28, 3) := by decide +kernel
theorem d33 : decode yB 33 = .ok (.aload_n 1, 1) := by decide +kernel
theorem d34 : decode yB 34 = .ok (.iload_n 2, 1) := by decide +kernel
theorem d35 : decode yB 35 = .ok (.iload_n 3, 1) := by decide +kernel
theorem d36 : decode yB 36 = .ok (.invokestatic 177, 3) := by decide +kernel
theorem d39 : decode yB 39 = .ok (.astore 5, 2) := by decide +kernel
theorem d41 : decode yB 41 = .ok (.aload_n 0, 1) := by decide +kernel
theorem d42 : decode yB 42 = .ok (.aload 5, 2) := by decide +kernel
theorem d44 : decode yB 44 = .ok (.iload_n 3, 1) := by decide +kernel
theorem d45 : decode yB 45 = .ok (.invokestatic 47, 3) := by decide +kernel
theorem d48 : decode yB 48 = .ok (.putfield 15, 3) := by decide +kernel
theorem d51 : decode yB 51 = .ok (.aload_n 0, 1) := by decide +kernel
theorem d52 : decode yB 52 = .ok (.aload 5, 2) := by decide +kernel
theorem d54 : decode yB 54 = .ok (.putfield 9, 3) := by decide +kernel
theorem d57 : decode yB 57 = .ok (.return_, 1) := by decide +kernel
def site : List Cond := [.fieldLink "java/lang/String" 38 "java/lang/String" "COMPACT_STRINGS" "Z", Cmp3.tab, CodL.tab, .laysFinal "java/lang/String" "java/lang/String" "value" "[B", .fieldLink "java/lang/String" 9 "java/lang/String" "value" "[B", .laysFinal "java/lang/String" "java/lang/String" "coder" "B", .fieldLink "java/lang/String" 15 "java/lang/String" "coder" "B"] ++ objW "java/lang/String" 1 ++ staticW "java/lang/String" 177 Cmp3.yN ++ staticW "java/lang/String" 47 CodL.yN
def tab : Cond := tabOf yN yB 6 none site
def P (a : Addr) (D : Cell) (fV fC : Field) (b : Addr) (A : Cell) (z : Int32) (o len : Nat) (args : Array Value) (s : State) : Prop := args = #[.ref a, .ref b, .int (Int32.ofNat o), .int (Int32.ofNat len), .null] ∧ Blank "java/lang/String" a D s ∧ Found "java/lang/String" "value" "[B" fV s ∧ Found "java/lang/String" "coder" "B" fC s ∧ Ch b A s ∧ StaticIs s "java/lang/String" "COMPACT_STRINGS" "Z" (.int z) ∧ ¬ z = 0 ∧ 0 < len ∧ o + len ≤ A.slots.size ∧ len ≤ 536870912 ∧ ∀ i, i < len → ¬ 255 < cv A (o + i)
def E (a : Addr) (D : Cell) (fV fC : Field) (A : Cell) (o len : Nat) (r : Option Value) (s u : State) : Prop := Got a D fV fC A o len r s u
/-- len > 0, no char of the range above 255: a Latin-1 String of their low bytes -/
theorem law (l : Launch) (a : Addr) (D : Cell) (fV fC : Field) (b : Addr) (A : Cell) (z : Int32) (o len : Nat) : Law l yN 5 4 2 35 yB 6 none site (P a D fV fC b A z o len) (E a D fV fC A o len) [⟨a, fC.slot⟩, ⟨a, fV.slot⟩] 1 len := by
  refine Law.of_walk (plainFor_of_name (by decide +kernel)) (by decide +kernel) (by decide +kernel) (by decide) (fun _ _ h => by rw [h.1]; rfl) (fun _ U U' hal hh h => ⟨h.1, h.2.1.mv hal hh, h.2.2.1.al hal, h.2.2.2.1.al hal, h.2.2.2.2.1.mv hal hh, h.2.2.2.2.2.1.there hal hh, h.2.2.2.2.2.2⟩) (fun r U U' V V' h1 hal h2 h => Got.mv r U U' V V' h1 hal h2 h) ?_
  intro p e s m args below meth c s₁ X0 hexec hbytes hml hret hlk hnm hown hh0 W hP
  obtain ⟨rfl, hB, f1, f2, hA, s1, hz, l0, l1, l2, hp⟩ := hP
  have a31 := hA.1.2.2.2
  have c1 : Steps p.tables e below (s₁.setTop (entryFrame m #[.ref a, .ref b, .int (Int32.ofNat o), .int (Int32.ofNat len), .null] 6)) (s₁.setTop (mkF m 0 #[.val (.ref a), .val (.ref b), .val (.int (Int32.ofNat o)), .val (.int (Int32.ofNat len)), .val .null, .unset] [])) := entry rfl
  have c2 : Steps p.tables e below (s₁.setTop (entryFrame m #[.ref a, .ref b, .int (Int32.ofNat o), .int (Int32.ofNat len), .null] 6)) (s₁.setTop (mkF m 1 #[.val (.ref a), .val (.ref b), .val (.int (Int32.ofNat o)), .val (.int (Int32.ofNat len)), .val .null, .unset] [.ref a])) := c1.trans (by
    refine XS.aloadN X0.here hexec rfl (hb hbytes d0) rfl rfl ?_
    exact Steps.refl _)
  obtain ⟨T3, X3, q3, st3⟩ := X0.oinit hexec hown (wks W (objW "java/lang/String" 1)) (g := (mkF m 1 #[.val (.ref a), .val (.ref b), .val (.int (Int32.ofNat o)), .val (.int (Int32.ofNat len)), .val .null, .unset] [.ref a])) rfl (by rw [hml]; rfl) (rest := []) rfl (hb hbytes d1) (W := 0) (by show 2 * 0 + 0 ≤ _; decide) (Nat.le_of_ble_eq_true rfl) (Nat.le_of_ble_eq_true rfl)
  have hh3 := q3.trans hh0
  have c4 : Steps p.tables e below (s₁.setTop (entryFrame m #[.ref a, .ref b, .int (Int32.ofNat o), .int (Int32.ofNat len), .null] 6)) (T3.setTop (mkF m 27 #[.val (.ref a), .val (.ref b), .val (.int (Int32.ofNat o)), .val (.int (Int32.ofNat len)), .val .null, .unset] [])) := (c2.trans (st3 _ (Steps.refl _))).trans (by
    refine XS.iloadN X3.here hexec rfl (hb hbytes d4) rfl ?_
    refine XS.ifYes X3.here hexec rfl (pc0 := 5) rfl (hb hbytes d5) rfl (i0_ne_t (nz32 (by omega) l0)) (by decide) rfl ?_
    exact Steps.refl _)
  obtain ⟨T5, X5, q5, st5⟩ := X3.sget hexec hown (wk W (.fieldLink "java/lang/String" 38 "java/lang/String" "COMPACT_STRINGS" "Z")) s1 (fun _ _ h => by rw [hh3]; exact h) (g := (mkF m 27 #[.val (.ref a), .val (.ref b), .val (.int (Int32.ofNat o)), .val (.int (Int32.ofNat len)), .val .null, .unset] [])) rfl (hb hbytes d27)
  have hh5 := q5.trans hh3
  have c6 : Steps p.tables e below (s₁.setTop (entryFrame m #[.ref a, .ref b, .int (Int32.ofNat o), .int (Int32.ofNat len), .null] 6)) (T5.setTop (mkF m 30 #[.val (.ref a), .val (.ref b), .val (.int (Int32.ofNat o)), .val (.int (Int32.ofNat len)), .val .null, .unset] [.int z])) := c4.trans (st5 _ (Steps.refl _))
  have c7 : Steps p.tables e below (s₁.setTop (entryFrame m #[.ref a, .ref b, .int (Int32.ofNat o), .int (Int32.ofNat len), .null] 6)) (T5.setTop (mkF m 36 #[.val (.ref a), .val (.ref b), .val (.int (Int32.ofNat o)), .val (.int (Int32.ofNat len)), .val .null, .unset] [.int (Int32.ofNat len), .int (Int32.ofNat o), .ref b])) := c6.trans (by
    refine XS.ifNo X5.here hexec rfl (hb hbytes d30) rfl (i0_eq_f hz) ?_
    refine XS.aloadN X5.here hexec rfl (hb hbytes d33) rfl rfl ?_
    refine XS.iloadN X5.here hexec rfl (hb hbytes d34) rfl ?_
    refine XS.iloadN X5.here hexec rfl (hb hbytes d35) rfl ?_
    exact Steps.refl _)
  obtain ⟨v8, T8, X8, E8, g8⟩ := X5.callS hexec (Cmp3.law l b A o len) hown (wks W (staticW "java/lang/String" 177 Cmp3.yN)) (wk W Cmp3.tab) (W := 0) (Nat.le_of_ble_eq_true rfl) (Nat.le_of_ble_eq_true rfl) (Nat.le_refl _) (by show 0 + len ≤ len; omega) (g := (mkF m 36 #[.val (.ref a), .val (.ref b), .val (.int (Int32.ofNat o)), .val (.int (Int32.ofNat len)), .val .null, .unset] [.int (Int32.ofNat len), .int (Int32.ofNat o), .ref b])) rfl (by rw [hml]; rfl) c7 (argsL := [.ref b, .int (Int32.ofNat o), .int (Int32.ofNat len)]) (rest := []) rfl rfl (by show 2 * 0 + 0 ≤ _; decide) (hb hbytes d36) (⟨rfl, hA.mv X5.warmed.alike hh5, l1, l2, hp⟩)
  obtain ⟨e8, z8⟩ := E8
  obtain ⟨rfl, N, n1, n2, n3, n4, n5, n6⟩ := NewArr.mv _ T5 s _ _ hh5.symm (Vm.Alike.refl _) rfl e8
  rw [hh5] at z8
  have hB1 := hB.keep X8.warmed.alike (n6 _ _ hB.1)
  have hne : s.heap.size ≠ a := (Nat.ne_of_lt (Array.getElem?_eq_some_iff.mp hB.1).1).symm
  have c9 : Steps p.tables e below (s₁.setTop (entryFrame m #[.ref a, .ref b, .int (Int32.ofNat o), .int (Int32.ofNat len), .null] 6)) (T8.setTop (mkF m 39 #[.val (.ref a), .val (.ref b), .val (.int (Int32.ofNat o)), .val (.int (Int32.ofNat len)), .val .null, .unset] [.ref s.heap.size])) := g8
  have c10 : Steps p.tables e below (s₁.setTop (entryFrame m #[.ref a, .ref b, .int (Int32.ofNat o), .int (Int32.ofNat len), .null] 6)) (T8.setTop (mkF m 45 #[.val (.ref a), .val (.ref b), .val (.int (Int32.ofNat o)), .val (.int (Int32.ofNat len)), .val .null, .val (.ref s.heap.size)] [.int (Int32.ofNat N.slots.size), .ref s.heap.size, .ref a])) := by
    have hc : Steps p.tables e below (s₁.setTop (entryFrame m #[.ref a, .ref b, .int (Int32.ofNat o), .int (Int32.ofNat len), .null] 6)) (T8.setTop (mkF m 45 #[.val (.ref a), .val (.ref b), .val (.int (Int32.ofNat o)), .val (.int (Int32.ofNat len)), .val .null, .val (.ref s.heap.size)] [.int (Int32.ofNat len), .ref s.heap.size, .ref a])) := c9.trans (by
      refine XS.astore X8.here hexec rfl (hb hbytes d39) rfl rfl rfl ?_
      refine XS.aloadN X8.here hexec rfl (hb hbytes d41) rfl rfl ?_
      refine XS.aload X8.here hexec rfl (hb hbytes d42) rfl rfl ?_
      refine XS.iloadN X8.here hexec rfl (hb hbytes d44) rfl ?_
      exact Steps.refl _)
    rw [n4]; exact hc
  obtain ⟨v11, T11, X11, E11, g11⟩ := X8.callS hexec (CodL.law l s.heap.size N) hown (wks W (staticW "java/lang/String" 47 CodL.yN)) (wk W CodL.tab) (W := 1) (Nat.le_of_ble_eq_true rfl) (Nat.le_of_ble_eq_true rfl) (Nat.le_refl _) (by show 0 + len + 0 ≤ len; omega) (g := (mkF m 45 #[.val (.ref a), .val (.ref b), .val (.int (Int32.ofNat o)), .val (.int (Int32.ofNat len)), .val .null, .val (.ref s.heap.size)] [.int (Int32.ofNat N.slots.size), .ref s.heap.size, .ref a])) rfl (by rw [hml]; rfl) c10 (argsL := [.ref s.heap.size, .int (Int32.ofNat N.slots.size)]) (rest := [.ref a]) rfl rfl (by show 2 * 0 + (1 + 0) ≤ _; decide) (hb hbytes d45) (⟨rfl, n1⟩)
  obtain ⟨rfl, q11⟩ := E11
  have hB11 := hB1.mv (X8.warmed.alike.symm.trans X11.warmed.alike) q11
  have c12 : Steps p.tables e below (s₁.setTop (entryFrame m #[.ref a, .ref b, .int (Int32.ofNat o), .int (Int32.ofNat len), .null] 6)) (T11.setTop (mkF m 48 #[.val (.ref a), .val (.ref b), .val (.int (Int32.ofNat o)), .val (.int (Int32.ofNat len)), .val .null, .val (.ref s.heap.size)] [.int 0, .ref a])) := g11
  obtain ⟨T13, X13, p13, bl13, sl13, st13⟩ := X11.finit hexec hown (wk W (.fieldLink "java/lang/String" 15 "java/lang/String" "coder" "B")) (Or.inr ⟨_, (wk W (.laysFinal "java/lang/String" "java/lang/String" "coder" "B"))⟩) (Or.inl ⟨rfl, hnm⟩) f2 (Or.inl rfl) hB11 (t := .byte) (by decide +kernel) rfl (g := (mkF m 48 #[.val (.ref a), .val (.ref b), .val (.int (Int32.ofNat o)), .val (.int (Int32.ofNat len)), .val .null, .val (.ref s.heap.size)] [.int 0, .ref a])) rfl (rest := []) rfl (hb hbytes d48)
  have c14 : Steps p.tables e below (s₁.setTop (entryFrame m #[.ref a, .ref b, .int (Int32.ofNat o), .int (Int32.ofNat len), .null] 6)) (T13.setTop (mkF m 54 #[.val (.ref a), .val (.ref b), .val (.int (Int32.ofNat o)), .val (.int (Int32.ofNat len)), .val .null, .val (.ref s.heap.size)] [.ref s.heap.size, .ref a])) := (c12.trans (st13 _ (Steps.refl _))).trans (by
    refine XS.aloadN X13.here hexec rfl (hb hbytes d51) rfl rfl ?_
    refine XS.aload X13.here hexec rfl (hb hbytes d52) rfl rfl ?_
    exact Steps.refl _)
  obtain ⟨T15, X15, p15, bl15, sl15, st15⟩ := X13.finit hexec hown (wk W (.fieldLink "java/lang/String" 9 "java/lang/String" "value" "[B")) (Or.inr ⟨_, (wk W (.laysFinal "java/lang/String" "java/lang/String" "value" "[B"))⟩) (Or.inl ⟨rfl, hnm⟩) f1 (Or.inl rfl) bl13 (t := (.array .byte)) (by decide +kernel) rfl (g := (mkF m 54 #[.val (.ref a), .val (.ref b), .val (.int (Int32.ofNat o)), .val (.int (Int32.ofNat len)), .val .null, .val (.ref s.heap.size)] [.ref s.heap.size, .ref a])) rfl (rest := []) rfl (hb hbytes d54)
  have c16 : Steps p.tables e below (s₁.setTop (entryFrame m #[.ref a, .ref b, .int (Int32.ofNat o), .int (Int32.ofNat len), .null] 6)) (T15.setTop (mkF m 57 #[.val (.ref a), .val (.ref b), .val (.int (Int32.ofNat o)), .val (.int (Int32.ofNat len)), .val .null, .val (.ref s.heap.size)] [])) := c14.trans (st15 _ (Steps.refl _))
  have ap := apart (Or.inr ⟨_, (wk W (.laysFinal "java/lang/String" "java/lang/String" "value" "[B"))⟩) (Or.inr ⟨_, (wk W (.laysFinal "java/lang/String" "java/lang/String" "coder" "B"))⟩) f1 f2 (t₁ := .array .byte) (t₂ := .byte) (by decide +kernel) (by decide +kernel) (by decide)
  have al := X8.warmed.alike.symm.trans X15.warmed.alike
  have n7 : T11.heap[s.heap.size]? = some N := by rw [q11]; exact n1.1
  exact ⟨T15, none, _, _, _, X15, by simp, rfl, by omega, (fun _ => rfl), ⟨rfl, _, N, bl15, ((Same.refl D _).set _ (by simp)).set _ (by simp), sl15, (Cell.slots_setSlot_ne _ ap).trans sl13, n1.keep al (p15.other hne (p13.other hne n7)), n2, by rw [al.findClass]; exact n3, n4, n5, fun y c h1 h2 => p15.other h1 (p13.other h1 (by rw [q11]; exact n6 y c h2)), by rw [p15.2.2, p13.2.2, q11]; exact z8⟩, fun fs hl => c16.trans (X15.returnOut hexec hret (hb hbytes d57) hl)⟩
end New4
namespace New1
def yN : MethodName := ⟨"java/lang/String", "<init>", "([C)V"⟩
abbrev yB : ByteArray := jdk_42_method_3_code
theorem d0 : decode yB 0 = .ok (.aload_n 0, 1) := by decide +kernel
theorem d1 : decode yB 1 = .ok (.aload_n 1, 1) := by decide +kernel
theorem d2 : decode yB 2 = .ok (.iconst 0, 1) := by decide +kernel
theorem d3 : decode yB 3 = .ok (.aload_n 1, 1) := by decide +kernel
theorem d4 : decode yB 4 = .ok (.arraylength, 1) := by decide +kernel
theorem d5 : decode yB 5 = .ok (.aconst_null, 1) := by decide +kernel
theorem d6 : decode yB 6 = .ok (.invokespecial 27, 3) := by decide +kernel
theorem d9 : decode yB 9 = .ok (.return_, 1) := by decide +kernel
def site : List Cond := [New4.tab] ++ initW "java/lang/String" 27 New4.yN
def tab : Cond := tabOf yN yB 2 none site
def P (a : Addr) (D : Cell) (fV fC : Field) (b : Addr) (A : Cell) (z : Int32) (args : Array Value) (s : State) : Prop := args = #[.ref a, .ref b] ∧ Blank "java/lang/String" a D s ∧ Found "java/lang/String" "value" "[B" fV s ∧ Found "java/lang/String" "coder" "B" fC s ∧ Ch b A s ∧ StaticIs s "java/lang/String" "COMPACT_STRINGS" "Z" (.int z) ∧ ¬ z = 0 ∧ 0 < A.slots.size ∧ A.slots.size ≤ 536870912 ∧ ∀ i, i < A.slots.size → ¬ 255 < cv A i
def E (a : Addr) (D : Cell) (fV fC : Field) (A : Cell) (r : Option Value) (s u : State) : Prop := Got a D fV fC A 0 A.slots.size r s u
/-- new String(chars), not empty, no char above 255: a Latin-1 String of their low bytes -/
theorem law (l : Launch) (a : Addr) (D : Cell) (fV fC : Field) (b : Addr) (A : Cell) (z : Int32) : Law l yN 2 1 3 52 yB 2 none site (P a D fV fC b A z) (E a D fV fC A) [⟨a, fC.slot⟩, ⟨a, fV.slot⟩] 1 A.slots.size := by
  refine Law.of_walk (plainFor_of_name (by decide +kernel)) (by decide +kernel) (by decide +kernel) (by decide) (fun _ _ h => by rw [h.1]; rfl) (fun _ U U' hal hh h => ⟨h.1, h.2.1.mv hal hh, h.2.2.1.al hal, h.2.2.2.1.al hal, h.2.2.2.2.1.mv hal hh, h.2.2.2.2.2.1.there hal hh, h.2.2.2.2.2.2⟩) (fun r U U' V V' h1 hal h2 h => Got.mv r U U' V V' h1 hal h2 h) ?_
  intro p e s m args below meth c s₁ X0 hexec hbytes hml hret hlk hnm hown hh0 W hP
  obtain ⟨rfl, hB, f1, f2, hA, s1, hz, l0, l2, hp⟩ := hP
  have c1 : Steps p.tables e below (s₁.setTop (entryFrame m #[.ref a, .ref b] 2)) (s₁.setTop (mkF m 0 #[.val (.ref a), .val (.ref b)] [])) := entry rfl
  have c2 : Steps p.tables e below (s₁.setTop (entryFrame m #[.ref a, .ref b] 2)) (s₁.setTop (mkF m 6 #[.val (.ref a), .val (.ref b)] [.null, .int (Int32.ofNat A.slots.size), .int 0, .ref b, .ref a])) := c1.trans (by
    refine XS.aloadN X0.here hexec rfl (hb hbytes d0) rfl rfl ?_
    refine XS.aloadN X0.here hexec rfl (hb hbytes d1) rfl rfl ?_
    refine iconstV X0.here hexec rfl 0 (hb hbytes d2) (by decide) ?_
    refine XS.aloadN X0.here hexec rfl (hb hbytes d3) rfl rfl ?_
    refine X0.alen hexec (hA.1.mv X0.warmed.alike hh0) rfl rfl (hb hbytes d4) ?_
    refine XS.aconstNull X0.here hexec rfl (hb hbytes d5) ?_
    exact Steps.refl _)
  obtain ⟨v3, T3, X3, E3, g3⟩ := X0.callN hexec (New4.law l a D fV fC b A z 0 A.slots.size) rfl hown (wks W (initW "java/lang/String" 27 New4.yN)) (W New4.tab (by simp only [site, List.mem_cons, List.mem_append, true_or, or_true])) (W := 0) (Nat.le_of_ble_eq_true rfl) (Nat.le_of_ble_eq_true rfl) (Nat.le_refl _) (by show 0 + A.slots.size ≤ A.slots.size; omega) (g := (mkF m 6 #[.val (.ref a), .val (.ref b)] [.null, .int (Int32.ofNat A.slots.size), .int (Int32.ofNat 0), .ref b, .ref a])) rfl (by rw [hml]; rfl) c2 (argsL := [.ref b, .int (Int32.ofNat 0), .int (Int32.ofNat A.slots.size), .null]) (rest := []) rfl rfl (by show 2 * 0 + 0 ≤ _; decide) (hb hbytes d6) (⟨rfl, hB.mv X0.warmed.alike hh0, f1.al X0.warmed.alike, f2.al X0.warmed.alike, hA.mv X0.warmed.alike hh0, s1.there X0.warmed.alike hh0, hz, l0, by omega, l2, fun i hi => by rw [Nat.zero_add]; exact hp i hi⟩)
  have e0 := Got.mv _ s₁ s _ _ hh0.symm (Vm.Alike.refl _) rfl E3
  obtain rfl := e0.1
  have c4 : Steps p.tables e below (s₁.setTop (entryFrame m #[.ref a, .ref b] 2)) (T3.setTop (mkF m 9 #[.val (.ref a), .val (.ref b)] [])) := g3
  exact ⟨T3, none, _, _, _, X3, by simp, rfl, by omega, (fun _ => rfl), e0, fun fs hl => c4.trans (X3.returnOut hexec hret (hb hbytes d9) hl)⟩
theorem pays {l : Launch} {R : Room} {p : Program} {e : Env} {below : List Frame} {s : State} {sargs : Array Value} {len W : Nat} (a : Addr) (D : Cell) (fV fC : Field) (b : Addr) (A : Cell) (z : Int32) (htab : tab.before sargs s = true) (hfr : 4 ≤ R.frames) (hlo : W + 65 ≤ R.locals) :
    Back l R p e below s sargs yN len W (fun A₁ a₁ => A₁.cells + 1 ≤ R.cells ∧ A₁.slots + A.slots.size ≤ R.slots ∧ P a D fV fC b A z a₁ A₁.U) (fun A₁ _ v₁ B₁ => E a D fV fC A v₁ A₁.U B₁.U ∧ B₁.locs = A₁.locs ++ [⟨a, fC.slot⟩, ⟨a, fV.slot⟩] ∧ B₁.cells = A₁.cells + 1 ∧ B₁.slots = A₁.slots + A.slots.size) :=
  (law l a D fV fC b A z).pays htab hfr (by omega)
end New1
end StrChars
namespace StrChars.Road
open Jvm Sem ClassFile Op Lib Jvm.Stand Jvm.Free Jvm.Free.XT
open Jvm.Lib.Cold (StaticIs)
abbrev ST : String := "java/lang/String"
/-- every table word that New1's law asks, flat -/
abbrev words : List Jvm.Cond := [.code New1.yN New1.yB 2 none, .initialized ST, .methodLink ST 27 New4.yN, .instanceMethod New4.yN,
  .code New4.yN New4.yB 6 none, .fieldLink ST 38 ST "COMPACT_STRINGS" "Z", .laysFinal ST ST "value" "[B", .fieldLink ST 9 ST "value" "[B", .laysFinal ST ST "coder" "B", .fieldLink ST 15 ST "coder" "B",
  .methodLink ST 1 Lib.objectInit, .instanceMethod Lib.objectInit, .code Lib.objectInit ⟨#[0xb1]⟩ 1 none, .methodLink ST 177 Cmp3.yN, .static Cmp3.yN, .methodLink ST 47 CodL.yN, .static CodL.yN,
  .code Cmp3.yN Cmp3.yB 6 (some (.array .byte)), .initialized U16, .arrayClass .byte, .methodLink U16 115 Cmp5.yN, .static Cmp5.yN, .code Cmp5.yN Cmp5.yB 7 (some .int), .code CodL.yN CodL.yB 2 (some .byte)]
theorem tab_of {a : Array Value} {s : State} (h : ∀ w ∈ words, w.before a s = true) : New1.tab.before a s = true := by
  have h5 : Cmp5.tab.before a s = true := unparts (wk h (.code Cmp5.yN Cmp5.yB 7 (some .int))) (wks h (.initialized Cmp5.yN.cls :: Cmp5.site))
  have hc : CodL.tab.before a s = true := unparts (wk h (.code CodL.yN CodL.yB 2 (some .byte))) (wks h (.initialized CodL.yN.cls :: CodL.site))
  have q5 : ∀ w ∈ Cmp5.tab :: words, w.before a s = true := fun w hw => (List.mem_cons.mp hw).elim (fun e => e ▸ h5) (h w)
  have h3 : Cmp3.tab.before a s = true := unparts (wk q5 (.code Cmp3.yN Cmp3.yB 6 (some (.array .byte)))) (wks q5 (.initialized Cmp3.yN.cls :: Cmp3.site))
  have q3 : ∀ w ∈ Cmp3.tab :: CodL.tab :: words, w.before a s = true := fun w hw => (List.mem_cons.mp hw).elim (fun e => e ▸ h3) fun hw => (List.mem_cons.mp hw).elim (fun e => e ▸ hc) (h w)
  have h4 : New4.tab.before a s = true := unparts (wk q3 (.code New4.yN New4.yB 6 none)) (wks q3 (.initialized New4.yN.cls :: New4.site))
  have q4 : ∀ w ∈ New4.tab :: words, w.before a s = true := fun w hw => (List.mem_cons.mp hw).elim (fun e => e ▸ h4) (h w)
  exact unparts (wk q4 (.code New1.yN New1.yB 2 none)) (wks q4 (.initialized New1.yN.cls :: New1.site))
/-- the words ride from the start Z to the walk's own state -/
theorem moved {Z s : State} {a0 args : Array Value} (hZ : Z.Warmed39 s.vm) (hw : ∀ d ∈ words, d.before a0 Z = true) : ∀ d ∈ words, d.before args s = true := fun d hd => by
  have q := hw d hd
  have t : ∀ d ∈ words, d = .arrayClass .byte ∨ (d.onTables && d.keepsFace) = true := by decide +kernel
  rcases t d hd with rfl | t
  · exact RoadKit.mvA hZ q
  · exact RoadKit.mv hZ q t
/-- WHAT COMES BACK, over the tables of the start Z: h the heap at the call, h' behind it -/
def Q (Z : State) (x : Addr) (A : Cell) (h : Heap) (v : Option Value) (h' : Heap) (L : List Loc) : Prop := v = none ∧ (∀ y ∈ L, y.base = x) ∧ RoadKit.Keep h h' [x] ∧ h'.size = h.size + 1 ∧ RoadKit.Exa Z h' x ST ∧ RoadKit.Fld Z h' x ST "value" "[B" (.ref h.size) ∧ RoadKit.Fld Z h' x ST "coder" "B" (.int 0) ∧
  (∃ V : Cell, RoadKit.Arr Z h' h.size V .byte ∧ V.vm = .none ∧ Z.vm.findClass "[B" = some V.cls ∧ V.slots.size = A.slots.size ∧ ∀ j, j < A.slots.size → V.slots[j]? = some (.int (lo8 (cv A j)))) ∧
  ∀ (O n d : String) (w : Value), RoadKit.Fld Z h x O n d w → RoadKit.slotOf Z O n d ≠ RoadKit.slotOf Z ST "value" "[B" → RoadKit.slotOf Z O n d ≠ RoadKit.slotOf Z ST "coder" "B" → RoadKit.Fld Z h' x O n d w
/-- **new String(chars) AT A CALL, IN THE ROAD'S FORM**: for specialBack behind newO: x the fresh String, b the char[] with the cell A -/
theorem back {p : Program} {l : Launch} {e : Env} {R : Room} {s : State} {args : Array Value} {below : List Frame} {len W : Nat} {Z : State} {a0 : Array Value} {h : Heap} (hZ : Z.Warmed39 s.vm) (hw : ∀ d ∈ words, d.before a0 Z = true) {kI : Nat} (wi : (Jvm.Cond.instantiable ST kI).before a0 Z = true)
    {x b : Addr} {A : Cell} {z : Int32} {v0 c0 : Value} (E : RoadKit.Exa Z h x ST) (V : RoadKit.Fld Z h x ST "value" "[B" v0) (C : RoadKit.Fld Z h x ST "coder" "B" c0) (K : RoadKit.Arr Z h b A .char) (hty : Typed .char A) (S : RoadKit.Sta Z h ST "COMPACT_STRINGS" "Z" (.int z)) (hz : ¬ z = 0)
    (l0 : 0 < A.slots.size) (l2 : A.slots.size ≤ 536870912) (hp : ∀ i, i < A.slots.size → ¬ 255 < cv A i) (hfr : 4 ≤ R.frames) (hlo : W + 65 ≤ R.locals) :
    Back l R p e below s args New1.yN len W (fun P a => a = #[.ref x, .ref b] ∧ P.U.heap = h ∧ P.cells + 1 ≤ R.cells ∧ P.slots + A.slots.size ≤ R.slots)
      (fun P _ v B => ∃ L, Q Z x A h v B.U.heap L ∧ B.locs = P.locs ++ L ∧ B.cells = P.cells + 1 ∧ B.slots = P.slots + A.slots.size) := by
  intro m meth c P g ig mk a X hg hsize hdg hW hn hp'
  obtain ⟨rfl, rfl, r1, r2⟩ := hp'
  have al : Z.vm.Alike P.U.vm := hZ.alike.trans X.warmed.alike
  obtain ⟨D, cfV, kV, iV, fV, hD, gV, stV, knV, obV, asV, slV⟩ := id V
  obtain ⟨D', cfC, kC, iC, fC, hD', gC, stC, -, -, asC, slC⟩ := id C
  cases hD.symm.trans hD'
  obtain ⟨D2, kD, e1, e2, e3, e4, e5⟩ := id E
  cases hD.symm.trans e1
  obtain ⟨c2, k2, i1, i2, i3, -⟩ := Cond.instantiable_spec wi
  cases e2.symm.trans i1
  cases e3.symm.trans i2
  obtain ⟨kU, u1, u2⟩ := al.2.2 _ _ e3
  have hB : Blank ST x D P.U := ⟨hD, ⟨knV, fun q hq => by rw [hq] at obV; cases obV⟩, by rw [al.findClass]; exact e2, kU, u1, by rw [u2]; exact i3, by rw [u2]; exact e5 i3⟩
  have F1 : Found ST "value" "[B" fV P.U := ⟨SBG.found_only al ⟨cfV, kV, iV, gV⟩, stV⟩
  have F2 : Found ST "coder" "B" fC P.U := ⟨SBG.found_only al ⟨cfC, kC, iC, gC⟩, stC⟩
  have hA : Ch b A P.U := ⟨⟨K.1, State.isArrayOf_alike al K.2.1, K.2.2, by omega⟩, hty⟩
  have hS : StaticIs P.U ST "COMPACT_STRINGS" "Z" (.int z) := by
    obtain ⟨cfS, iS, kS, fS, st, cS, t1, t2, t3, t4, t5, t6, t7⟩ := S
    exact StaticIs.there (s := { Z with heap := P.U.heap }) ⟨cfS, iS, kS, fS, st, cS, t1, t2, t3, t4, t5, (fun q => by rw [q] at t6; cases t6), t7⟩ al rfl
  obtain ⟨v, B, X', ⟨⟨hv, E', V', q1, q2, q3, q4, q5, q6, q7, q8, q9, q10, q11⟩, hl, hc, hs⟩, st⟩ := New1.pays x D fV fC b A z (tab_of (moved hZ hw)) hfr hlo m meth c P g ig mk _ X hg hsize hdg hW hn ⟨r1, r2, rfl, hB, F1, F2, hA, hS, hz, l0, l2, hp⟩
  have al' : Z.vm.Alike B.U.vm := hZ.alike.trans X'.warmed.alike
  have hsz : E'.slots.size = D.slots.size := by
    obtain ⟨-, -, -, kB, w1, w2, w3⟩ := q1
    obtain ⟨kB', y1, y2⟩ := al'.2.2 _ _ e3
    rw [q2.2.1] at w1
    cases w1.symm.trans y1
    rw [w3, e5 i3, y2]
  refine ⟨v, B, X', ⟨_, ⟨hv, ?_, ⟨by omega, fun y cy hy hn' => q10 y cy (by simpa using hn') hy, fun y cy hy => ?_⟩, q11, ⟨E', _, q1.1, by rw [q2.2.1]; exact e2, by rw [q2.2.1]; exact e3, by rw [q2.1]; exact obV, fun _ => by rw [hsz]; exact e5 i3⟩,
    ⟨E', cfV, kV, iV, fV, q1.1, gV, stV, by rw [q2.1]; exact knV, by rw [q2.1]; exact obV, by rw [q2.2.1]; exact asV, q3⟩, ⟨E', cfC, kC, iC, fC, q1.1, gC, stC, by rw [q2.1]; exact knV, by rw [q2.1]; exact obV, by rw [q2.2.1]; exact asC, q4⟩,
    ⟨V', ⟨q5.1, State.isArrayOf_alike al'.symm q5.2.1, q5.2.2.1⟩, q6, by rw [← al'.findClass]; exact q7, q8, fun j hj => by have := q9 j hj; rwa [Nat.zero_add] at this⟩, fun O n d w F n1 n2 => ?_⟩, hl, hc, hs⟩, st⟩
  · intro y hy
    simp only [List.mem_cons, List.not_mem_nil, or_false] at hy
    rcases hy with rfl | rfl <;> rfl
  · by_cases q : y = x
    · subst q
      cases hD.symm.trans hy
      exact ⟨E', q1.1, q2.2.1, q2.1, hsz⟩
    · exact ⟨cy, q10 y cy q hy, rfl, rfl, rfl⟩
  · obtain ⟨D3, cf, k, i, f, g1, g2, g3, g4, g5, g6, g7⟩ := F
    cases hD.symm.trans g1
    simp only [RoadKit.slotOf, g2, gV, gC, Option.map_some, Option.getD_some] at n1 n2
    exact ⟨E', cf, k, i, f, q1.1, g2, g3, by rw [q2.1]; exact g4, by rw [q2.1]; exact g5, by rw [q2.2.1]; exact g6, by rw [q2.2.2 f.slot (by simp [n1, n2])]; exact g7⟩
end StrChars.Road
namespace StrChars.Road
open Jvm Sem ClassFile Op Lib Jvm.Stand Jvm.Free Jvm.Free.XT
/-- WHAT COMES BACK, the byte[] as a list of values -/
def QA (Z : State) (x : Addr) (zn : Int32) (cs : List Int32) (h : Heap) (v : Option Value) (h' : Heap) (L : List Loc) : Prop := v = none ∧ (∀ y ∈ L, y.base = x) ∧ RoadKit.Keep h h' [x] ∧ h'.size = h.size + 1 ∧ RoadKit.Exa Z h' x ST ∧ RoadKit.Fld Z h' x ST "value" "[B" (.ref h.size) ∧ RoadKit.Fld Z h' x ST "coder" "B" (.int 0) ∧
  (∃ kb, Z.vm.findClass "[B" = some kb ∧ RoadKit.Arv Z h' h.size kb .byte zn (cs.map fun c => .int (lo8 c)) (.int 0)) ∧
  ∀ (O n d : String) (w : Value), RoadKit.Fld Z h x O n d w → RoadKit.slotOf Z O n d ≠ RoadKit.slotOf Z ST "value" "[B" → RoadKit.slotOf Z O n d ≠ RoadKit.slotOf Z ST "coder" "B" → RoadKit.Fld Z h' x O n d w
/-- **new String(chars) AT A CALL, THE ARRAYS AS LISTS**: the char[] at b holds cs, not empty, no char above 255 -/
theorem backArv {p : Program} {l : Launch} {e : Env} {R : Room} {s : State} {args : Array Value} {below : List Frame} {len W : Nat} {Z : State} {a0 : Array Value} {h : Heap} (hZ : Z.Warmed39 s.vm) (hw : ∀ d ∈ words, d.before a0 Z = true) {kI : Nat} (wi : (Jvm.Cond.instantiable ST kI).before a0 Z = true)
    {x b : Addr} {k : ClassId} {zn z : Int32} {cs : List Int32} {dv v0 c0 : Value} (E : RoadKit.Exa Z h x ST) (V : RoadKit.Fld Z h x ST "value" "[B" v0) (C : RoadKit.Fld Z h x ST "coder" "B" c0) (K : RoadKit.Arv Z h b k .char zn (cs.map Value.int) dv) (S : RoadKit.Sta Z h ST "COMPACT_STRINGS" "Z" (.int z)) (hz : ¬ z = 0)
    (hlen : zn.toNatClampNeg = cs.length) (h0 : 0 < cs.length) (hbig : cs.length ≤ 536870912) (hall : ∀ c ∈ cs, ¬ 255 < c) (hfr : 4 ≤ R.frames) (hlo : W + 65 ≤ R.locals) :
    Back l R p e below s args New1.yN len W (fun P a => a = #[.ref x, .ref b] ∧ P.U.heap = h ∧ P.cells + 1 ≤ R.cells ∧ P.slots + cs.length ≤ R.slots)
      (fun P _ v B => ∃ L, QA Z x zn cs h v B.U.heap L ∧ B.locs = P.locs ++ L ∧ B.cells = P.cells + 1 ∧ B.slots = P.slots + cs.length) := by
  obtain ⟨A, K1, K2, K3, K4, K5, K6⟩ := K
  have e : A.slots.size = cs.length := K3.trans hlen
  have hat : ∀ (i : Nat) (hi : i < cs.length), A.slots[i]? = some (.int cs[i]) := fun i hi => by rw [K5 i (by omega)]; simp [List.getD_eq_getElem?_getD, hi]
  have hcv : ∀ (i : Nat) (hi : i < cs.length), cv A i = cs[i] := fun i hi => by unfold cv; rw [hat i hi]
  have hty : Typed .char A := fun i v hv => by
    have hi : i < A.slots.size := (Array.getElem?_eq_some_iff.mp hv).1
    have q := K5 i hi
    rw [hv] at q
    rw [Option.some.inj q]
    exact K6 i hi
  refine Back.mono (back hZ hw wi E V C K1 hty S hz (by omega) (by omega) (fun i hi => by rw [hcv i (by omega)]; exact hall _ (List.getElem_mem _)) hfr hlo) (fun P a hp => ⟨hp.1, hp.2.1, hp.2.2.1, by rw [e]; exact hp.2.2.2⟩) (fun P a v B hp hq => ?_)
  obtain ⟨L, ⟨q1, q2, q3, q4, q5, q6, q7, ⟨V', v1, v2, v3, v4, v5⟩, q9⟩, hl, hc, hs⟩ := hq
  refine ⟨L, ⟨q1, q2, q3, q4, q5, q6, q7, ⟨V'.cls, v3, V', v1, rfl, by rw [v4, e, hlen], K4, fun i hi => ?_, fun i hi => ?_⟩, q9⟩, hl, hc, by rw [hs, e]⟩
  · have hi' : i < cs.length := by omega
    rw [v5 i (by omega), hcv i hi']; simp [List.getD_eq_getElem?_getD, hi']
  · have hi' : i < cs.length := by omega
    simp only [List.getD_eq_getElem?_getD, List.getElem?_map, List.getElem?_eq_getElem hi', Option.map_some, Option.getD_some]
    exact fits_lo8 _
end StrChars.Road
namespace StrChars.Road
open Jvm Sem ClassFile Op Lib Jvm.Stand Jvm.Free Jvm.Free.XT
/-- WHAT COMES BACK, in the writer's own shape -/
def QV (Z : State) (x : Addr) (N : Int32) (bs : List Int32) (h : Heap) (n0 : Nat) (v : Option Value) (h' : Heap) (L : List Loc) : Prop := v = none ∧ RoadKit.Fr n0 L ∧ RoadKit.Keep h h' [x] ∧ RoadKit.Exa Z h' x ST ∧ RoadKit.Fld Z h' x ST "coder" "B" (.int 0) ∧
  ∃ (t : Addr) (kb : ClassId), n0 ≤ t ∧ h.size ≤ t ∧ ¬ t = x ∧ RoadKit.Fld Z h' x ST "value" "[B" (.ref t) ∧ RoadKit.Arv Z h' t kb .byte N (bs.map Value.int) (.int 0)
/-- **new String(chars) AT A CALL, FOR THE WRITER**: a char[] of n known ints, each 0 to 255 -/
theorem backV {p : Program} {l : Launch} {e : Env} {R : Room} {s : State} {args : Array Value} {below : List Frame} {len W : Nat} {Z : State} {a0 : Array Value} {h : Heap} (hZ : Z.Warmed39 s.vm) (hw : ∀ d ∈ words, d.before a0 Z = true) {kI : Nat} (wi : (Jvm.Cond.instantiable ST kI).before a0 Z = true)
    {x b : Addr} {kC : ClassId} {cs bs : List Int32} {d v0 c0 : Value} {z N : Int32} {n n0 : Nat} (hx0 : n0 ≤ x) (hh0 : n0 ≤ h.size) (E : RoadKit.Exa Z h x ST) (V : RoadKit.Fld Z h x ST "value" "[B" v0) (C : RoadKit.Fld Z h x ST "coder" "B" c0) (K : RoadKit.Arv Z h b kC .char N (cs.map Value.int) d) (S : RoadKit.Sta Z h ST "COMPACT_STRINGS" "Z" (.int z)) (hz : ¬ z = 0)
    (hn : cs.length = n) (hN : N = Int32.ofNat n) (l0 : 0 < n) (l2 : n ≤ 4000) (hp : ∀ c ∈ cs, ¬ c < 0 ∧ ¬ (255 : Int32) < c) (hb : bs = cs.map (fun c => c.toInt8.toInt32)) (hfr : 4 ≤ R.frames) (hlo : W + 65 ≤ R.locals) :
    Back l R p e below s args (⟨"java/lang/String", "<init>", "([C)V"⟩ : MethodName) len W (fun P a => a = #[.ref x, .ref b] ∧ P.U.heap = h ∧ P.cells + 1 ≤ R.cells ∧ P.slots + n ≤ R.slots)
      (fun P _ v B => ∃ L, QV Z x N bs h n0 v B.U.heap L ∧ B.locs = P.locs ++ L ∧ B.cells = P.cells + 1 ∧ B.slots = P.slots + n) := by
  subst hn hN hb
  refine Back.mono (backArv hZ hw wi E V C K S hz (n32 (by omega)) l0 (by omega) (fun c hc => (hp c hc).2) hfr hlo) (fun P a hp => hp) (fun P a v B hp hq => ?_)
  obtain ⟨L, ⟨q1, q2, q3, q4, q5, q6, q7, ⟨kb, v1, v2⟩, q9⟩, hl, hc, hs⟩ := hq
  exact ⟨L, ⟨q1, fun y hy => by rw [q2 y hy]; exact hx0, q3, q5, q7, h.size, kb, hh0, Nat.le_refl _, Nat.ne_of_gt E.lt, q6, by rw [List.map_map]; exact v2⟩, hl, hc, hs⟩
end StrChars.Road
end Jvm.Pilot.@@N@@
namespace Jvm.Pilot.@@N@@
open Jvm Jvm.ClassFile Sem Op Lib Jvm.Free Jvm.Stand Jvm.LawKit Jvm.RoadKit Bundle Jvm.Pilot.@@N@@.Jvm.D
section Own
variable {p : Program} {l : Launch} {e : Env} {R : Room} {s : State} {m : MethodId} {args : Array Value} {below : List Frame} {meth : Method} {c : Code} {T : State} {locs : List Loc} {cells slots : Nat} {Z : State} {h h' h2 : Heap}
theorem own_cR (a : Addr) : (Value.ref a).category = 1 := rfl
theorem own_cI (x : Int32) : (Value.int x).category = 1 := rfl
theorem own_cN : Value.null.category = 1 := rfl
theorem own_cJ (x : Int64) : (Value.long x).category = 2 := rfl
/-- from U the walk comes to its end, where P holds -/
def Ends (tb : Tables) (e : Env) (below : List Frame) (P : Outcome → State → Prop) (U : State) : Prop := ∃ s₂ o, Steps tb e below U s₂ ∧ s₂.status = .running ∧ Ended s₂ below o ∧ P o s₂
theorem Ends.step {tb : Tables} {P : Outcome → State → Prop} {U U' : State} (k : ∀ t, Steps tb e below U' t → Steps tb e below U t) (h : Ends tb e below P U') : Ends tb e below P U := by
  obtain ⟨t, o, a, r⟩ := h; exact ⟨t, o, k t a, r⟩
theorem Ends.go {tb : Tables} {P : Outcome → State → Prop} {U U' : State} (k : Steps tb e below U U') (h : Ends tb e below P U') : Ends tb e below P U := Ends.step (fun _ q => k.trans q) h
theorem own_mono (X : Stand p l e R s m args below meth c T locs cells slots) {cells' slots' : Nat} (h1 : cells ≤ cells') (h2 : slots ≤ slots') : Stand p l e R s m args below meth c T locs cells' slots' := { X with same := X.same.mono h1 h2 }
theorem own_end {Q : Option Value → Heap → List Loc → Prop} {K N : Nat} {v : Option Value} {g : JFrame} (X : Stand p l e R s m args below meth c T locs cells slots) (hlk : meth.locks = false) (hv : meth.sig.returnType = none → v = none)
    (st : ∀ fs : List Frame, (∀ (f : JFrame) (acts : List Action), f.method = m → f.locked = none → f.entered = [] → (doReturn e (T.setTop f) acts v).1 = T.setFrames fs) → Steps p.tables e below (T.setTop g) (T.setFrames fs))
    (eT : T.heap = h) (hQ : Q v h locs) (hk : cells ≤ K) (hn : slots ≤ N) : Ends p.tables e below (fun o U => ∃ v L, o = .returned v ∧ Q v U.heap L ∧ FrameEnd s o U L K N) (T.setTop g) := by
  obtain ⟨fs, hr, hrun, hended, hW, hsame⟩ := X.leave (v := v) hv hlk
  refine ⟨_, _, st fs hr, hrun, hended, v, locs, rfl, ?_, ⟨_, rfl⟩, hW, hsame.mono hk hn⟩
  show Q v T.heap locs
  rw [eT]; exact hQ
theorem own_finV {Q : Option Value → Heap → List Loc → Prop} {K N : Nat} (X : Stand p l e R s m args below meth c T locs cells slots) (hx : p.tables.exec = Jvm.exec) (hlk : meth.locks = false) (hret : meth.sig.returnType = none) {pc : Nat} {Ls : Array Slot} (hd : decode c.code pc = .ok (.return_, 1)) (eT : T.heap = h) (hQ : Q none h locs) (hk : cells ≤ K) (hn : slots ≤ N) :
    Ends p.tables e below (fun o U => ∃ v L, o = .returned v ∧ Q v U.heap L ∧ FrameEnd s o U L K N) (T.setTop (mkF m pc Ls [])) := own_end X hlk (fun _ => rfl) (fun _ hr => X.returnOut hx hret hd hr) eT hQ hk hn
theorem own_finR {Q : Option Value → Heap → List Loc → Prop} {K N : Nat} (X : Stand p l e R s m args below meth c T locs cells slots) (hx : p.tables.exec = Jvm.exec) (hlk : meth.locks = false) {t : FieldType} (hret : meth.sig.returnType = some t) (ht : t.isReference = true) {w : Value} (hw : w.isRef = true) {pc : Nat} {Ls : Array Slot} {rest : List Value} (hd : decode c.code pc = .ok (.areturn, 1)) (eT : T.heap = h) (hQ : Q (some w) h locs) (hk : cells ≤ K) (hn : slots ≤ N) :
    Ends p.tables e below (fun o U => ∃ v L, o = .returned v ∧ Q v U.heap L ∧ FrameEnd s o U L K N) (T.setTop (mkF m pc Ls (w :: rest))) :=
  own_end X hlk (fun q => by rw [hret] at q; cases q) (fun _ hr => retOut X hx hret (by rcases ref_cases hw with rfl | ⟨a, rfl⟩ <;> cases t <;> first | rfl | (exact absurd ht (by decide))) (Or.inr (Or.inr (Or.inr (Or.inr ⟨rfl, ht, hw⟩)))) hd hr) eT hQ hk hn
theorem own_finJ {Q : Option Value → Heap → List Loc → Prop} {K N : Nat} (X : Stand p l e R s m args below meth c T locs cells slots) (hx : p.tables.exec = Jvm.exec) (hlk : meth.locks = false) (hret : meth.sig.returnType = some .long) {w : Int64} {pc : Nat} {Ls : Array Slot} {rest : List Value} (hd : decode c.code pc = .ok (.lreturn, 1)) (eT : T.heap = h) (hQ : Q (some (.long w)) h locs) (hk : cells ≤ K) (hn : slots ≤ N) :
    Ends p.tables e below (fun o U => ∃ v L, o = .returned v ∧ Q v U.heap L ∧ FrameEnd s o U L K N) (T.setTop (mkF m pc Ls (.long w :: rest))) :=
  own_end X hlk (fun q => by rw [hret] at q; cases q) (fun _ hr => retOut X hx hret rfl (Or.inr (Or.inl ⟨rfl, rfl, w, rfl⟩)) hd hr) eT hQ hk hn
theorem own_finI {Q : Option Value → Heap → List Loc → Prop} {K N : Nat} (X : Stand p l e R s m args below meth c T locs cells slots) (hx : p.tables.exec = Jvm.exec) (hlk : meth.locks = false) {t : FieldType} (hret : meth.sig.returnType = some t) (ht : t = .int ∨ t = .boolean ∨ t = .byte ∨ t = .char ∨ t = .short) {w : Int32} (hnr : narrow t (.int w) = .int w) {pc : Nat} {Ls : Array Slot} {rest : List Value} (hd : decode c.code pc = .ok (.ireturn, 1)) (eT : T.heap = h) (hQ : Q (some (.int w)) h locs) (hk : cells ≤ K) (hn : slots ≤ N) :
    Ends p.tables e below (fun o U => ∃ v L, o = .returned v ∧ Q v U.heap L ∧ FrameEnd s o U L K N) (T.setTop (mkF m pc Ls (.int w :: rest))) :=
  own_end X hlk (fun q => by rw [hret] at q; cases q) (fun _ hr => retOut X hx hret hnr (Or.inl ⟨rfl, ht, w, rfl⟩) hd hr) eT hQ hk hn
theorem own_narrow_ref {v : Value} {t : FieldType} (h : v.isRef = true) (ht : t.isReference = true) : narrow t v = v := by
  rcases ref_cases h with rfl | ⟨a, rfl⟩ <;> cases t <;> first | rfl | (exact absurd ht (by decide))
theorem own_fits_ref {v : Value} {t : FieldType} (h : v.isRef = true) (ht : t.isReference = true) : fits t v = true := by
  rcases ref_cases h with rfl | ⟨a, rfl⟩ <;> cases t <;> first | rfl | (exact absurd ht (by decide))
theorem own_narZ {z : Int32} (h : z = (0 : Int32) ∨ z = (1 : Int32)) : narrow .boolean (.int z) = .int z := by rcases h with rfl | rfl <;> rfl
theorem own_and255 (x : Int32) : ¬ nar .char ((x &&& (255 : Int32)).toUInt32.toUInt16.toUInt32.toInt32) < 0 ∧ ¬ (255 : Int32) < nar .char ((x &&& (255 : Int32)).toUInt32.toUInt16.toUInt32.toInt32) := by
  have t : ∀ k : Fin 256, ¬ nar .char ((Int32.ofNat k.val).toUInt32.toUInt16.toUInt32.toInt32) < 0 ∧ ¬ (255 : Int32) < nar .char ((Int32.ofNat k.val).toUInt32.toUInt16.toUInt32.toInt32) := by decide +kernel
  have h : (x &&& 255).toBitVec.toNat < 256 := by
    simp only [Int32.toBitVec_and, BitVec.toNat_and]
    exact Nat.lt_succ_of_le Nat.and_le_right
  have e : (x &&& 255) = Int32.ofNat (x &&& 255).toBitVec.toNat := by
    apply Int32.toBitVec_inj.mp
    show _ = BitVec.ofNat 32 _
    rw [BitVec.ofNat_toNat]; simp
  rw [e]
  exact t ⟨_, h⟩
theorem own_c255 (x : Int32) : ¬ ((x &&& (255 : Int32)).toUInt32.toUInt16.toUInt32.toInt32) < 0 ∧ ¬ (255 : Int32) < ((x &&& (255 : Int32)).toUInt32.toUInt16.toUInt32.toInt32) := by
  have t : ∀ k : Fin 256, ¬ ((Int32.ofNat k.val).toUInt32.toUInt16.toUInt32.toInt32) < 0 ∧ ¬ (255 : Int32) < ((Int32.ofNat k.val).toUInt32.toUInt16.toUInt32.toInt32) := by decide +kernel
  have h : (x &&& 255).toBitVec.toNat < 256 := by
    simp only [Int32.toBitVec_and, BitVec.toNat_and]
    exact Nat.lt_succ_of_le Nat.and_le_right
  have e : (x &&& 255) = Int32.ofNat (x &&& 255).toBitVec.toNat := by
    apply Int32.toBitVec_inj.mp
    show _ = BitVec.ofNat 32 _
    rw [BitVec.ofNat_toNat]; simp
  rw [e]
  exact t ⟨_, h⟩
theorem own_up (cs : List Int32) (h : ∀ c ∈ cs, ¬ c < 0 ∧ ¬ (255 : Int32) < c) : ∀ c ∈ cs, ¬ c < 0 ∧ ¬ (65535 : Int32) < c := fun c hc => ⟨(h c hc).1, fun q => (h c hc).2 (by rw [Int32.lt_iff_toInt_lt] at q ⊢; have e1 : (65535 : Int32).toInt = 65535 := rfl; have e2 : (255 : Int32).toInt = 255 := rfl; omega)⟩
/-- a reference of class C, or null -/
def Nul (Z : State) (h : Heap) (v : Value) (C : String) : Prop := v = .null ∨ ∃ a, v = .ref a ∧ Exa Z h a C
theorem Nul.keep {v : Value} {C : String} {ws : List Addr} (F : Nul Z h v C) (K : Keep h h' ws) : Nul Z h' v C := F.imp id fun ⟨a, e, E⟩ => ⟨a, e, E.keep K⟩
theorem Nul.ext {v : Value} {C : String} (F : Nul Z h v C) (E : Ext h h') : Nul Z h' v C := F.imp id fun ⟨a, e, A⟩ => ⟨a, e, A.ext E⟩
theorem Nul.wr {v w : Value} {C : String} {a : Addr} {sl : Nat} (F : Nul Z h v C) (W : Wr h h' a sl w) : Nul Z h' v C := F.imp id fun ⟨a, e, A⟩ => ⟨a, e, A.wr W⟩
theorem Nul.ref {v : Value} {C : String} (F : Nul Z h v C) : v.isRef = true := by rcases F with rfl | ⟨a, rfl, -⟩ <;> rfl
theorem own_castN {a0 : Array Value} (X : Stand p l e R s m args below meth c T locs cells slots) (hx : p.tables.exec = Jvm.exec) (hZ : Z.Warmed39 s.vm) {own K : String} {index : Nat} (hown : s.vm.findClass own = some m.cls) (w : (Jvm.Cond.classLink own index K).before a0 Z = true) (eT : T.heap = h) {v : Value} (F : Nul Z h v K)
    {g : JFrame} (hg : g.method = m) {rest : List Value} (hs : g.stack = v :: rest) (hd : decode c.code g.pc = .ok (.checkcast index, 3)) : ∃ T', Stand p l e R s m args below meth c T' locs cells slots ∧ T'.heap = h ∧ ∀ target, Steps p.tables e below (T'.setTop { g with pc := g.pc + 3 }) target → Steps p.tables e below (T.setTop g) target := by
  rcases F with rfl | ⟨a, rfl, E⟩
  · exact ⟨T, X, eT, X.checkcastNull hx hg hs hd⟩
  · exact castY X hx hZ hown w eT (Ins.self E) hg hs hd
theorem own_alen (X : Stand p l e R s m args below meth c T locs cells slots) (hx : p.tables.exec = Jvm.exec) (hZ : Z.Warmed39 s.vm) (eT : T.heap = h) {a : Addr} {cl : Cell} {ty : FieldType} (A : Arr Z h a cl ty) {z : Int32} (hz : cl.slots.size.toInt32 = z) {g : JFrame} (hg : g.method = m) {rest : List Value} (hs : g.stack = .ref a :: rest) (hd : decode c.code g.pc = .ok (.arraylength, 1))
    {target : State} (k : Steps p.tables e below (T.setTop { g with pc := g.pc + 1, stack := .int z :: rest }) target) : Steps p.tables e below (T.setTop g) target := by
  subst hz
  exact X.arraylength hx (by rw [eT]; exact A.1) (State.isArrayOf_alike hZ.alike A.2.1) hg hs hd _ k
end Own
theorem own_hws {Z : State} {a0 : Array Value} (hw : ∀ d ∈ tables_1, d.before a0 Z = true) : ∀ d ∈ StrChars.Road.words, d.before a0 Z = true := fun d hd => hw d ((by decide +kernel : ∀ d ∈ StrChars.Road.words, d ∈ tables_1) d hd)
theorem d_jdk_32_method_2_code_0 : decode jdk_32_method_2_code 0 = .ok (.aload_n 0, 1) := by decide +kernel
theorem d_jdk_32_method_2_code_1 : decode jdk_32_method_2_code 1 = .ok (.invokespecial 7, 3) := by decide +kernel
theorem d_jdk_32_method_2_code_4 : decode jdk_32_method_2_code 4 = .ok (.aload_n 0, 1) := by decide +kernel
theorem d_jdk_32_method_2_code_5 : decode jdk_32_method_2_code 5 = .ok (.aload_n 1, 1) := by decide +kernel
theorem d_jdk_32_method_2_code_6 : decode jdk_32_method_2_code 6 = .ok (.putfield 13, 3) := by decide +kernel
theorem d_jdk_32_method_2_code_9 : decode jdk_32_method_2_code 9 = .ok (.return_, 1) := by decide +kernel
theorem pn_java_util_Optional : plainName "java/util/Optional" = true := by first | (simp [plainName, overriddenIn]; done) | decide +kernel
theorem d_jdk_32_method_1_code_0 : decode jdk_32_method_1_code 0 = .ok (.getstatic 1, 3) := by decide +kernel
theorem d_jdk_32_method_1_code_3 : decode jdk_32_method_1_code 3 = .ok (.astore_n 0, 1) := by decide +kernel
theorem d_jdk_32_method_1_code_4 : decode jdk_32_method_1_code 4 = .ok (.aload_n 0, 1) := by decide +kernel
theorem d_jdk_32_method_1_code_5 : decode jdk_32_method_1_code 5 = .ok (.areturn, 1) := by decide +kernel
theorem d_jdk_31_method_10_code_0 : decode jdk_31_method_10_code 0 = .ok (.aload_n 0, 1) := by decide +kernel
theorem d_jdk_31_method_10_code_1 : decode jdk_31_method_10_code 1 = .ok (.ifnonnull 11, 3) := by decide +kernel
theorem d_jdk_31_method_10_code_12 : decode jdk_31_method_10_code 12 = .ok (.aload_n 0, 1) := by decide +kernel
theorem d_jdk_31_method_10_code_13 : decode jdk_31_method_10_code 13 = .ok (.areturn, 1) := by decide +kernel
theorem pn_java_util_Objects : plainName "java/util/Objects" = true := by first | (simp [plainName, overriddenIn]; done) | decide +kernel
theorem d_jdk_32_method_3_code_0 : decode jdk_32_method_3_code 0 = .ok (.new 2, 3) := by decide +kernel
theorem d_jdk_32_method_3_code_3 : decode jdk_32_method_3_code 3 = .ok (.dup, 1) := by decide +kernel
theorem d_jdk_32_method_3_code_4 : decode jdk_32_method_3_code 4 = .ok (.aload_n 0, 1) := by decide +kernel
theorem d_jdk_32_method_3_code_5 : decode jdk_32_method_3_code 5 = .ok (.invokestatic 17, 3) := by decide +kernel
theorem pd_0 : parseMethodDescriptor "(Ljava/lang/Object;)Ljava/lang/Object;" = some ⟨[(.object "java/lang/Object")], some (.object "java/lang/Object")⟩ := by decide +kernel
theorem d_jdk_32_method_3_code_8 : decode jdk_32_method_3_code 8 = .ok (.invokespecial 23, 3) := by decide +kernel
theorem pd_1 : parseMethodDescriptor "(Ljava/lang/Object;)V" = some ⟨[(.object "java/lang/Object")], none⟩ := by decide +kernel
theorem d_jdk_32_method_3_code_11 : decode jdk_32_method_3_code 11 = .ok (.areturn, 1) := by decide +kernel
theorem d_jdk_32_method_6_code_0 : decode jdk_32_method_6_code 0 = .ok (.aload_n 0, 1) := by decide +kernel
theorem d_jdk_32_method_6_code_1 : decode jdk_32_method_6_code 1 = .ok (.getfield 13, 3) := by decide +kernel
theorem d_jdk_32_method_6_code_4 : decode jdk_32_method_6_code 4 = .ok (.ifnull 7, 3) := by decide +kernel
theorem d_jdk_32_method_6_code_11 : decode jdk_32_method_6_code 11 = .ok (.iconst 0, 1) := by decide +kernel
theorem d_jdk_32_method_6_code_12 : decode jdk_32_method_6_code 12 = .ok (.ireturn, 1) := by decide +kernel
theorem d_jdk_32_method_6_code_7 : decode jdk_32_method_6_code 7 = .ok (.iconst 1, 1) := by decide +kernel
theorem d_jdk_32_method_6_code_8 : decode jdk_32_method_6_code 8 = .ok (.goto 4, 3) := by decide +kernel
theorem d_jdk_32_method_7_code_0 : decode jdk_32_method_7_code 0 = .ok (.aload_n 0, 1) := by decide +kernel
theorem d_jdk_32_method_7_code_1 : decode jdk_32_method_7_code 1 = .ok (.getfield 13, 3) := by decide +kernel
theorem d_jdk_32_method_7_code_4 : decode jdk_32_method_7_code 4 = .ok (.ifnonnull 7, 3) := by decide +kernel
theorem d_jdk_32_method_7_code_7 : decode jdk_32_method_7_code 7 = .ok (.iconst 1, 1) := by decide +kernel
theorem d_jdk_32_method_7_code_8 : decode jdk_32_method_7_code 8 = .ok (.goto 4, 3) := by decide +kernel
theorem d_jdk_32_method_7_code_12 : decode jdk_32_method_7_code 12 = .ok (.ireturn, 1) := by decide +kernel
theorem d_jdk_32_method_7_code_11 : decode jdk_32_method_7_code 11 = .ok (.iconst 0, 1) := by decide +kernel
theorem d_jdk_32_method_5_code_0 : decode jdk_32_method_5_code 0 = .ok (.aload_n 0, 1) := by decide +kernel
theorem d_jdk_32_method_5_code_1 : decode jdk_32_method_5_code 1 = .ok (.getfield 13, 3) := by decide +kernel
theorem d_jdk_32_method_5_code_4 : decode jdk_32_method_5_code 4 = .ok (.ifnonnull 13, 3) := by decide +kernel
theorem d_jdk_32_method_5_code_17 : decode jdk_32_method_5_code 17 = .ok (.aload_n 0, 1) := by decide +kernel
theorem d_jdk_32_method_5_code_18 : decode jdk_32_method_5_code 18 = .ok (.getfield 13, 3) := by decide +kernel
theorem d_jdk_32_method_5_code_21 : decode jdk_32_method_5_code 21 = .ok (.areturn, 1) := by decide +kernel
theorem d_jdk_30_method_1_code_0 : decode jdk_30_method_1_code 0 = .ok (.aload_n 0, 1) := by decide +kernel
theorem d_jdk_30_method_1_code_1 : decode jdk_30_method_1_code 1 = .ok (.invokespecial 1, 3) := by decide +kernel
theorem d_jdk_30_method_1_code_4 : decode jdk_30_method_1_code 4 = .ok (.return_, 1) := by decide +kernel
theorem pn_java_lang_Record : plainName "java/lang/Record" = true := by first | (simp [plainName, overriddenIn]; done) | decide +kernel
theorem d_prog_8_method_1_code_0 : decode prog_8_method_1_code 0 = .ok (.aload_n 0, 1) := by decide +kernel
theorem d_prog_8_method_1_code_1 : decode prog_8_method_1_code 1 = .ok (.invokespecial 1, 3) := by decide +kernel
theorem d_prog_8_method_1_code_4 : decode prog_8_method_1_code 4 = .ok (.aload_n 0, 1) := by decide +kernel
theorem d_prog_8_method_1_code_5 : decode prog_8_method_1_code 5 = .ok (.aload_n 1, 1) := by decide +kernel
theorem d_prog_8_method_1_code_6 : decode prog_8_method_1_code 6 = .ok (.putfield 7, 3) := by decide +kernel
theorem d_prog_8_method_1_code_9 : decode prog_8_method_1_code 9 = .ok (.aload_n 0, 1) := by decide +kernel
theorem d_prog_8_method_1_code_10 : decode prog_8_method_1_code 10 = .ok (.aload_n 2, 1) := by decide +kernel
theorem d_prog_8_method_1_code_11 : decode prog_8_method_1_code 11 = .ok (.putfield 13, 3) := by decide +kernel
theorem sn_com_example_miki_basin_mikibasin_Figure_value__number {Z : State} {a0 : Array Value} (hw : ∀ d ∈ tables_1, d.before a0 Z = true) : Jvm.RoadKit.slotOf Z "com/example/miki_basin/mikibasin/Figure" "value" "Lcom/example/miki_basin/mikibasin/Rational;" ≠ Jvm.RoadKit.slotOf Z "com/example/miki_basin/mikibasin/Figure" "number" "Ljava/math/BigDecimal;" := slot_ne (Or.inr (hw _ (List.mem_of_getElem? (i := 43) rfl))) (Or.inr (hw _ (List.mem_of_getElem? (i := 41) rfl))) (by decide) (t := (.object "com/example/miki_basin/mikibasin/Rational")) (t' := (.object "java/math/BigDecimal")) (by decide) (by decide)
theorem d_prog_8_method_1_code_14 : decode prog_8_method_1_code 14 = .ok (.aload_n 0, 1) := by decide +kernel
theorem d_prog_8_method_1_code_15 : decode prog_8_method_1_code 15 = .ok (.aload_n 3, 1) := by decide +kernel
theorem d_prog_8_method_1_code_16 : decode prog_8_method_1_code 16 = .ok (.putfield 17, 3) := by decide +kernel
theorem sn_com_example_miki_basin_mikibasin_Figure_formula__number {Z : State} {a0 : Array Value} (hw : ∀ d ∈ tables_1, d.before a0 Z = true) : Jvm.RoadKit.slotOf Z "com/example/miki_basin/mikibasin/Figure" "formula" "Lcom/example/miki_basin/mikibasin/Formula;" ≠ Jvm.RoadKit.slotOf Z "com/example/miki_basin/mikibasin/Figure" "number" "Ljava/math/BigDecimal;" := slot_ne (Or.inr (hw _ (List.mem_of_getElem? (i := 45) rfl))) (Or.inr (hw _ (List.mem_of_getElem? (i := 41) rfl))) (by decide) (t := (.object "com/example/miki_basin/mikibasin/Formula")) (t' := (.object "java/math/BigDecimal")) (by decide) (by decide)
theorem sn_com_example_miki_basin_mikibasin_Figure_formula__value {Z : State} {a0 : Array Value} (hw : ∀ d ∈ tables_1, d.before a0 Z = true) : Jvm.RoadKit.slotOf Z "com/example/miki_basin/mikibasin/Figure" "formula" "Lcom/example/miki_basin/mikibasin/Formula;" ≠ Jvm.RoadKit.slotOf Z "com/example/miki_basin/mikibasin/Figure" "value" "Lcom/example/miki_basin/mikibasin/Rational;" := slot_ne (Or.inr (hw _ (List.mem_of_getElem? (i := 45) rfl))) (Or.inr (hw _ (List.mem_of_getElem? (i := 43) rfl))) (by decide) (t := (.object "com/example/miki_basin/mikibasin/Formula")) (t' := (.object "com/example/miki_basin/mikibasin/Rational")) (by decide) (by decide)
theorem d_prog_8_method_1_code_19 : decode prog_8_method_1_code 19 = .ok (.return_, 1) := by decide +kernel
theorem sn_com_example_miki_basin_mikibasin_Figure_number__value {Z : State} {a0 : Array Value} (hw : ∀ d ∈ tables_1, d.before a0 Z = true) : Jvm.RoadKit.slotOf Z "com/example/miki_basin/mikibasin/Figure" "number" "Ljava/math/BigDecimal;" ≠ Jvm.RoadKit.slotOf Z "com/example/miki_basin/mikibasin/Figure" "value" "Lcom/example/miki_basin/mikibasin/Rational;" := slot_ne (Or.inr (hw _ (List.mem_of_getElem? (i := 41) rfl))) (Or.inr (hw _ (List.mem_of_getElem? (i := 43) rfl))) (by decide) (t := (.object "java/math/BigDecimal")) (t' := (.object "com/example/miki_basin/mikibasin/Rational")) (by decide) (by decide)
theorem sn_com_example_miki_basin_mikibasin_Figure_number__formula {Z : State} {a0 : Array Value} (hw : ∀ d ∈ tables_1, d.before a0 Z = true) : Jvm.RoadKit.slotOf Z "com/example/miki_basin/mikibasin/Figure" "number" "Ljava/math/BigDecimal;" ≠ Jvm.RoadKit.slotOf Z "com/example/miki_basin/mikibasin/Figure" "formula" "Lcom/example/miki_basin/mikibasin/Formula;" := slot_ne (Or.inr (hw _ (List.mem_of_getElem? (i := 41) rfl))) (Or.inr (hw _ (List.mem_of_getElem? (i := 45) rfl))) (by decide) (t := (.object "java/math/BigDecimal")) (t' := (.object "com/example/miki_basin/mikibasin/Formula")) (by decide) (by decide)
theorem sn_com_example_miki_basin_mikibasin_Figure_value__formula {Z : State} {a0 : Array Value} (hw : ∀ d ∈ tables_1, d.before a0 Z = true) : Jvm.RoadKit.slotOf Z "com/example/miki_basin/mikibasin/Figure" "value" "Lcom/example/miki_basin/mikibasin/Rational;" ≠ Jvm.RoadKit.slotOf Z "com/example/miki_basin/mikibasin/Figure" "formula" "Lcom/example/miki_basin/mikibasin/Formula;" := slot_ne (Or.inr (hw _ (List.mem_of_getElem? (i := 43) rfl))) (Or.inr (hw _ (List.mem_of_getElem? (i := 45) rfl))) (by decide) (t := (.object "com/example/miki_basin/mikibasin/Rational")) (t' := (.object "com/example/miki_basin/mikibasin/Formula")) (by decide) (by decide)
theorem pn_com_example_miki_basin_mikibasin_Figure : plainName "com/example/miki_basin/mikibasin/Figure" = true := by first | (simp [plainName, overriddenIn]; done) | decide +kernel
theorem d_prog_8_method_6_code_0 : decode prog_8_method_6_code 0 = .ok (.new 8, 3) := by decide +kernel
theorem d_prog_8_method_6_code_3 : decode prog_8_method_6_code 3 = .ok (.dup, 1) := by decide +kernel
theorem d_prog_8_method_6_code_4 : decode prog_8_method_6_code 4 = .ok (.aconst_null, 1) := by decide +kernel
theorem d_prog_8_method_6_code_5 : decode prog_8_method_6_code 5 = .ok (.aconst_null, 1) := by decide +kernel
theorem d_prog_8_method_6_code_6 : decode prog_8_method_6_code 6 = .ok (.aconst_null, 1) := by decide +kernel
theorem d_prog_8_method_6_code_7 : decode prog_8_method_6_code 7 = .ok (.invokespecial 27, 3) := by decide +kernel
theorem pd_2 : parseMethodDescriptor "(Ljava/math/BigDecimal;Lcom/example/miki_basin/mikibasin/Rational;Lcom/example/miki_basin/mikibasin/Formula;)V" = some ⟨[(.object "java/math/BigDecimal"), (.object "com/example/miki_basin/mikibasin/Rational"), (.object "com/example/miki_basin/mikibasin/Formula")], none⟩ := by decide +kernel
theorem d_prog_8_method_6_code_10 : decode prog_8_method_6_code 10 = .ok (.areturn, 1) := by decide +kernel
theorem d_prog_8_method_5_code_0 : decode prog_8_method_5_code 0 = .ok (.new 8, 3) := by decide +kernel
theorem d_prog_8_method_5_code_3 : decode prog_8_method_5_code 3 = .ok (.dup, 1) := by decide +kernel
theorem d_prog_8_method_5_code_4 : decode prog_8_method_5_code 4 = .ok (.aconst_null, 1) := by decide +kernel
theorem d_prog_8_method_5_code_5 : decode prog_8_method_5_code 5 = .ok (.getstatic 35, 3) := by decide +kernel
theorem d_prog_8_method_5_code_8 : decode prog_8_method_5_code 8 = .ok (.aconst_null, 1) := by decide +kernel
theorem d_prog_8_method_5_code_9 : decode prog_8_method_5_code 9 = .ok (.invokespecial 27, 3) := by decide +kernel
theorem d_prog_8_method_5_code_12 : decode prog_8_method_5_code 12 = .ok (.areturn, 1) := by decide +kernel
theorem d_prog_4_method_1_code_0 : decode prog_4_method_1_code 0 = .ok (.aload_n 0, 1) := by decide +kernel
theorem d_prog_4_method_1_code_1 : decode prog_4_method_1_code 1 = .ok (.invokespecial 1, 3) := by decide +kernel
theorem pd_3 : parseMethodDescriptor "()V" = some ⟨[], none⟩ := by decide +kernel
theorem d_prog_4_method_1_code_4 : decode prog_4_method_1_code 4 = .ok (.aload_n 0, 1) := by decide +kernel
theorem d_prog_4_method_1_code_5 : decode prog_4_method_1_code 5 = .ok (.aload_n 1, 1) := by decide +kernel
theorem d_prog_4_method_1_code_6 : decode prog_4_method_1_code 6 = .ok (.putfield 7, 3) := by decide +kernel
theorem d_prog_4_method_1_code_9 : decode prog_4_method_1_code 9 = .ok (.aload_n 0, 1) := by decide +kernel
theorem d_prog_4_method_1_code_10 : decode prog_4_method_1_code 10 = .ok (.aload_n 2, 1) := by decide +kernel
theorem d_prog_4_method_1_code_11 : decode prog_4_method_1_code 11 = .ok (.putfield 13, 3) := by decide +kernel
theorem sn_com_example_miki_basin_mikibasin_Copy_Held_printed__name {Z : State} {a0 : Array Value} (hw : ∀ d ∈ tables_1, d.before a0 Z = true) : Jvm.RoadKit.slotOf Z "com/example/miki_basin/mikibasin/Copy$Held" "printed" "Ljava/util/Optional;" ≠ Jvm.RoadKit.slotOf Z "com/example/miki_basin/mikibasin/Copy$Held" "name" "Ljava/lang/String;" := slot_ne (Or.inr (hw _ (List.mem_of_getElem? (i := 82) rfl))) (Or.inr (hw _ (List.mem_of_getElem? (i := 80) rfl))) (by decide) (t := (.object "java/util/Optional")) (t' := (.object "java/lang/String")) (by decide) (by decide)
theorem d_prog_4_method_1_code_14 : decode prog_4_method_1_code 14 = .ok (.aload_n 0, 1) := by decide +kernel
theorem d_prog_4_method_1_code_15 : decode prog_4_method_1_code 15 = .ok (.aload_n 3, 1) := by decide +kernel
theorem d_prog_4_method_1_code_16 : decode prog_4_method_1_code 16 = .ok (.putfield 17, 3) := by decide +kernel
theorem sn_com_example_miki_basin_mikibasin_Copy_Held_against__name {Z : State} {a0 : Array Value} (hw : ∀ d ∈ tables_1, d.before a0 Z = true) : Jvm.RoadKit.slotOf Z "com/example/miki_basin/mikibasin/Copy$Held" "against" "Ljava/lang/String;" ≠ Jvm.RoadKit.slotOf Z "com/example/miki_basin/mikibasin/Copy$Held" "name" "Ljava/lang/String;" := slot_ne (Or.inr (hw _ (List.mem_of_getElem? (i := 84) rfl))) (Or.inr (hw _ (List.mem_of_getElem? (i := 80) rfl))) (by decide) (t := (.object "java/lang/String")) (t' := (.object "java/lang/String")) (by decide) (by decide)
theorem sn_com_example_miki_basin_mikibasin_Copy_Held_against__printed {Z : State} {a0 : Array Value} (hw : ∀ d ∈ tables_1, d.before a0 Z = true) : Jvm.RoadKit.slotOf Z "com/example/miki_basin/mikibasin/Copy$Held" "against" "Ljava/lang/String;" ≠ Jvm.RoadKit.slotOf Z "com/example/miki_basin/mikibasin/Copy$Held" "printed" "Ljava/util/Optional;" := slot_ne (Or.inr (hw _ (List.mem_of_getElem? (i := 84) rfl))) (Or.inr (hw _ (List.mem_of_getElem? (i := 82) rfl))) (by decide) (t := (.object "java/lang/String")) (t' := (.object "java/util/Optional")) (by decide) (by decide)
theorem d_prog_4_method_1_code_19 : decode prog_4_method_1_code 19 = .ok (.aload_n 0, 1) := by decide +kernel
theorem d_prog_4_method_1_code_20 : decode prog_4_method_1_code 20 = .ok (.aload 4, 2) := by decide +kernel
theorem d_prog_4_method_1_code_22 : decode prog_4_method_1_code 22 = .ok (.putfield 20, 3) := by decide +kernel
theorem sn_com_example_miki_basin_mikibasin_Copy_Held_value__name {Z : State} {a0 : Array Value} (hw : ∀ d ∈ tables_1, d.before a0 Z = true) : Jvm.RoadKit.slotOf Z "com/example/miki_basin/mikibasin/Copy$Held" "value" "Ljava/util/Optional;" ≠ Jvm.RoadKit.slotOf Z "com/example/miki_basin/mikibasin/Copy$Held" "name" "Ljava/lang/String;" := slot_ne (Or.inr (hw _ (List.mem_of_getElem? (i := 86) rfl))) (Or.inr (hw _ (List.mem_of_getElem? (i := 80) rfl))) (by decide) (t := (.object "java/util/Optional")) (t' := (.object "java/lang/String")) (by decide) (by decide)
theorem sn_com_example_miki_basin_mikibasin_Copy_Held_value__printed {Z : State} {a0 : Array Value} (hw : ∀ d ∈ tables_1, d.before a0 Z = true) : Jvm.RoadKit.slotOf Z "com/example/miki_basin/mikibasin/Copy$Held" "value" "Ljava/util/Optional;" ≠ Jvm.RoadKit.slotOf Z "com/example/miki_basin/mikibasin/Copy$Held" "printed" "Ljava/util/Optional;" := slot_ne (Or.inr (hw _ (List.mem_of_getElem? (i := 86) rfl))) (Or.inr (hw _ (List.mem_of_getElem? (i := 82) rfl))) (by decide) (t := (.object "java/util/Optional")) (t' := (.object "java/util/Optional")) (by decide) (by decide)
theorem sn_com_example_miki_basin_mikibasin_Copy_Held_value__against {Z : State} {a0 : Array Value} (hw : ∀ d ∈ tables_1, d.before a0 Z = true) : Jvm.RoadKit.slotOf Z "com/example/miki_basin/mikibasin/Copy$Held" "value" "Ljava/util/Optional;" ≠ Jvm.RoadKit.slotOf Z "com/example/miki_basin/mikibasin/Copy$Held" "against" "Ljava/lang/String;" := slot_ne (Or.inr (hw _ (List.mem_of_getElem? (i := 86) rfl))) (Or.inr (hw _ (List.mem_of_getElem? (i := 84) rfl))) (by decide) (t := (.object "java/util/Optional")) (t' := (.object "java/lang/String")) (by decide) (by decide)
theorem d_prog_4_method_1_code_25 : decode prog_4_method_1_code 25 = .ok (.return_, 1) := by decide +kernel
theorem sn_com_example_miki_basin_mikibasin_Copy_Held_name__printed {Z : State} {a0 : Array Value} (hw : ∀ d ∈ tables_1, d.before a0 Z = true) : Jvm.RoadKit.slotOf Z "com/example/miki_basin/mikibasin/Copy$Held" "name" "Ljava/lang/String;" ≠ Jvm.RoadKit.slotOf Z "com/example/miki_basin/mikibasin/Copy$Held" "printed" "Ljava/util/Optional;" := slot_ne (Or.inr (hw _ (List.mem_of_getElem? (i := 80) rfl))) (Or.inr (hw _ (List.mem_of_getElem? (i := 82) rfl))) (by decide) (t := (.object "java/lang/String")) (t' := (.object "java/util/Optional")) (by decide) (by decide)
theorem sn_com_example_miki_basin_mikibasin_Copy_Held_name__against {Z : State} {a0 : Array Value} (hw : ∀ d ∈ tables_1, d.before a0 Z = true) : Jvm.RoadKit.slotOf Z "com/example/miki_basin/mikibasin/Copy$Held" "name" "Ljava/lang/String;" ≠ Jvm.RoadKit.slotOf Z "com/example/miki_basin/mikibasin/Copy$Held" "against" "Ljava/lang/String;" := slot_ne (Or.inr (hw _ (List.mem_of_getElem? (i := 80) rfl))) (Or.inr (hw _ (List.mem_of_getElem? (i := 84) rfl))) (by decide) (t := (.object "java/lang/String")) (t' := (.object "java/lang/String")) (by decide) (by decide)
theorem sn_com_example_miki_basin_mikibasin_Copy_Held_name__value {Z : State} {a0 : Array Value} (hw : ∀ d ∈ tables_1, d.before a0 Z = true) : Jvm.RoadKit.slotOf Z "com/example/miki_basin/mikibasin/Copy$Held" "name" "Ljava/lang/String;" ≠ Jvm.RoadKit.slotOf Z "com/example/miki_basin/mikibasin/Copy$Held" "value" "Ljava/util/Optional;" := slot_ne (Or.inr (hw _ (List.mem_of_getElem? (i := 80) rfl))) (Or.inr (hw _ (List.mem_of_getElem? (i := 86) rfl))) (by decide) (t := (.object "java/lang/String")) (t' := (.object "java/util/Optional")) (by decide) (by decide)
theorem sn_com_example_miki_basin_mikibasin_Copy_Held_printed__against {Z : State} {a0 : Array Value} (hw : ∀ d ∈ tables_1, d.before a0 Z = true) : Jvm.RoadKit.slotOf Z "com/example/miki_basin/mikibasin/Copy$Held" "printed" "Ljava/util/Optional;" ≠ Jvm.RoadKit.slotOf Z "com/example/miki_basin/mikibasin/Copy$Held" "against" "Ljava/lang/String;" := slot_ne (Or.inr (hw _ (List.mem_of_getElem? (i := 82) rfl))) (Or.inr (hw _ (List.mem_of_getElem? (i := 84) rfl))) (by decide) (t := (.object "java/util/Optional")) (t' := (.object "java/lang/String")) (by decide) (by decide)
theorem sn_com_example_miki_basin_mikibasin_Copy_Held_printed__value {Z : State} {a0 : Array Value} (hw : ∀ d ∈ tables_1, d.before a0 Z = true) : Jvm.RoadKit.slotOf Z "com/example/miki_basin/mikibasin/Copy$Held" "printed" "Ljava/util/Optional;" ≠ Jvm.RoadKit.slotOf Z "com/example/miki_basin/mikibasin/Copy$Held" "value" "Ljava/util/Optional;" := slot_ne (Or.inr (hw _ (List.mem_of_getElem? (i := 82) rfl))) (Or.inr (hw _ (List.mem_of_getElem? (i := 86) rfl))) (by decide) (t := (.object "java/util/Optional")) (t' := (.object "java/util/Optional")) (by decide) (by decide)
theorem sn_com_example_miki_basin_mikibasin_Copy_Held_against__value {Z : State} {a0 : Array Value} (hw : ∀ d ∈ tables_1, d.before a0 Z = true) : Jvm.RoadKit.slotOf Z "com/example/miki_basin/mikibasin/Copy$Held" "against" "Ljava/lang/String;" ≠ Jvm.RoadKit.slotOf Z "com/example/miki_basin/mikibasin/Copy$Held" "value" "Ljava/util/Optional;" := slot_ne (Or.inr (hw _ (List.mem_of_getElem? (i := 84) rfl))) (Or.inr (hw _ (List.mem_of_getElem? (i := 86) rfl))) (by decide) (t := (.object "java/lang/String")) (t' := (.object "java/util/Optional")) (by decide) (by decide)
theorem pn_com_example_miki_basin_mikibasin_Copy_Held : plainName "com/example/miki_basin/mikibasin/Copy$Held" = true := by first | (simp [plainName, overriddenIn]; done) | decide +kernel
theorem d_prog_5_method_1_code_0 : decode prog_5_method_1_code 0 = .ok (.aload_n 0, 1) := by decide +kernel
theorem d_prog_5_method_1_code_1 : decode prog_5_method_1_code 1 = .ok (.invokespecial 1, 3) := by decide +kernel
theorem d_prog_5_method_1_code_4 : decode prog_5_method_1_code 4 = .ok (.aload_n 0, 1) := by decide +kernel
theorem d_prog_5_method_1_code_5 : decode prog_5_method_1_code 5 = .ok (.aload_n 1, 1) := by decide +kernel
theorem d_prog_5_method_1_code_6 : decode prog_5_method_1_code 6 = .ok (.putfield 7, 3) := by decide +kernel
theorem d_prog_5_method_1_code_9 : decode prog_5_method_1_code 9 = .ok (.aload_n 0, 1) := by decide +kernel
theorem d_prog_5_method_1_code_10 : decode prog_5_method_1_code 10 = .ok (.aload_n 2, 1) := by decide +kernel
theorem d_prog_5_method_1_code_11 : decode prog_5_method_1_code 11 = .ok (.putfield 13, 3) := by decide +kernel
theorem sn_com_example_miki_basin_mikibasin_Copy_Pair_other__copy {Z : State} {a0 : Array Value} (hw : ∀ d ∈ tables_1, d.before a0 Z = true) : Jvm.RoadKit.slotOf Z "com/example/miki_basin/mikibasin/Copy$Pair" "other" "Lcom/example/miki_basin/mikibasin/Copy;" ≠ Jvm.RoadKit.slotOf Z "com/example/miki_basin/mikibasin/Copy$Pair" "copy" "Lcom/example/miki_basin/mikibasin/Copy;" := slot_ne (Or.inr (hw _ (List.mem_of_getElem? (i := 131) rfl))) (Or.inr (hw _ (List.mem_of_getElem? (i := 129) rfl))) (by decide) (t := (.object "com/example/miki_basin/mikibasin/Copy")) (t' := (.object "com/example/miki_basin/mikibasin/Copy")) (by decide) (by decide)
theorem d_prog_5_method_1_code_14 : decode prog_5_method_1_code 14 = .ok (.return_, 1) := by decide +kernel
theorem sn_com_example_miki_basin_mikibasin_Copy_Pair_copy__other {Z : State} {a0 : Array Value} (hw : ∀ d ∈ tables_1, d.before a0 Z = true) : Jvm.RoadKit.slotOf Z "com/example/miki_basin/mikibasin/Copy$Pair" "copy" "Lcom/example/miki_basin/mikibasin/Copy;" ≠ Jvm.RoadKit.slotOf Z "com/example/miki_basin/mikibasin/Copy$Pair" "other" "Lcom/example/miki_basin/mikibasin/Copy;" := slot_ne (Or.inr (hw _ (List.mem_of_getElem? (i := 129) rfl))) (Or.inr (hw _ (List.mem_of_getElem? (i := 131) rfl))) (by decide) (t := (.object "com/example/miki_basin/mikibasin/Copy")) (t' := (.object "com/example/miki_basin/mikibasin/Copy")) (by decide) (by decide)
theorem pn_com_example_miki_basin_mikibasin_Copy_Pair : plainName "com/example/miki_basin/mikibasin/Copy$Pair" = true := by first | (simp [plainName, overriddenIn]; done) | decide +kernel
theorem d_prog_3_method_1_code_0 : decode prog_3_method_1_code 0 = .ok (.aload_n 0, 1) := by decide +kernel
theorem d_prog_3_method_1_code_1 : decode prog_3_method_1_code 1 = .ok (.invokespecial 1, 3) := by decide +kernel
theorem d_prog_3_method_1_code_4 : decode prog_3_method_1_code 4 = .ok (.aload_n 0, 1) := by decide +kernel
theorem d_prog_3_method_1_code_5 : decode prog_3_method_1_code 5 = .ok (.aload_n 1, 1) := by decide +kernel
theorem d_prog_3_method_1_code_6 : decode prog_3_method_1_code 6 = .ok (.putfield 7, 3) := by decide +kernel
theorem d_prog_3_method_1_code_9 : decode prog_3_method_1_code 9 = .ok (.aload_n 0, 1) := by decide +kernel
theorem d_prog_3_method_1_code_10 : decode prog_3_method_1_code 10 = .ok (.aload_n 2, 1) := by decide +kernel
theorem d_prog_3_method_1_code_11 : decode prog_3_method_1_code 11 = .ok (.putfield 13, 3) := by decide +kernel
theorem sn_com_example_miki_basin_mikibasin_Copy_figure__name {Z : State} {a0 : Array Value} (hw : ∀ d ∈ tables_1, d.before a0 Z = true) : Jvm.RoadKit.slotOf Z "com/example/miki_basin/mikibasin/Copy" "figure" "Lcom/example/miki_basin/mikibasin/Figure;" ≠ Jvm.RoadKit.slotOf Z "com/example/miki_basin/mikibasin/Copy" "name" "Ljava/lang/String;" := slot_ne (Or.inr (hw _ (List.mem_of_getElem? (i := 123) rfl))) (Or.inr (hw _ (List.mem_of_getElem? (i := 121) rfl))) (by decide) (t := (.object "com/example/miki_basin/mikibasin/Figure")) (t' := (.object "java/lang/String")) (by decide) (by decide)
theorem d_prog_3_method_1_code_14 : decode prog_3_method_1_code 14 = .ok (.return_, 1) := by decide +kernel
theorem sn_com_example_miki_basin_mikibasin_Copy_name__figure {Z : State} {a0 : Array Value} (hw : ∀ d ∈ tables_1, d.before a0 Z = true) : Jvm.RoadKit.slotOf Z "com/example/miki_basin/mikibasin/Copy" "name" "Ljava/lang/String;" ≠ Jvm.RoadKit.slotOf Z "com/example/miki_basin/mikibasin/Copy" "figure" "Lcom/example/miki_basin/mikibasin/Figure;" := slot_ne (Or.inr (hw _ (List.mem_of_getElem? (i := 121) rfl))) (Or.inr (hw _ (List.mem_of_getElem? (i := 123) rfl))) (by decide) (t := (.object "java/lang/String")) (t' := (.object "com/example/miki_basin/mikibasin/Figure")) (by decide) (by decide)
theorem pn_com_example_miki_basin_mikibasin_Copy : plainName "com/example/miki_basin/mikibasin/Copy" = true := by first | (simp [plainName, overriddenIn]; done) | decide +kernel
theorem d_prog_5_method_6_code_0 : decode prog_5_method_6_code 0 = .ok (.aload_n 0, 1) := by decide +kernel
theorem d_prog_5_method_6_code_1 : decode prog_5_method_6_code 1 = .ok (.getfield 7, 3) := by decide +kernel
theorem d_prog_5_method_6_code_4 : decode prog_5_method_6_code 4 = .ok (.areturn, 1) := by decide +kernel
theorem d_prog_5_method_7_code_0 : decode prog_5_method_7_code 0 = .ok (.aload_n 0, 1) := by decide +kernel
theorem d_prog_5_method_7_code_1 : decode prog_5_method_7_code 1 = .ok (.getfield 13, 3) := by decide +kernel
theorem d_prog_5_method_7_code_4 : decode prog_5_method_7_code 4 = .ok (.areturn, 1) := by decide +kernel
theorem d_prog_3_method_6_code_0 : decode prog_3_method_6_code 0 = .ok (.aload_n 0, 1) := by decide +kernel
theorem d_prog_3_method_6_code_1 : decode prog_3_method_6_code 1 = .ok (.getfield 7, 3) := by decide +kernel
theorem d_prog_3_method_6_code_4 : decode prog_3_method_6_code 4 = .ok (.areturn, 1) := by decide +kernel
theorem d_prog_3_method_7_code_0 : decode prog_3_method_7_code 0 = .ok (.aload_n 0, 1) := by decide +kernel
theorem d_prog_3_method_7_code_1 : decode prog_3_method_7_code 1 = .ok (.getfield 13, 3) := by decide +kernel
theorem d_prog_3_method_7_code_4 : decode prog_3_method_7_code 4 = .ok (.areturn, 1) := by decide +kernel
theorem d_jdk_42_method_66_code_0 : decode jdk_42_method_66_code 0 = .ok (.aload_n 0, 1) := by decide +kernel
theorem d_jdk_42_method_66_code_1 : decode jdk_42_method_66_code 1 = .ok (.aload_n 1, 1) := by decide +kernel
theorem d_jdk_42_method_66_code_2 : decode jdk_42_method_66_code 2 = .ok (.if_acmp .ne 5, 3) := by decide +kernel
theorem d_jdk_42_method_66_code_5 : decode jdk_42_method_66_code 5 = .ok (.iconst 1, 1) := by decide +kernel
theorem d_jdk_42_method_66_code_6 : decode jdk_42_method_66_code 6 = .ok (.ireturn, 1) := by decide +kernel
theorem pn_java_lang_String : plainName "java/lang/String" = true := by first | (simp [plainName, overriddenIn]; done) | decide +kernel
theorem d_prog_4_method_2_code_0 : decode prog_4_method_2_code 0 = .ok (.aload_n 0, 1) := by decide +kernel
theorem d_prog_4_method_2_code_1 : decode prog_4_method_2_code 1 = .ok (.getfield 13, 3) := by decide +kernel
theorem d_prog_4_method_2_code_4 : decode prog_4_method_2_code 4 = .ok (.invokevirtual 23, 3) := by decide +kernel
theorem pd_4 : parseMethodDescriptor "()Z" = some ⟨[], some .boolean⟩ := by decide +kernel
theorem d_prog_4_method_2_code_7 : decode prog_4_method_2_code 7 = .ok (.ifCond .ne 13, 3) := by decide +kernel
theorem d_prog_4_method_2_code_20 : decode prog_4_method_2_code 20 = .ok (.invokestatic 29, 3) := by decide +kernel
theorem pd_5 : parseMethodDescriptor "()Ljava/util/Optional;" = some ⟨[], some (.object "java/util/Optional")⟩ := by decide +kernel
theorem d_prog_4_method_2_code_23 : decode prog_4_method_2_code 23 = .ok (.areturn, 1) := by decide +kernel
theorem d_prog_4_method_2_code_10 : decode prog_4_method_2_code 10 = .ok (.aload_n 0, 1) := by decide +kernel
theorem d_prog_4_method_2_code_11 : decode prog_4_method_2_code 11 = .ok (.getfield 20, 3) := by decide +kernel
theorem d_prog_4_method_2_code_14 : decode prog_4_method_2_code 14 = .ok (.invokevirtual 23, 3) := by decide +kernel
theorem d_prog_4_method_2_code_17 : decode prog_4_method_2_code 17 = .ok (.ifCond .eq 7, 3) := by decide +kernel
theorem d_prog_4_method_2_code_24 : decode prog_4_method_2_code 24 = .ok (.new 33, 3) := by decide +kernel
theorem d_prog_4_method_2_code_27 : decode prog_4_method_2_code 27 = .ok (.dup, 1) := by decide +kernel
theorem d_prog_4_method_2_code_28 : decode prog_4_method_2_code 28 = .ok (.new 35, 3) := by decide +kernel
theorem d_prog_4_method_2_code_31 : decode prog_4_method_2_code 31 = .ok (.dup, 1) := by decide +kernel
theorem d_prog_4_method_2_code_32 : decode prog_4_method_2_code 32 = .ok (.aload_n 0, 1) := by decide +kernel
theorem d_prog_4_method_2_code_33 : decode prog_4_method_2_code 33 = .ok (.getfield 7, 3) := by decide +kernel
theorem d_prog_4_method_2_code_36 : decode prog_4_method_2_code 36 = .ok (.aload_n 0, 1) := by decide +kernel
theorem d_prog_4_method_2_code_37 : decode prog_4_method_2_code 37 = .ok (.getfield 13, 3) := by decide +kernel
theorem d_prog_4_method_2_code_40 : decode prog_4_method_2_code 40 = .ok (.invokevirtual 37, 3) := by decide +kernel
theorem pd_6 : parseMethodDescriptor "()Ljava/lang/Object;" = some ⟨[], some (.object "java/lang/Object")⟩ := by decide +kernel
theorem d_prog_4_method_2_code_43 : decode prog_4_method_2_code 43 = .ok (.checkcast 41, 3) := by decide +kernel
theorem d_prog_4_method_2_code_46 : decode prog_4_method_2_code 46 = .ok (.invokespecial 43, 3) := by decide +kernel
theorem pd_7 : parseMethodDescriptor "(Ljava/lang/String;Lcom/example/miki_basin/mikibasin/Figure;)V" = some ⟨[(.object "java/lang/String"), (.object "com/example/miki_basin/mikibasin/Figure")], none⟩ := by decide +kernel
theorem d_prog_4_method_2_code_49 : decode prog_4_method_2_code 49 = .ok (.new 35, 3) := by decide +kernel
theorem d_prog_4_method_2_code_52 : decode prog_4_method_2_code 52 = .ok (.dup, 1) := by decide +kernel
theorem d_prog_4_method_2_code_53 : decode prog_4_method_2_code 53 = .ok (.aload_n 0, 1) := by decide +kernel
theorem d_prog_4_method_2_code_54 : decode prog_4_method_2_code 54 = .ok (.getfield 17, 3) := by decide +kernel
theorem d_prog_4_method_2_code_57 : decode prog_4_method_2_code 57 = .ok (.aload_n 0, 1) := by decide +kernel
theorem d_prog_4_method_2_code_58 : decode prog_4_method_2_code 58 = .ok (.getfield 20, 3) := by decide +kernel
theorem d_prog_4_method_2_code_61 : decode prog_4_method_2_code 61 = .ok (.invokevirtual 37, 3) := by decide +kernel
theorem d_prog_4_method_2_code_64 : decode prog_4_method_2_code 64 = .ok (.checkcast 41, 3) := by decide +kernel
theorem d_prog_4_method_2_code_67 : decode prog_4_method_2_code 67 = .ok (.invokespecial 43, 3) := by decide +kernel
theorem d_prog_4_method_2_code_70 : decode prog_4_method_2_code 70 = .ok (.invokespecial 46, 3) := by decide +kernel
theorem pd_8 : parseMethodDescriptor "(Lcom/example/miki_basin/mikibasin/Copy;Lcom/example/miki_basin/mikibasin/Copy;)V" = some ⟨[(.object "com/example/miki_basin/mikibasin/Copy"), (.object "com/example/miki_basin/mikibasin/Copy")], none⟩ := by decide +kernel
theorem d_prog_4_method_2_code_73 : decode prog_4_method_2_code 73 = .ok (.invokestatic 49, 3) := by decide +kernel
theorem pd_9 : parseMethodDescriptor "(Ljava/lang/Object;)Ljava/util/Optional;" = some ⟨[(.object "java/lang/Object")], some (.object "java/util/Optional")⟩ := by decide +kernel
theorem d_prog_4_method_2_code_76 : decode prog_4_method_2_code 76 = .ok (.areturn, 1) := by decide +kernel
theorem pd_10 : parseMethodDescriptor "([C)V" = some ⟨[(.array .char)], none⟩ := by decide +kernel
theorem pd_11 : parseMethodDescriptor "()Lcom/example/miki_basin/mikibasin/Figure;" = some ⟨[], some (.object "com/example/miki_basin/mikibasin/Figure")⟩ := by decide +kernel
theorem pd_12 : parseMethodDescriptor "(Ljava/lang/String;Ljava/util/Optional;Ljava/lang/String;Ljava/util/Optional;)V" = some ⟨[(.object "java/lang/String"), (.object "java/util/Optional"), (.object "java/lang/String"), (.object "java/util/Optional")], none⟩ := by decide +kernel
theorem pd_13 : parseMethodDescriptor "()Lcom/example/miki_basin/mikibasin/Copy;" = some ⟨[], some (.object "com/example/miki_basin/mikibasin/Copy")⟩ := by decide +kernel
theorem pd_14 : parseMethodDescriptor "()Ljava/lang/String;" = some ⟨[], some (.object "java/lang/String")⟩ := by decide +kernel
theorem pd_15 : parseMethodDescriptor "(Ljava/lang/Object;)Z" = some ⟨[(.object "java/lang/Object")], some .boolean⟩ := by decide +kernel
theorem pn_com_example_miki_basin_mikibasin_HeldPairPinLaw : plainName "com/example/miki_basin/mikibasin/HeldPairPinLaw" = true := by first | (simp [plainName, overriddenIn]; done) | decide +kernel
def QrmOpI (Z : State) (a1 : Addr) (v1 : Value) (h0 : Heap) (n0 : Nat) (v : Option Value) (h : Heap) (L : List Loc) : Prop := v = none ∧ Fr n0 L ∧ Keep h0 h [a1] ∧ (Exa Z h a1 "java/util/Optional") ∧ (Fld Z h a1 "java/util/Optional" "value" "Ljava/lang/Object;" v1)
theorem ef_rmOpI (m : MethodId) (a1 : Addr) (v1 : Value) (r_v1 : Value.isRef v1 = true) : entryFrame m #[(.ref a1), v1] 2 = mkF m 0 #[.val (.ref a1), .val v1] [] := by first | (simp [entryFrame, mkF, argsToLocals, maxLocals, own_cR, own_cI, own_cN, own_cJ, XT.cat1 r_v1]; done) | rfl
set_option maxRecDepth 65536 in
set_option maxHeartbeats 40000000 in
theorem rmOpI (l : Launch) (Z : State) (a0 : Array Value) (hw : ∀ d ∈ tables_1, d.before a0 Z = true) (ws : List Jvm.Cond) (a1 : Addr) (v1 : Value) (h0 : Heap) (n0 : Nat) (Z0 : n0 ≤ h0.size) (G1 : Int32) (O2 : Sta Z Z.heap "java/lang/String" "COMPACT_STRINGS" "Z" (.int G1)) (P5 : ¬ (G1 = (0 : Int32))) (eA : Addr) (SE : Sta Z Z.heap "java/util/Optional" "EMPTY" "Ljava/util/Optional;" (.ref eA)) (XE : Exa Z Z.heap eA "java/util/Optional") (FE : Fld Z Z.heap eA "java/util/Optional" "value" "Ljava/lang/Object;" .null) (rZ : Addr) (SZ : Sta Z Z.heap "com/example/miki_basin/mikibasin/Rational" "ZERO" "Lcom/example/miki_basin/mikibasin/Rational;" (.ref rZ)) (X00 : Old Z n0 h0) (r_v1 : Value.isRef v1 = true) (p_Exa_a1 : Exa Z h0 a1 "java/util/Optional") (p_Fld_a1_value : Fld Z h0 a1 "java/util/Optional" "value" "Ljava/lang/Object;" .null) (ge1 : n0 ≤ a1) :
    MetFree l (⟨"java/util/Optional", "<init>", "(Ljava/lang/Object;)V"⟩ : MethodName) (head1 (Jvm.Cond.code (⟨"java/util/Optional", "<init>", "(Ljava/lang/Object;)V"⟩ : MethodName) jdk_32_method_2_code 2 (Option.none : Option Jvm.ClassFile.FieldType) :: ws) ({ frames := 1, cells := 0, slots := 0, locals := 12 } : Room)) (fun a U => a = #[(.ref a1), v1] ∧ Z.Warmed39 U.vm ∧ U.heap = h0) (fun _ _ _ _ _ => True) (fun _ U o U' => ∃ v L, o = .returned v ∧ QrmOpI Z a1 v1 h0 n0 v U'.heap L ∧ FrameEnd U o U' L ({ frames := 1, cells := 0, slots := 0, locals := 12 } : Room).cells ({ frames := 1, cells := 0, slots := 0, locals := 12 } : Room).slots) := by
  refine MetFree.of_bodySF (plainFor_of_name pn_java_util_Optional) hisR ?_
  intro p e s m args below meth c s₁ Bd hml0 hP hK
  obtain ⟨rfl, hZ, hh⟩ := hP
  have hx := Bd.exec
  have hby := Bd.bytes
  have hml : c.maxLocals = 2 := hml0
  have hown : s.vm.findClass "java/util/Optional" = some m.cls := findClass_of_methodNamed Bd.named
  have hnm := (name_of_methodNamed Bd.named Bd.method).1
  have hlk : meth.locks = false := BodyLoose.notSynchronized Bd
  have X0 : Stand p l e ({ frames := 1, cells := 0, slots := 0, locals := 12 } : Room) s m #[(.ref a1), v1] below meth c s₁ [] 0 0 := Stand.of_body Bd
  have e0 : s₁.heap = h0 := by rw [← hh, Bd.state]; rfl
  have N0 := Fr.nil n0
  show Ends p.tables e below (fun o U' => ∃ v L, o = .returned v ∧ QrmOpI Z a1 v1 h0 n0 v U'.heap L ∧ FrameEnd s o U' L ({ frames := 1, cells := 0, slots := 0, locals := 12 } : Room).cells ({ frames := 1, cells := 0, slots := 0, locals := 12 } : Room).slots) (s₁.setTop (entryFrame m #[(.ref a1), v1] 2))
  refine Ends.step (fun t k => castTop (ef_rmOpI m a1 v1 r_v1) k) ?_
  show Ends _ _ _ _ (s₁.setTop (mkF m 0 #[.val (.ref a1), .val v1] []))
  refine Ends.step (fun t k => XS.aloadN X0.here hx rfl (hb hby d_jdk_32_method_2_code_0) rfl rfl k) ?_
  show Ends _ _ _ _ (s₁.setTop (mkF m 1 #[.val (.ref a1), .val v1] [(.ref a1)]))
  obtain ⟨T1, X1, e1, st1⟩ := initO X0 hx hZ hown (hw _ (List.mem_of_getElem? (i := 64) rfl)) (hw _ (List.mem_of_getElem? (i := 12) rfl)) (hw _ (List.mem_of_getElem? (i := 13) rfl)) e0 (g := (mkF m 1 #[.val (.ref a1), .val v1] [(.ref a1)])) rfl (by rw [hml]; rfl) rfl (hb hby d_jdk_32_method_2_code_1) (by decide) (W := 0) (by show 2 * 0 + _ ≤ _; exact Nat.le_of_eq rfl) (by decide)
  refine Ends.step st1 ?_
  show Ends _ _ _ _ (T1.setTop (mkF m 4 #[.val (.ref a1), .val v1] []))
  refine Ends.step (fun t k => XS.aloadN X1.here hx rfl (hb hby d_jdk_32_method_2_code_4) rfl rfl k) ?_
  show Ends _ _ _ _ (T1.setTop (mkF m 5 #[.val (.ref a1), .val v1] [(.ref a1)]))
  refine Ends.step (fun t k => XS.aloadN X1.here hx rfl (hb hby d_jdk_32_method_2_code_5) rfl r_v1 k) ?_
  show Ends _ _ _ _ (T1.setTop (mkF m 6 #[.val (.ref a1), .val v1] [v1, (.ref a1)]))
  obtain ⟨T2, h2, X2, e2, W2, st2⟩ := putF X1 hx hZ hown (host := "") (Or.inl (hw _ (List.mem_of_getElem? (i := 65) rfl))) Via.refl e1 p_Fld_a1_value p_Exa_a1 (Or.inr ⟨(hw _ (List.mem_of_getElem? (i := 66) rfl)), rfl, hnm⟩) (hw _ (List.mem_of_getElem? (i := 55) rfl)) (ty := (.object "java/lang/Object")) (by decide) (own_narrow_ref r_v1 rfl) (own_fits_ref r_v1 rfl) (g := (mkF m 6 #[.val (.ref a1), .val v1] [v1, (.ref a1)])) rfl rfl (hb hby d_jdk_32_method_2_code_6)
  have N2 := Fr.snoc X2 N0 ge1
  have Fw2 : Fld Z h2 a1 "java/util/Optional" "value" "Ljava/lang/Object;" v1 := p_Fld_a1_value.same W2
  refine Ends.step st2 ?_
  show Ends _ _ _ _ (T2.setTop (mkF m 9 #[.val (.ref a1), .val v1] []))
  have F3 : Exa Z h2 a1 "java/util/Optional" := (p_Exa_a1.wr W2)
  exact own_finV X2 hx hlk Bd.returns (hb hby d_jdk_32_method_2_code_9) e2 (K := _) ⟨rfl, N2, ((Keep.refl h0 [a1]).wr W2 (Or.inl (List.mem_of_getElem? (i := 0) rfl))), F3, Fw2⟩ (by decide) (by decide)
def QrmOpE (Z : State) (eA : Addr) (h0 : Heap) (n0 : Nat) (v : Option Value) (h : Heap) (L : List Loc) : Prop := v = some (.ref eA) ∧ Fr n0 L ∧ h = h0
theorem ef_rmOpE (m : MethodId)   : entryFrame m #[] 1 = mkF m 0 #[.unset] [] := by first | (simp [entryFrame, mkF, argsToLocals, maxLocals, Value.category]; done) | rfl
set_option maxRecDepth 65536 in
set_option maxHeartbeats 40000000 in
theorem rmOpE (l : Launch) (Z : State) (a0 : Array Value) (hw : ∀ d ∈ tables_1, d.before a0 Z = true) (ws : List Jvm.Cond)  (h0 : Heap) (n0 : Nat) (Z0 : n0 ≤ h0.size) (G1 : Int32) (O2 : Sta Z Z.heap "java/lang/String" "COMPACT_STRINGS" "Z" (.int G1)) (P5 : ¬ (G1 = (0 : Int32))) (eA : Addr) (SE : Sta Z Z.heap "java/util/Optional" "EMPTY" "Ljava/util/Optional;" (.ref eA)) (XE : Exa Z Z.heap eA "java/util/Optional") (FE : Fld Z Z.heap eA "java/util/Optional" "value" "Ljava/lang/Object;" .null) (rZ : Addr) (SZ : Sta Z Z.heap "com/example/miki_basin/mikibasin/Rational" "ZERO" "Lcom/example/miki_basin/mikibasin/Rational;" (.ref rZ)) (X00 : Old Z n0 h0)  :
    MetFree l (⟨"java/util/Optional", "empty", "()Ljava/util/Optional;"⟩ : MethodName) (head1 (Jvm.Cond.code (⟨"java/util/Optional", "empty", "()Ljava/util/Optional;"⟩ : MethodName) jdk_32_method_1_code 1 (Option.some (Jvm.ClassFile.FieldType.object "java/util/Optional")) :: ws) ({ frames := 0, cells := 0, slots := 0, locals := 0 } : Room)) (fun a U => a = #[] ∧ Z.Warmed39 U.vm ∧ U.heap = h0) (fun _ _ _ _ _ => True) (fun _ U o U' => ∃ v L, o = .returned v ∧ QrmOpE Z eA h0 n0 v U'.heap L ∧ FrameEnd U o U' L ({ frames := 0, cells := 0, slots := 0, locals := 0 } : Room).cells ({ frames := 0, cells := 0, slots := 0, locals := 0 } : Room).slots) := by
  refine MetFree.of_bodySF (plainFor_of_name pn_java_util_Optional) hisR ?_
  intro p e s m args below meth c s₁ Bd hml0 hP hK
  obtain ⟨rfl, hZ, hh⟩ := hP
  have hx := Bd.exec
  have hby := Bd.bytes
  have hml : c.maxLocals = 1 := hml0
  have hown : s.vm.findClass "java/util/Optional" = some m.cls := findClass_of_methodNamed Bd.named
  have hnm := (name_of_methodNamed Bd.named Bd.method).1
  have hlk : meth.locks = false := BodyLoose.notSynchronized Bd
  have X0 : Stand p l e ({ frames := 0, cells := 0, slots := 0, locals := 0 } : Room) s m #[] below meth c s₁ [] 0 0 := Stand.of_body Bd
  have e0 : s₁.heap = h0 := by rw [← hh, Bd.state]; rfl
  have N0 := Fr.nil n0
  show Ends p.tables e below (fun o U' => ∃ v L, o = .returned v ∧ QrmOpE Z eA h0 n0 v U'.heap L ∧ FrameEnd s o U' L ({ frames := 0, cells := 0, slots := 0, locals := 0 } : Room).cells ({ frames := 0, cells := 0, slots := 0, locals := 0 } : Room).slots) (s₁.setTop (entryFrame m #[] 1))
  refine Ends.step (fun t k => castTop (ef_rmOpE m  ) k) ?_
  show Ends _ _ _ _ (s₁.setTop (mkF m 0 #[.unset] []))
  obtain ⟨T1, X1, e1, st1⟩ := getS (host := "") X0 hx hZ hown (hw _ (List.mem_of_getElem? (i := 50) rfl)) Via.refl e0 (SE.ext X00.2) (g := (mkF m 0 #[.unset] [])) rfl (hb hby d_jdk_32_method_1_code_0)
  refine Ends.step st1 ?_
  show Ends _ _ _ _ (T1.setTop (mkF m 3 #[.unset] [(.ref eA)]))
  refine Ends.step (fun t k => XS.astoreN X1.here hx rfl (hb hby d_jdk_32_method_1_code_3) rfl rfl (l' := #[.val (.ref eA)]) rfl k) ?_
  show Ends _ _ _ _ (T1.setTop (mkF m 4 #[.val (.ref eA)] []))
  refine Ends.step (fun t k => XS.aloadN X1.here hx rfl (hb hby d_jdk_32_method_1_code_4) rfl rfl k) ?_
  show Ends _ _ _ _ (T1.setTop (mkF m 5 #[.val (.ref eA)] [(.ref eA)]))
  exact own_finR X1 hx hlk Bd.returns rfl rfl (hb hby d_jdk_32_method_1_code_5) e1 ⟨rfl, N0, rfl⟩ (by decide) (by decide)
def QrmRnn (Z : State) (a1 : Addr) (h0 : Heap) (n0 : Nat) (v : Option Value) (h : Heap) (L : List Loc) : Prop := v = some (.ref a1) ∧ Fr n0 L ∧ h = h0
theorem ef_rmRnn (m : MethodId) (a1 : Addr)  : entryFrame m #[(.ref a1)] 1 = mkF m 0 #[.val (.ref a1)] [] := by first | (simp [entryFrame, mkF, argsToLocals, maxLocals, Value.category]; done) | rfl
set_option maxRecDepth 65536 in
set_option maxHeartbeats 40000000 in
theorem rmRnn (l : Launch) (Z : State) (a0 : Array Value) (hw : ∀ d ∈ tables_1, d.before a0 Z = true) (ws : List Jvm.Cond) (a1 : Addr) (h0 : Heap) (n0 : Nat) (Z0 : n0 ≤ h0.size) (G1 : Int32) (O2 : Sta Z Z.heap "java/lang/String" "COMPACT_STRINGS" "Z" (.int G1)) (P5 : ¬ (G1 = (0 : Int32))) (eA : Addr) (SE : Sta Z Z.heap "java/util/Optional" "EMPTY" "Ljava/util/Optional;" (.ref eA)) (XE : Exa Z Z.heap eA "java/util/Optional") (FE : Fld Z Z.heap eA "java/util/Optional" "value" "Ljava/lang/Object;" .null) (rZ : Addr) (SZ : Sta Z Z.heap "com/example/miki_basin/mikibasin/Rational" "ZERO" "Lcom/example/miki_basin/mikibasin/Rational;" (.ref rZ)) (X00 : Old Z n0 h0)  :
    MetFree l (⟨"java/util/Objects", "requireNonNull", "(Ljava/lang/Object;)Ljava/lang/Object;"⟩ : MethodName) (head1 (Jvm.Cond.code (⟨"java/util/Objects", "requireNonNull", "(Ljava/lang/Object;)Ljava/lang/Object;"⟩ : MethodName) jdk_31_method_10_code 1 (Option.some (Jvm.ClassFile.FieldType.object "java/lang/Object")) :: ws) ({ frames := 0, cells := 0, slots := 0, locals := 0 } : Room)) (fun a U => a = #[(.ref a1)] ∧ Z.Warmed39 U.vm ∧ U.heap = h0) (fun _ _ _ _ _ => True) (fun _ U o U' => ∃ v L, o = .returned v ∧ QrmRnn Z a1 h0 n0 v U'.heap L ∧ FrameEnd U o U' L ({ frames := 0, cells := 0, slots := 0, locals := 0 } : Room).cells ({ frames := 0, cells := 0, slots := 0, locals := 0 } : Room).slots) := by
  refine MetFree.of_bodySF (plainFor_of_name pn_java_util_Objects) hisR ?_
  intro p e s m args below meth c s₁ Bd hml0 hP hK
  obtain ⟨rfl, hZ, hh⟩ := hP
  have hx := Bd.exec
  have hby := Bd.bytes
  have hml : c.maxLocals = 1 := hml0
  have hown : s.vm.findClass "java/util/Objects" = some m.cls := findClass_of_methodNamed Bd.named
  have hnm := (name_of_methodNamed Bd.named Bd.method).1
  have hlk : meth.locks = false := BodyLoose.notSynchronized Bd
  have X0 : Stand p l e ({ frames := 0, cells := 0, slots := 0, locals := 0 } : Room) s m #[(.ref a1)] below meth c s₁ [] 0 0 := Stand.of_body Bd
  have e0 : s₁.heap = h0 := by rw [← hh, Bd.state]; rfl
  have N0 := Fr.nil n0
  show Ends p.tables e below (fun o U' => ∃ v L, o = .returned v ∧ QrmRnn Z a1 h0 n0 v U'.heap L ∧ FrameEnd s o U' L ({ frames := 0, cells := 0, slots := 0, locals := 0 } : Room).cells ({ frames := 0, cells := 0, slots := 0, locals := 0 } : Room).slots) (s₁.setTop (entryFrame m #[(.ref a1)] 1))
  refine Ends.step (fun t k => castTop (ef_rmRnn m a1 ) k) ?_
  show Ends _ _ _ _ (s₁.setTop (mkF m 0 #[.val (.ref a1)] []))
  refine Ends.step (fun t k => XS.aloadN X0.here hx rfl (hb hby d_jdk_31_method_10_code_0) rfl rfl k) ?_
  show Ends _ _ _ _ (s₁.setTop (mkF m 1 #[.val (.ref a1)] [(.ref a1)]))
  refine Ends.step (fun t k => XS.ifnonnullYes X0.here hx rfl (pc0 := 1) (pc' := 12) rfl (hb hby d_jdk_31_method_10_code_1) rfl (by decide) (by decide) k) ?_
  show Ends _ _ _ _ (s₁.setTop (mkF m 12 #[.val (.ref a1)] []))
  refine Ends.step (fun t k => XS.aloadN X0.here hx rfl (hb hby d_jdk_31_method_10_code_12) rfl rfl k) ?_
  show Ends _ _ _ _ (s₁.setTop (mkF m 13 #[.val (.ref a1)] [(.ref a1)]))
  exact own_finR X0 hx hlk Bd.returns rfl rfl (hb hby d_jdk_31_method_10_code_13) e0 ⟨rfl, N0, rfl⟩ (by decide) (by decide)
def QrmOpOf (Z : State) (a1 : Addr) (h0 : Heap) (n0 : Nat) (v : Option Value) (h : Heap) (L : List Loc) : Prop := ∃ x : Addr, v = some (.ref x) ∧ Fr n0 L ∧ Keep h0 h [] ∧ (h0.size ≤ x) ∧ (Exa Z h x "java/util/Optional") ∧ (Fld Z h x "java/util/Optional" "value" "Ljava/lang/Object;" (.ref a1))
theorem ef_rmOpOf (m : MethodId) (a1 : Addr)  : entryFrame m #[(.ref a1)] 1 = mkF m 0 #[.val (.ref a1)] [] := by first | (simp [entryFrame, mkF, argsToLocals, maxLocals, Value.category]; done) | rfl
set_option maxRecDepth 65536 in
set_option maxHeartbeats 40000000 in
theorem rmOpOf (l : Launch) (Z : State) (a0 : Array Value) (hw : ∀ d ∈ tables_1, d.before a0 Z = true) (ws : List Jvm.Cond) (a1 : Addr) (h0 : Heap) (n0 : Nat) (Z0 : n0 ≤ h0.size) (G1 : Int32) (O2 : Sta Z Z.heap "java/lang/String" "COMPACT_STRINGS" "Z" (.int G1)) (P5 : ¬ (G1 = (0 : Int32))) (eA : Addr) (SE : Sta Z Z.heap "java/util/Optional" "EMPTY" "Ljava/util/Optional;" (.ref eA)) (XE : Exa Z Z.heap eA "java/util/Optional") (FE : Fld Z Z.heap eA "java/util/Optional" "value" "Ljava/lang/Object;" .null) (rZ : Addr) (SZ : Sta Z Z.heap "com/example/miki_basin/mikibasin/Rational" "ZERO" "Lcom/example/miki_basin/mikibasin/Rational;" (.ref rZ)) (X00 : Old Z n0 h0)  :
    MetFree l (⟨"java/util/Optional", "of", "(Ljava/lang/Object;)Ljava/util/Optional;"⟩ : MethodName) (head1 (Jvm.Cond.code (⟨"java/util/Optional", "of", "(Ljava/lang/Object;)Ljava/util/Optional;"⟩ : MethodName) jdk_32_method_3_code 1 (Option.some (Jvm.ClassFile.FieldType.object "java/util/Optional")) :: ws) ({ frames := 2, cells := 1, slots := 1, locals := 26 } : Room)) (fun a U => a = #[(.ref a1)] ∧ Z.Warmed39 U.vm ∧ U.heap = h0) (fun _ _ _ _ _ => True) (fun _ U o U' => ∃ v L, o = .returned v ∧ QrmOpOf Z a1 h0 n0 v U'.heap L ∧ FrameEnd U o U' L ({ frames := 2, cells := 1, slots := 1, locals := 26 } : Room).cells ({ frames := 2, cells := 1, slots := 1, locals := 26 } : Room).slots) := by
  refine MetFree.of_bodySF (plainFor_of_name pn_java_util_Optional) hisR ?_
  intro p e s m args below meth c s₁ Bd hml0 hP hK
  obtain ⟨rfl, hZ, hh⟩ := hP
  have hx := Bd.exec
  have hby := Bd.bytes
  have hml : c.maxLocals = 1 := hml0
  have hown : s.vm.findClass "java/util/Optional" = some m.cls := findClass_of_methodNamed Bd.named
  have hnm := (name_of_methodNamed Bd.named Bd.method).1
  have hlk : meth.locks = false := BodyLoose.notSynchronized Bd
  have X0 : Stand p l e ({ frames := 2, cells := 1, slots := 1, locals := 26 } : Room) s m #[(.ref a1)] below meth c s₁ [] 0 0 := Stand.of_body Bd
  have e0 : s₁.heap = h0 := by rw [← hh, Bd.state]; rfl
  have N0 := Fr.nil n0
  show Ends p.tables e below (fun o U' => ∃ v L, o = .returned v ∧ QrmOpOf Z a1 h0 n0 v U'.heap L ∧ FrameEnd s o U' L ({ frames := 2, cells := 1, slots := 1, locals := 26 } : Room).cells ({ frames := 2, cells := 1, slots := 1, locals := 26 } : Room).slots) (s₁.setTop (entryFrame m #[(.ref a1)] 1))
  refine Ends.step (fun t k => castTop (ef_rmOpOf m a1 ) k) ?_
  show Ends _ _ _ _ (s₁.setTop (mkF m 0 #[.val (.ref a1)] []))
  obtain ⟨T1, h1, X1, e1, E1, A1, D1, -, st1⟩ := newO X0 hx hZ hown (hw _ (List.mem_of_getElem? (i := 54) rfl)) (hw _ (List.mem_of_getElem? (i := 55) rfl)) (hw _ (List.mem_of_getElem? (i := 48) rfl)) e0 (g := (mkF m 0 #[.val (.ref a1)] [])) rfl (hb hby d_jdk_32_method_3_code_0) (by decide) (by decide)
  obtain ⟨b1, g1⟩ : ∃ z, z = h0.size := ⟨_, rfl⟩
  rw [← g1] at A1 D1 st1
  refine Ends.step st1 ?_
  show Ends _ _ _ _ (T1.setTop (mkF m 3 #[.val (.ref a1)] [(.ref b1)]))
  refine Ends.step (fun t k => XS.dup X1.here hx rfl (hb hby d_jdk_32_method_3_code_3) rfl rfl k) ?_
  show Ends _ _ _ _ (T1.setTop (mkF m 4 #[.val (.ref a1)] [(.ref b1), (.ref b1)]))
  refine Ends.step (fun t k => XS.aloadN X1.here hx rfl (hb hby d_jdk_32_method_3_code_4) rfl rfl k) ?_
  show Ends _ _ _ _ (T1.setTop (mkF m 5 #[.val (.ref a1)] [(.ref a1), (.ref b1), (.ref b1)]))
  have F2 : Old Z n0 h1 := (X00.ext E1)
  obtain ⟨_, _, ⟨T3, L3, k3, n3⟩, -, X3, ⟨Lc3, hQ3, l3, y3, z3⟩, st3⟩ := Jvm.LawKit.callS X1 hx (y := (⟨"java/util/Objects", "requireNonNull", "(Ljava/lang/Object;)Ljava/lang/Object;"⟩ : MethodName)) hown (mvT hZ (hw _ (List.mem_of_getElem? (i := 56) rfl))) (mvT hZ (hw _ (List.mem_of_getElem? (i := 57) rfl))) (mvT hZ (hw _ (List.mem_of_getElem? (i := 58) rfl))) (mvT hZ (hw _ (List.mem_of_getElem? (i := 59) rfl))) (by decide) (backOf (W := 2) (rmRnn l Z a0 hw [] a1 h1 n0 (Nat.le_trans Z0 E1.1) G1 O2 P5 eA SE XE FE rZ SZ F2 ) hZ (hw _ (List.mem_of_getElem? (i := 59) rfl)) (hw _ (List.mem_of_getElem? (i := 58) rfl)) (by decide) (by decide)) (g := (mkF m 5 #[.val (.ref a1)] [(.ref a1), (.ref b1), (.ref b1)])) rfl (by rw [hml]; rfl) (argsL := [(.ref a1)]) (rest := [(.ref b1), (.ref b1)]) (lenOf pd_0 rfl) rfl (by show 2 * 0 + _ ≤ _; exact Nat.le_of_eq rfl) (hb hby d_jdk_32_method_3_code_5) (fun _ _ => ⟨rfl, e1, (by decide : 1 + 0 ≤ _), (by decide : 1 + 0 ≤ _)⟩)
  dsimp only [Pt.U, Pt.locs, Pt.cells, Pt.slots] at X3 l3 y3 z3 st3 hQ3
  subst l3 y3 z3
  obtain ⟨rfl, Nq3, eh3⟩ := hQ3
  have N3 := Fr.app N0 Nq3
  refine Ends.step st3 ?_
  show Ends _ _ _ _ (T3.setTop (mkF m 8 #[.val (.ref a1)] [(.ref a1), (.ref b1), (.ref b1)]))
  obtain ⟨_, _, ⟨T4, L4, k4, n4⟩, -, X4, ⟨Lc4, hQ4, l4, y4, z4⟩, st4⟩ := X3.specialBack hx (y := (⟨"java/util/Optional", "<init>", "(Ljava/lang/Object;)V"⟩ : MethodName)) rfl hown (mvT hZ (hw _ (List.mem_of_getElem? (i := 60) rfl))) (mvT hZ (hw _ (List.mem_of_getElem? (i := 61) rfl))) (mvT hZ (hw _ (List.mem_of_getElem? (i := 63) rfl))) (by decide) (backOf (W := 1) (rmOpI l Z a0 hw [] b1 (.ref a1) h1 n0 (Nat.le_trans Z0 E1.1) G1 O2 P5 eA SE XE FE rZ SZ F2 rfl A1 (D1 (Or.inr (hw _ (List.mem_of_getElem? (i := 66) rfl))) (ty := (.object "java/lang/Object")) (by decide)) (Nat.le_trans (Nat.le_trans Z0 (Nat.le_refl _)) (Nat.le_of_eq g1.symm))) hZ (hw _ (List.mem_of_getElem? (i := 63) rfl)) (hw _ (List.mem_of_getElem? (i := 48) rfl)) (by decide) (by decide)) (g := (mkF m 8 #[.val (.ref a1)] [(.ref a1), (.ref b1), (.ref b1)])) rfl (by rw [hml]; rfl) (Steps.refl _) (a := b1) (argsL := [(.ref a1)]) (rest := [(.ref b1)]) (lenOf pd_1 rfl) rfl (by show 2 * 0 + _ ≤ _; exact Nat.le_of_eq rfl) (hb hby d_jdk_32_method_3_code_8) (fun _ _ => ⟨rfl, eh3, (by decide : 1 + 0 ≤ _), (by decide : 1 + 0 ≤ _)⟩)
  dsimp only [Pt.U, Pt.locs, Pt.cells, Pt.slots] at X4 l4 y4 z4 st4 hQ4
  subst l4 y4 z4
  obtain ⟨rfl, Nq4, K4, f4_0, f4_1⟩ := hQ4
  have N4 := Fr.app N3 Nq4
  refine Ends.go st4 ?_
  have K5 : Keep h0 T4.heap [] := (((Keep.refl h0 []).ext E1).trans K4 (allS (Or.inr (Nat.le_trans (Nat.le_refl _) (Nat.le_of_eq g1.symm))) all0))
  show Ends _ _ _ _ (T4.setTop (mkF m 11 #[.val (.ref a1)] [(.ref b1)]))
  exact own_finR X4 hx hlk Bd.returns rfl rfl (hb hby d_jdk_32_method_3_code_11) rfl ⟨b1, rfl, N4, ((Keep.refl h0 []).trans K5 all0), (Nat.le_trans (Nat.le_refl _) (Nat.le_of_eq g1.symm)), f4_0, f4_1⟩ (by decide) (by decide)
def QrmOp_isPresent_n (Z : State) (a1 : Addr) (h0 : Heap) (n0 : Nat) (v : Option Value) (h : Heap) (L : List Loc) : Prop := v = some (.int (0 : Int32)) ∧ Fr n0 L ∧ h = h0
theorem ef_rmOp_isPresent_n (m : MethodId) (a1 : Addr)  : entryFrame m #[(.ref a1)] 1 = mkF m 0 #[.val (.ref a1)] [] := by first | (simp [entryFrame, mkF, argsToLocals, maxLocals, Value.category]; done) | rfl
set_option maxRecDepth 65536 in
set_option maxHeartbeats 40000000 in
theorem rmOp_isPresent_n (l : Launch) (Z : State) (a0 : Array Value) (hw : ∀ d ∈ tables_1, d.before a0 Z = true) (ws : List Jvm.Cond) (a1 : Addr) (h0 : Heap) (n0 : Nat) (Z0 : n0 ≤ h0.size) (G1 : Int32) (O2 : Sta Z Z.heap "java/lang/String" "COMPACT_STRINGS" "Z" (.int G1)) (P5 : ¬ (G1 = (0 : Int32))) (eA : Addr) (SE : Sta Z Z.heap "java/util/Optional" "EMPTY" "Ljava/util/Optional;" (.ref eA)) (XE : Exa Z Z.heap eA "java/util/Optional") (FE : Fld Z Z.heap eA "java/util/Optional" "value" "Ljava/lang/Object;" .null) (rZ : Addr) (SZ : Sta Z Z.heap "com/example/miki_basin/mikibasin/Rational" "ZERO" "Lcom/example/miki_basin/mikibasin/Rational;" (.ref rZ)) (X00 : Old Z n0 h0) (p_Fld_a1_value : Fld Z h0 a1 "java/util/Optional" "value" "Ljava/lang/Object;" .null) :
    MetFree l (⟨"java/util/Optional", "isPresent", "()Z"⟩ : MethodName) (head1 (Jvm.Cond.code (⟨"java/util/Optional", "isPresent", "()Z"⟩ : MethodName) jdk_32_method_6_code 1 (Option.some Jvm.ClassFile.FieldType.boolean) :: ws) ({ frames := 0, cells := 0, slots := 0, locals := 0 } : Room)) (fun a U => a = #[(.ref a1)] ∧ Z.Warmed39 U.vm ∧ U.heap = h0) (fun _ _ _ _ _ => True) (fun _ U o U' => ∃ v L, o = .returned v ∧ QrmOp_isPresent_n Z a1 h0 n0 v U'.heap L ∧ FrameEnd U o U' L ({ frames := 0, cells := 0, slots := 0, locals := 0 } : Room).cells ({ frames := 0, cells := 0, slots := 0, locals := 0 } : Room).slots) := by
  refine MetFree.of_bodySF (plainFor_of_name pn_java_util_Optional) hisR ?_
  intro p e s m args below meth c s₁ Bd hml0 hP hK
  obtain ⟨rfl, hZ, hh⟩ := hP
  have hx := Bd.exec
  have hby := Bd.bytes
  have hml : c.maxLocals = 1 := hml0
  have hown : s.vm.findClass "java/util/Optional" = some m.cls := findClass_of_methodNamed Bd.named
  have hnm := (name_of_methodNamed Bd.named Bd.method).1
  have hlk : meth.locks = false := BodyLoose.notSynchronized Bd
  have X0 : Stand p l e ({ frames := 0, cells := 0, slots := 0, locals := 0 } : Room) s m #[(.ref a1)] below meth c s₁ [] 0 0 := Stand.of_body Bd
  have e0 : s₁.heap = h0 := by rw [← hh, Bd.state]; rfl
  have N0 := Fr.nil n0
  show Ends p.tables e below (fun o U' => ∃ v L, o = .returned v ∧ QrmOp_isPresent_n Z a1 h0 n0 v U'.heap L ∧ FrameEnd s o U' L ({ frames := 0, cells := 0, slots := 0, locals := 0 } : Room).cells ({ frames := 0, cells := 0, slots := 0, locals := 0 } : Room).slots) (s₁.setTop (entryFrame m #[(.ref a1)] 1))
  refine Ends.step (fun t k => castTop (ef_rmOp_isPresent_n m a1 ) k) ?_
  show Ends _ _ _ _ (s₁.setTop (mkF m 0 #[.val (.ref a1)] []))
  refine Ends.step (fun t k => XS.aloadN X0.here hx rfl (hb hby d_jdk_32_method_6_code_0) rfl rfl k) ?_
  show Ends _ _ _ _ (s₁.setTop (mkF m 1 #[.val (.ref a1)] [(.ref a1)]))
  obtain ⟨T1, X1, e1, st1⟩ := getF X0 hx hZ hown (host := "") (Or.inl (hw _ (List.mem_of_getElem? (i := 65) rfl))) Via.refl e0 p_Fld_a1_value (g := (mkF m 1 #[.val (.ref a1)] [(.ref a1)])) rfl rfl (hb hby d_jdk_32_method_6_code_1)
  refine Ends.step st1 ?_
  show Ends _ _ _ _ (T1.setTop (mkF m 4 #[.val (.ref a1)] [.null]))
  refine Ends.step (fun t k => XS.ifnullYes X1.here hx rfl (pc0 := 4) (pc' := 11) rfl (hb hby d_jdk_32_method_6_code_4) rfl (by decide) (by decide) k) ?_
  show Ends _ _ _ _ (T1.setTop (mkF m 11 #[.val (.ref a1)] []))
  refine Ends.step (fun t k => XS.iconst X1.here hx rfl (hb hby d_jdk_32_method_6_code_11) k) ?_
  show Ends _ _ _ _ (T1.setTop (mkF m 12 #[.val (.ref a1)] [(.int (0 : Int32))]))
  exact own_finI X1 hx hlk (t := .boolean) Bd.returns (by simp) rfl (hb hby d_jdk_32_method_6_code_12) e1 ⟨rfl, N0, rfl⟩ (by decide) (by decide)
def QrmOp_isPresent_r (Z : State) (a1 : Addr) (a2 : Addr) (h0 : Heap) (n0 : Nat) (v : Option Value) (h : Heap) (L : List Loc) : Prop := v = some (.int (1 : Int32)) ∧ Fr n0 L ∧ h = h0
theorem ef_rmOp_isPresent_r (m : MethodId) (a1 : Addr)  : entryFrame m #[(.ref a1)] 1 = mkF m 0 #[.val (.ref a1)] [] := by first | (simp [entryFrame, mkF, argsToLocals, maxLocals, Value.category]; done) | rfl
set_option maxRecDepth 65536 in
set_option maxHeartbeats 40000000 in
theorem rmOp_isPresent_r (l : Launch) (Z : State) (a0 : Array Value) (hw : ∀ d ∈ tables_1, d.before a0 Z = true) (ws : List Jvm.Cond) (a1 : Addr) (a2 : Addr) (h0 : Heap) (n0 : Nat) (Z0 : n0 ≤ h0.size) (G1 : Int32) (O2 : Sta Z Z.heap "java/lang/String" "COMPACT_STRINGS" "Z" (.int G1)) (P5 : ¬ (G1 = (0 : Int32))) (eA : Addr) (SE : Sta Z Z.heap "java/util/Optional" "EMPTY" "Ljava/util/Optional;" (.ref eA)) (XE : Exa Z Z.heap eA "java/util/Optional") (FE : Fld Z Z.heap eA "java/util/Optional" "value" "Ljava/lang/Object;" .null) (rZ : Addr) (SZ : Sta Z Z.heap "com/example/miki_basin/mikibasin/Rational" "ZERO" "Lcom/example/miki_basin/mikibasin/Rational;" (.ref rZ)) (X00 : Old Z n0 h0) (p_Fld_a1_value : Fld Z h0 a1 "java/util/Optional" "value" "Ljava/lang/Object;" (.ref a2)) :
    MetFree l (⟨"java/util/Optional", "isPresent", "()Z"⟩ : MethodName) (head1 (Jvm.Cond.code (⟨"java/util/Optional", "isPresent", "()Z"⟩ : MethodName) jdk_32_method_6_code 1 (Option.some Jvm.ClassFile.FieldType.boolean) :: ws) ({ frames := 0, cells := 0, slots := 0, locals := 0 } : Room)) (fun a U => a = #[(.ref a1)] ∧ Z.Warmed39 U.vm ∧ U.heap = h0) (fun _ _ _ _ _ => True) (fun _ U o U' => ∃ v L, o = .returned v ∧ QrmOp_isPresent_r Z a1 a2 h0 n0 v U'.heap L ∧ FrameEnd U o U' L ({ frames := 0, cells := 0, slots := 0, locals := 0 } : Room).cells ({ frames := 0, cells := 0, slots := 0, locals := 0 } : Room).slots) := by
  refine MetFree.of_bodySF (plainFor_of_name pn_java_util_Optional) hisR ?_
  intro p e s m args below meth c s₁ Bd hml0 hP hK
  obtain ⟨rfl, hZ, hh⟩ := hP
  have hx := Bd.exec
  have hby := Bd.bytes
  have hml : c.maxLocals = 1 := hml0
  have hown : s.vm.findClass "java/util/Optional" = some m.cls := findClass_of_methodNamed Bd.named
  have hnm := (name_of_methodNamed Bd.named Bd.method).1
  have hlk : meth.locks = false := BodyLoose.notSynchronized Bd
  have X0 : Stand p l e ({ frames := 0, cells := 0, slots := 0, locals := 0 } : Room) s m #[(.ref a1)] below meth c s₁ [] 0 0 := Stand.of_body Bd
  have e0 : s₁.heap = h0 := by rw [← hh, Bd.state]; rfl
  have N0 := Fr.nil n0
  show Ends p.tables e below (fun o U' => ∃ v L, o = .returned v ∧ QrmOp_isPresent_r Z a1 a2 h0 n0 v U'.heap L ∧ FrameEnd s o U' L ({ frames := 0, cells := 0, slots := 0, locals := 0 } : Room).cells ({ frames := 0, cells := 0, slots := 0, locals := 0 } : Room).slots) (s₁.setTop (entryFrame m #[(.ref a1)] 1))
  refine Ends.step (fun t k => castTop (ef_rmOp_isPresent_r m a1 ) k) ?_
  show Ends _ _ _ _ (s₁.setTop (mkF m 0 #[.val (.ref a1)] []))
  refine Ends.step (fun t k => XS.aloadN X0.here hx rfl (hb hby d_jdk_32_method_6_code_0) rfl rfl k) ?_
  show Ends _ _ _ _ (s₁.setTop (mkF m 1 #[.val (.ref a1)] [(.ref a1)]))
  obtain ⟨T1, X1, e1, st1⟩ := getF X0 hx hZ hown (host := "") (Or.inl (hw _ (List.mem_of_getElem? (i := 65) rfl))) Via.refl e0 p_Fld_a1_value (g := (mkF m 1 #[.val (.ref a1)] [(.ref a1)])) rfl rfl (hb hby d_jdk_32_method_6_code_1)
  refine Ends.step st1 ?_
  show Ends _ _ _ _ (T1.setTop (mkF m 4 #[.val (.ref a1)] [(.ref a2)]))
  refine Ends.step (fun t k => XS.ifnullNo X1.here hx rfl (hb hby d_jdk_32_method_6_code_4) rfl k) ?_
  show Ends _ _ _ _ (T1.setTop (mkF m 7 #[.val (.ref a1)] []))
  refine Ends.step (fun t k => XS.iconst X1.here hx rfl (hb hby d_jdk_32_method_6_code_7) k) ?_
  show Ends _ _ _ _ (T1.setTop (mkF m 8 #[.val (.ref a1)] [(.int (1 : Int32))]))
  refine Ends.step (fun t k => XS.goto X1.here hx rfl (pc0 := 8) (pc' := 12) rfl (hb hby d_jdk_32_method_6_code_8) (by decide) (by decide) k) ?_
  show Ends _ _ _ _ (T1.setTop (mkF m 12 #[.val (.ref a1)] [(.int (1 : Int32))]))
  exact own_finI X1 hx hlk (t := .boolean) Bd.returns (by simp) rfl (hb hby d_jdk_32_method_6_code_12) e1 ⟨rfl, N0, rfl⟩ (by decide) (by decide)
def QrmOp_isEmpty_n (Z : State) (a1 : Addr) (h0 : Heap) (n0 : Nat) (v : Option Value) (h : Heap) (L : List Loc) : Prop := v = some (.int (1 : Int32)) ∧ Fr n0 L ∧ h = h0
theorem ef_rmOp_isEmpty_n (m : MethodId) (a1 : Addr)  : entryFrame m #[(.ref a1)] 1 = mkF m 0 #[.val (.ref a1)] [] := by first | (simp [entryFrame, mkF, argsToLocals, maxLocals, Value.category]; done) | rfl
set_option maxRecDepth 65536 in
set_option maxHeartbeats 40000000 in
theorem rmOp_isEmpty_n (l : Launch) (Z : State) (a0 : Array Value) (hw : ∀ d ∈ tables_1, d.before a0 Z = true) (ws : List Jvm.Cond) (a1 : Addr) (h0 : Heap) (n0 : Nat) (Z0 : n0 ≤ h0.size) (G1 : Int32) (O2 : Sta Z Z.heap "java/lang/String" "COMPACT_STRINGS" "Z" (.int G1)) (P5 : ¬ (G1 = (0 : Int32))) (eA : Addr) (SE : Sta Z Z.heap "java/util/Optional" "EMPTY" "Ljava/util/Optional;" (.ref eA)) (XE : Exa Z Z.heap eA "java/util/Optional") (FE : Fld Z Z.heap eA "java/util/Optional" "value" "Ljava/lang/Object;" .null) (rZ : Addr) (SZ : Sta Z Z.heap "com/example/miki_basin/mikibasin/Rational" "ZERO" "Lcom/example/miki_basin/mikibasin/Rational;" (.ref rZ)) (X00 : Old Z n0 h0) (p_Fld_a1_value : Fld Z h0 a1 "java/util/Optional" "value" "Ljava/lang/Object;" .null) :
    MetFree l (⟨"java/util/Optional", "isEmpty", "()Z"⟩ : MethodName) (head1 (Jvm.Cond.code (⟨"java/util/Optional", "isEmpty", "()Z"⟩ : MethodName) jdk_32_method_7_code 1 (Option.some Jvm.ClassFile.FieldType.boolean) :: ws) ({ frames := 0, cells := 0, slots := 0, locals := 0 } : Room)) (fun a U => a = #[(.ref a1)] ∧ Z.Warmed39 U.vm ∧ U.heap = h0) (fun _ _ _ _ _ => True) (fun _ U o U' => ∃ v L, o = .returned v ∧ QrmOp_isEmpty_n Z a1 h0 n0 v U'.heap L ∧ FrameEnd U o U' L ({ frames := 0, cells := 0, slots := 0, locals := 0 } : Room).cells ({ frames := 0, cells := 0, slots := 0, locals := 0 } : Room).slots) := by
  refine MetFree.of_bodySF (plainFor_of_name pn_java_util_Optional) hisR ?_
  intro p e s m args below meth c s₁ Bd hml0 hP hK
  obtain ⟨rfl, hZ, hh⟩ := hP
  have hx := Bd.exec
  have hby := Bd.bytes
  have hml : c.maxLocals = 1 := hml0
  have hown : s.vm.findClass "java/util/Optional" = some m.cls := findClass_of_methodNamed Bd.named
  have hnm := (name_of_methodNamed Bd.named Bd.method).1
  have hlk : meth.locks = false := BodyLoose.notSynchronized Bd
  have X0 : Stand p l e ({ frames := 0, cells := 0, slots := 0, locals := 0 } : Room) s m #[(.ref a1)] below meth c s₁ [] 0 0 := Stand.of_body Bd
  have e0 : s₁.heap = h0 := by rw [← hh, Bd.state]; rfl
  have N0 := Fr.nil n0
  show Ends p.tables e below (fun o U' => ∃ v L, o = .returned v ∧ QrmOp_isEmpty_n Z a1 h0 n0 v U'.heap L ∧ FrameEnd s o U' L ({ frames := 0, cells := 0, slots := 0, locals := 0 } : Room).cells ({ frames := 0, cells := 0, slots := 0, locals := 0 } : Room).slots) (s₁.setTop (entryFrame m #[(.ref a1)] 1))
  refine Ends.step (fun t k => castTop (ef_rmOp_isEmpty_n m a1 ) k) ?_
  show Ends _ _ _ _ (s₁.setTop (mkF m 0 #[.val (.ref a1)] []))
  refine Ends.step (fun t k => XS.aloadN X0.here hx rfl (hb hby d_jdk_32_method_7_code_0) rfl rfl k) ?_
  show Ends _ _ _ _ (s₁.setTop (mkF m 1 #[.val (.ref a1)] [(.ref a1)]))
  obtain ⟨T1, X1, e1, st1⟩ := getF X0 hx hZ hown (host := "") (Or.inl (hw _ (List.mem_of_getElem? (i := 65) rfl))) Via.refl e0 p_Fld_a1_value (g := (mkF m 1 #[.val (.ref a1)] [(.ref a1)])) rfl rfl (hb hby d_jdk_32_method_7_code_1)
  refine Ends.step st1 ?_
  show Ends _ _ _ _ (T1.setTop (mkF m 4 #[.val (.ref a1)] [.null]))
  refine Ends.step (fun t k => XS.ifnonnullNo X1.here hx rfl (hb hby d_jdk_32_method_7_code_4) rfl k) ?_
  show Ends _ _ _ _ (T1.setTop (mkF m 7 #[.val (.ref a1)] []))
  refine Ends.step (fun t k => XS.iconst X1.here hx rfl (hb hby d_jdk_32_method_7_code_7) k) ?_
  show Ends _ _ _ _ (T1.setTop (mkF m 8 #[.val (.ref a1)] [(.int (1 : Int32))]))
  refine Ends.step (fun t k => XS.goto X1.here hx rfl (pc0 := 8) (pc' := 12) rfl (hb hby d_jdk_32_method_7_code_8) (by decide) (by decide) k) ?_
  show Ends _ _ _ _ (T1.setTop (mkF m 12 #[.val (.ref a1)] [(.int (1 : Int32))]))
  exact own_finI X1 hx hlk (t := .boolean) Bd.returns (by simp) rfl (hb hby d_jdk_32_method_7_code_12) e1 ⟨rfl, N0, rfl⟩ (by decide) (by decide)
def QrmOp_isEmpty_r (Z : State) (a1 : Addr) (a2 : Addr) (h0 : Heap) (n0 : Nat) (v : Option Value) (h : Heap) (L : List Loc) : Prop := v = some (.int (0 : Int32)) ∧ Fr n0 L ∧ h = h0
theorem ef_rmOp_isEmpty_r (m : MethodId) (a1 : Addr)  : entryFrame m #[(.ref a1)] 1 = mkF m 0 #[.val (.ref a1)] [] := by first | (simp [entryFrame, mkF, argsToLocals, maxLocals, Value.category]; done) | rfl
set_option maxRecDepth 65536 in
set_option maxHeartbeats 40000000 in
theorem rmOp_isEmpty_r (l : Launch) (Z : State) (a0 : Array Value) (hw : ∀ d ∈ tables_1, d.before a0 Z = true) (ws : List Jvm.Cond) (a1 : Addr) (a2 : Addr) (h0 : Heap) (n0 : Nat) (Z0 : n0 ≤ h0.size) (G1 : Int32) (O2 : Sta Z Z.heap "java/lang/String" "COMPACT_STRINGS" "Z" (.int G1)) (P5 : ¬ (G1 = (0 : Int32))) (eA : Addr) (SE : Sta Z Z.heap "java/util/Optional" "EMPTY" "Ljava/util/Optional;" (.ref eA)) (XE : Exa Z Z.heap eA "java/util/Optional") (FE : Fld Z Z.heap eA "java/util/Optional" "value" "Ljava/lang/Object;" .null) (rZ : Addr) (SZ : Sta Z Z.heap "com/example/miki_basin/mikibasin/Rational" "ZERO" "Lcom/example/miki_basin/mikibasin/Rational;" (.ref rZ)) (X00 : Old Z n0 h0) (p_Fld_a1_value : Fld Z h0 a1 "java/util/Optional" "value" "Ljava/lang/Object;" (.ref a2)) :
    MetFree l (⟨"java/util/Optional", "isEmpty", "()Z"⟩ : MethodName) (head1 (Jvm.Cond.code (⟨"java/util/Optional", "isEmpty", "()Z"⟩ : MethodName) jdk_32_method_7_code 1 (Option.some Jvm.ClassFile.FieldType.boolean) :: ws) ({ frames := 0, cells := 0, slots := 0, locals := 0 } : Room)) (fun a U => a = #[(.ref a1)] ∧ Z.Warmed39 U.vm ∧ U.heap = h0) (fun _ _ _ _ _ => True) (fun _ U o U' => ∃ v L, o = .returned v ∧ QrmOp_isEmpty_r Z a1 a2 h0 n0 v U'.heap L ∧ FrameEnd U o U' L ({ frames := 0, cells := 0, slots := 0, locals := 0 } : Room).cells ({ frames := 0, cells := 0, slots := 0, locals := 0 } : Room).slots) := by
  refine MetFree.of_bodySF (plainFor_of_name pn_java_util_Optional) hisR ?_
  intro p e s m args below meth c s₁ Bd hml0 hP hK
  obtain ⟨rfl, hZ, hh⟩ := hP
  have hx := Bd.exec
  have hby := Bd.bytes
  have hml : c.maxLocals = 1 := hml0
  have hown : s.vm.findClass "java/util/Optional" = some m.cls := findClass_of_methodNamed Bd.named
  have hnm := (name_of_methodNamed Bd.named Bd.method).1
  have hlk : meth.locks = false := BodyLoose.notSynchronized Bd
  have X0 : Stand p l e ({ frames := 0, cells := 0, slots := 0, locals := 0 } : Room) s m #[(.ref a1)] below meth c s₁ [] 0 0 := Stand.of_body Bd
  have e0 : s₁.heap = h0 := by rw [← hh, Bd.state]; rfl
  have N0 := Fr.nil n0
  show Ends p.tables e below (fun o U' => ∃ v L, o = .returned v ∧ QrmOp_isEmpty_r Z a1 a2 h0 n0 v U'.heap L ∧ FrameEnd s o U' L ({ frames := 0, cells := 0, slots := 0, locals := 0 } : Room).cells ({ frames := 0, cells := 0, slots := 0, locals := 0 } : Room).slots) (s₁.setTop (entryFrame m #[(.ref a1)] 1))
  refine Ends.step (fun t k => castTop (ef_rmOp_isEmpty_r m a1 ) k) ?_
  show Ends _ _ _ _ (s₁.setTop (mkF m 0 #[.val (.ref a1)] []))
  refine Ends.step (fun t k => XS.aloadN X0.here hx rfl (hb hby d_jdk_32_method_7_code_0) rfl rfl k) ?_
  show Ends _ _ _ _ (s₁.setTop (mkF m 1 #[.val (.ref a1)] [(.ref a1)]))
  obtain ⟨T1, X1, e1, st1⟩ := getF X0 hx hZ hown (host := "") (Or.inl (hw _ (List.mem_of_getElem? (i := 65) rfl))) Via.refl e0 p_Fld_a1_value (g := (mkF m 1 #[.val (.ref a1)] [(.ref a1)])) rfl rfl (hb hby d_jdk_32_method_7_code_1)
  refine Ends.step st1 ?_
  show Ends _ _ _ _ (T1.setTop (mkF m 4 #[.val (.ref a1)] [(.ref a2)]))
  refine Ends.step (fun t k => XS.ifnonnullYes X1.here hx rfl (pc0 := 4) (pc' := 11) rfl (hb hby d_jdk_32_method_7_code_4) rfl (by decide) (by decide) k) ?_
  show Ends _ _ _ _ (T1.setTop (mkF m 11 #[.val (.ref a1)] []))
  refine Ends.step (fun t k => XS.iconst X1.here hx rfl (hb hby d_jdk_32_method_7_code_11) k) ?_
  show Ends _ _ _ _ (T1.setTop (mkF m 12 #[.val (.ref a1)] [(.int (0 : Int32))]))
  exact own_finI X1 hx hlk (t := .boolean) Bd.returns (by simp) rfl (hb hby d_jdk_32_method_7_code_12) e1 ⟨rfl, N0, rfl⟩ (by decide) (by decide)
def QrmOpGet (Z : State) (a1 : Addr) (a2 : Addr) (h0 : Heap) (n0 : Nat) (v : Option Value) (h : Heap) (L : List Loc) : Prop := v = some (.ref a2) ∧ Fr n0 L ∧ h = h0
theorem ef_rmOpGet (m : MethodId) (a1 : Addr)  : entryFrame m #[(.ref a1)] 1 = mkF m 0 #[.val (.ref a1)] [] := by first | (simp [entryFrame, mkF, argsToLocals, maxLocals, Value.category]; done) | rfl
set_option maxRecDepth 65536 in
set_option maxHeartbeats 40000000 in
theorem rmOpGet (l : Launch) (Z : State) (a0 : Array Value) (hw : ∀ d ∈ tables_1, d.before a0 Z = true) (ws : List Jvm.Cond) (a1 : Addr) (a2 : Addr) (h0 : Heap) (n0 : Nat) (Z0 : n0 ≤ h0.size) (G1 : Int32) (O2 : Sta Z Z.heap "java/lang/String" "COMPACT_STRINGS" "Z" (.int G1)) (P5 : ¬ (G1 = (0 : Int32))) (eA : Addr) (SE : Sta Z Z.heap "java/util/Optional" "EMPTY" "Ljava/util/Optional;" (.ref eA)) (XE : Exa Z Z.heap eA "java/util/Optional") (FE : Fld Z Z.heap eA "java/util/Optional" "value" "Ljava/lang/Object;" .null) (rZ : Addr) (SZ : Sta Z Z.heap "com/example/miki_basin/mikibasin/Rational" "ZERO" "Lcom/example/miki_basin/mikibasin/Rational;" (.ref rZ)) (X00 : Old Z n0 h0) (p_Fld_a1_value : Fld Z h0 a1 "java/util/Optional" "value" "Ljava/lang/Object;" (.ref a2)) :
    MetFree l (⟨"java/util/Optional", "get", "()Ljava/lang/Object;"⟩ : MethodName) (head1 (Jvm.Cond.code (⟨"java/util/Optional", "get", "()Ljava/lang/Object;"⟩ : MethodName) jdk_32_method_5_code 1 (Option.some (Jvm.ClassFile.FieldType.object "java/lang/Object")) :: ws) ({ frames := 0, cells := 0, slots := 0, locals := 0 } : Room)) (fun a U => a = #[(.ref a1)] ∧ Z.Warmed39 U.vm ∧ U.heap = h0) (fun _ _ _ _ _ => True) (fun _ U o U' => ∃ v L, o = .returned v ∧ QrmOpGet Z a1 a2 h0 n0 v U'.heap L ∧ FrameEnd U o U' L ({ frames := 0, cells := 0, slots := 0, locals := 0 } : Room).cells ({ frames := 0, cells := 0, slots := 0, locals := 0 } : Room).slots) := by
  refine MetFree.of_bodySF (plainFor_of_name pn_java_util_Optional) hisR ?_
  intro p e s m args below meth c s₁ Bd hml0 hP hK
  obtain ⟨rfl, hZ, hh⟩ := hP
  have hx := Bd.exec
  have hby := Bd.bytes
  have hml : c.maxLocals = 1 := hml0
  have hown : s.vm.findClass "java/util/Optional" = some m.cls := findClass_of_methodNamed Bd.named
  have hnm := (name_of_methodNamed Bd.named Bd.method).1
  have hlk : meth.locks = false := BodyLoose.notSynchronized Bd
  have X0 : Stand p l e ({ frames := 0, cells := 0, slots := 0, locals := 0 } : Room) s m #[(.ref a1)] below meth c s₁ [] 0 0 := Stand.of_body Bd
  have e0 : s₁.heap = h0 := by rw [← hh, Bd.state]; rfl
  have N0 := Fr.nil n0
  show Ends p.tables e below (fun o U' => ∃ v L, o = .returned v ∧ QrmOpGet Z a1 a2 h0 n0 v U'.heap L ∧ FrameEnd s o U' L ({ frames := 0, cells := 0, slots := 0, locals := 0 } : Room).cells ({ frames := 0, cells := 0, slots := 0, locals := 0 } : Room).slots) (s₁.setTop (entryFrame m #[(.ref a1)] 1))
  refine Ends.step (fun t k => castTop (ef_rmOpGet m a1 ) k) ?_
  show Ends _ _ _ _ (s₁.setTop (mkF m 0 #[.val (.ref a1)] []))
  refine Ends.step (fun t k => XS.aloadN X0.here hx rfl (hb hby d_jdk_32_method_5_code_0) rfl rfl k) ?_
  show Ends _ _ _ _ (s₁.setTop (mkF m 1 #[.val (.ref a1)] [(.ref a1)]))
  obtain ⟨T1, X1, e1, st1⟩ := getF X0 hx hZ hown (host := "") (Or.inl (hw _ (List.mem_of_getElem? (i := 65) rfl))) Via.refl e0 p_Fld_a1_value (g := (mkF m 1 #[.val (.ref a1)] [(.ref a1)])) rfl rfl (hb hby d_jdk_32_method_5_code_1)
  refine Ends.step st1 ?_
  show Ends _ _ _ _ (T1.setTop (mkF m 4 #[.val (.ref a1)] [(.ref a2)]))
  refine Ends.step (fun t k => XS.ifnonnullYes X1.here hx rfl (pc0 := 4) (pc' := 17) rfl (hb hby d_jdk_32_method_5_code_4) rfl (by decide) (by decide) k) ?_
  show Ends _ _ _ _ (T1.setTop (mkF m 17 #[.val (.ref a1)] []))
  refine Ends.step (fun t k => XS.aloadN X1.here hx rfl (hb hby d_jdk_32_method_5_code_17) rfl rfl k) ?_
  show Ends _ _ _ _ (T1.setTop (mkF m 18 #[.val (.ref a1)] [(.ref a1)]))
  obtain ⟨T2, X2, e2, st2⟩ := getF X1 hx hZ hown (host := "") (Or.inl (hw _ (List.mem_of_getElem? (i := 65) rfl))) Via.refl e1 p_Fld_a1_value (g := (mkF m 18 #[.val (.ref a1)] [(.ref a1)])) rfl rfl (hb hby d_jdk_32_method_5_code_18)
  refine Ends.step st2 ?_
  show Ends _ _ _ _ (T2.setTop (mkF m 21 #[.val (.ref a1)] [(.ref a2)]))
  exact own_finR X2 hx hlk Bd.returns rfl rfl (hb hby d_jdk_32_method_5_code_21) e2 ⟨rfl, N0, rfl⟩ (by decide) (by decide)
def QrmRec (Z : State) (a1 : Addr) (h0 : Heap) (n0 : Nat) (v : Option Value) (h : Heap) (L : List Loc) : Prop := v = none ∧ Fr n0 L ∧ h = h0
theorem ef_rmRec (m : MethodId) (a1 : Addr)  : entryFrame m #[(.ref a1)] 1 = mkF m 0 #[.val (.ref a1)] [] := by first | (simp [entryFrame, mkF, argsToLocals, maxLocals, Value.category]; done) | rfl
set_option maxRecDepth 65536 in
set_option maxHeartbeats 40000000 in
theorem rmRec (l : Launch) (Z : State) (a0 : Array Value) (hw : ∀ d ∈ tables_1, d.before a0 Z = true) (ws : List Jvm.Cond) (a1 : Addr) (h0 : Heap) (n0 : Nat) (Z0 : n0 ≤ h0.size) (G1 : Int32) (O2 : Sta Z Z.heap "java/lang/String" "COMPACT_STRINGS" "Z" (.int G1)) (P5 : ¬ (G1 = (0 : Int32))) (eA : Addr) (SE : Sta Z Z.heap "java/util/Optional" "EMPTY" "Ljava/util/Optional;" (.ref eA)) (XE : Exa Z Z.heap eA "java/util/Optional") (FE : Fld Z Z.heap eA "java/util/Optional" "value" "Ljava/lang/Object;" .null) (rZ : Addr) (SZ : Sta Z Z.heap "com/example/miki_basin/mikibasin/Rational" "ZERO" "Lcom/example/miki_basin/mikibasin/Rational;" (.ref rZ)) (X00 : Old Z n0 h0)  :
    MetFree l (⟨"java/lang/Record", "<init>", "()V"⟩ : MethodName) (head1 (Jvm.Cond.code (⟨"java/lang/Record", "<init>", "()V"⟩ : MethodName) jdk_30_method_1_code 1 (Option.none : Option Jvm.ClassFile.FieldType) :: ws) ({ frames := 1, cells := 0, slots := 0, locals := 12 } : Room)) (fun a U => a = #[(.ref a1)] ∧ Z.Warmed39 U.vm ∧ U.heap = h0) (fun _ _ _ _ _ => True) (fun _ U o U' => ∃ v L, o = .returned v ∧ QrmRec Z a1 h0 n0 v U'.heap L ∧ FrameEnd U o U' L ({ frames := 1, cells := 0, slots := 0, locals := 12 } : Room).cells ({ frames := 1, cells := 0, slots := 0, locals := 12 } : Room).slots) := by
  refine MetFree.of_bodySF (plainFor_of_name pn_java_lang_Record) hisR ?_
  intro p e s m args below meth c s₁ Bd hml0 hP hK
  obtain ⟨rfl, hZ, hh⟩ := hP
  have hx := Bd.exec
  have hby := Bd.bytes
  have hml : c.maxLocals = 1 := hml0
  have hown : s.vm.findClass "java/lang/Record" = some m.cls := findClass_of_methodNamed Bd.named
  have hnm := (name_of_methodNamed Bd.named Bd.method).1
  have hlk : meth.locks = false := BodyLoose.notSynchronized Bd
  have X0 : Stand p l e ({ frames := 1, cells := 0, slots := 0, locals := 12 } : Room) s m #[(.ref a1)] below meth c s₁ [] 0 0 := Stand.of_body Bd
  have e0 : s₁.heap = h0 := by rw [← hh, Bd.state]; rfl
  have N0 := Fr.nil n0
  show Ends p.tables e below (fun o U' => ∃ v L, o = .returned v ∧ QrmRec Z a1 h0 n0 v U'.heap L ∧ FrameEnd s o U' L ({ frames := 1, cells := 0, slots := 0, locals := 12 } : Room).cells ({ frames := 1, cells := 0, slots := 0, locals := 12 } : Room).slots) (s₁.setTop (entryFrame m #[(.ref a1)] 1))
  refine Ends.step (fun t k => castTop (ef_rmRec m a1 ) k) ?_
  show Ends _ _ _ _ (s₁.setTop (mkF m 0 #[.val (.ref a1)] []))
  refine Ends.step (fun t k => XS.aloadN X0.here hx rfl (hb hby d_jdk_30_method_1_code_0) rfl rfl k) ?_
  show Ends _ _ _ _ (s₁.setTop (mkF m 1 #[.val (.ref a1)] [(.ref a1)]))
  obtain ⟨T1, X1, e1, st1⟩ := initO X0 hx hZ hown (hw _ (List.mem_of_getElem? (i := 78) rfl)) (hw _ (List.mem_of_getElem? (i := 12) rfl)) (hw _ (List.mem_of_getElem? (i := 13) rfl)) e0 (g := (mkF m 1 #[.val (.ref a1)] [(.ref a1)])) rfl (by rw [hml]; rfl) rfl (hb hby d_jdk_30_method_1_code_1) (by decide) (W := 0) (by show 2 * 0 + _ ≤ _; exact Nat.le_of_eq rfl) (by decide)
  refine Ends.step st1 ?_
  show Ends _ _ _ _ (T1.setTop (mkF m 4 #[.val (.ref a1)] []))
  exact own_finV X1 hx hlk Bd.returns (hb hby d_jdk_30_method_1_code_4) e1 (K := _) ⟨rfl, N0, rfl⟩ (by decide) (by decide)
def QrmFigI (Z : State) (a1 : Addr) (v0 : Value) (v1 : Value) (v2 : Value) (h0 : Heap) (n0 : Nat) (v : Option Value) (h : Heap) (L : List Loc) : Prop := v = none ∧ Fr n0 L ∧ Keep h0 h [a1] ∧ (Exa Z h a1 "com/example/miki_basin/mikibasin/Figure") ∧ (Fld Z h a1 "com/example/miki_basin/mikibasin/Figure" "number" "Ljava/math/BigDecimal;" v0) ∧ (Fld Z h a1 "com/example/miki_basin/mikibasin/Figure" "value" "Lcom/example/miki_basin/mikibasin/Rational;" v1) ∧ (Fld Z h a1 "com/example/miki_basin/mikibasin/Figure" "formula" "Lcom/example/miki_basin/mikibasin/Formula;" v2)
theorem ef_rmFigI (m : MethodId) (a1 : Addr) (v0 : Value) (v1 : Value) (v2 : Value) (r_v0 : Value.isRef v0 = true) (r_v1 : Value.isRef v1 = true) (r_v2 : Value.isRef v2 = true) : entryFrame m #[(.ref a1), v0, v1, v2] 4 = mkF m 0 #[.val (.ref a1), .val v0, .val v1, .val v2] [] := by first | (simp [entryFrame, mkF, argsToLocals, maxLocals, own_cR, own_cI, own_cN, own_cJ, XT.cat1 r_v0, XT.cat1 r_v1, XT.cat1 r_v2]; done) | rfl
set_option maxRecDepth 65536 in
set_option maxHeartbeats 40000000 in
theorem rmFigI (l : Launch) (Z : State) (a0 : Array Value) (hw : ∀ d ∈ tables_1, d.before a0 Z = true) (ws : List Jvm.Cond) (a1 : Addr) (v0 : Value) (v1 : Value) (v2 : Value) (h0 : Heap) (n0 : Nat) (Z0 : n0 ≤ h0.size) (G1 : Int32) (O2 : Sta Z Z.heap "java/lang/String" "COMPACT_STRINGS" "Z" (.int G1)) (P5 : ¬ (G1 = (0 : Int32))) (eA : Addr) (SE : Sta Z Z.heap "java/util/Optional" "EMPTY" "Ljava/util/Optional;" (.ref eA)) (XE : Exa Z Z.heap eA "java/util/Optional") (FE : Fld Z Z.heap eA "java/util/Optional" "value" "Ljava/lang/Object;" .null) (rZ : Addr) (SZ : Sta Z Z.heap "com/example/miki_basin/mikibasin/Rational" "ZERO" "Lcom/example/miki_basin/mikibasin/Rational;" (.ref rZ)) (X00 : Old Z n0 h0) (r_v0 : Value.isRef v0 = true) (r_v1 : Value.isRef v1 = true) (r_v2 : Value.isRef v2 = true) (p_Exa_a1 : Exa Z h0 a1 "com/example/miki_basin/mikibasin/Figure") (p_Fld_a1_number : Fld Z h0 a1 "com/example/miki_basin/mikibasin/Figure" "number" "Ljava/math/BigDecimal;" .null) (p_Fld_a1_value : Fld Z h0 a1 "com/example/miki_basin/mikibasin/Figure" "value" "Lcom/example/miki_basin/mikibasin/Rational;" .null) (p_Fld_a1_formula : Fld Z h0 a1 "com/example/miki_basin/mikibasin/Figure" "formula" "Lcom/example/miki_basin/mikibasin/Formula;" .null) (ge1 : n0 ≤ a1) :
    MetFree l (⟨"com/example/miki_basin/mikibasin/Figure", "<init>", "(Ljava/math/BigDecimal;Lcom/example/miki_basin/mikibasin/Rational;Lcom/example/miki_basin/mikibasin/Formula;)V"⟩ : MethodName) (head1 (Jvm.Cond.code (⟨"com/example/miki_basin/mikibasin/Figure", "<init>", "(Ljava/math/BigDecimal;Lcom/example/miki_basin/mikibasin/Rational;Lcom/example/miki_basin/mikibasin/Formula;)V"⟩ : MethodName) prog_8_method_1_code 4 (Option.none : Option Jvm.ClassFile.FieldType) :: ws) ({ frames := 1, cells := 0, slots := 0, locals := 12 } : Room)) (fun a U => a = #[(.ref a1), v0, v1, v2] ∧ Z.Warmed39 U.vm ∧ U.heap = h0) (fun _ _ _ _ _ => True) (fun _ U o U' => ∃ v L, o = .returned v ∧ QrmFigI Z a1 v0 v1 v2 h0 n0 v U'.heap L ∧ FrameEnd U o U' L ({ frames := 1, cells := 0, slots := 0, locals := 12 } : Room).cells ({ frames := 1, cells := 0, slots := 0, locals := 12 } : Room).slots) := by
  refine MetFree.of_bodySF (plainFor_of_name pn_com_example_miki_basin_mikibasin_Figure) hisR ?_
  intro p e s m args below meth c s₁ Bd hml0 hP hK
  obtain ⟨rfl, hZ, hh⟩ := hP
  have hx := Bd.exec
  have hby := Bd.bytes
  have hml : c.maxLocals = 4 := hml0
  have hown : s.vm.findClass "com/example/miki_basin/mikibasin/Figure" = some m.cls := findClass_of_methodNamed Bd.named
  have hnm := (name_of_methodNamed Bd.named Bd.method).1
  have hlk : meth.locks = false := BodyLoose.notSynchronized Bd
  have X0 : Stand p l e ({ frames := 1, cells := 0, slots := 0, locals := 12 } : Room) s m #[(.ref a1), v0, v1, v2] below meth c s₁ [] 0 0 := Stand.of_body Bd
  have e0 : s₁.heap = h0 := by rw [← hh, Bd.state]; rfl
  have N0 := Fr.nil n0
  show Ends p.tables e below (fun o U' => ∃ v L, o = .returned v ∧ QrmFigI Z a1 v0 v1 v2 h0 n0 v U'.heap L ∧ FrameEnd s o U' L ({ frames := 1, cells := 0, slots := 0, locals := 12 } : Room).cells ({ frames := 1, cells := 0, slots := 0, locals := 12 } : Room).slots) (s₁.setTop (entryFrame m #[(.ref a1), v0, v1, v2] 4))
  refine Ends.step (fun t k => castTop (ef_rmFigI m a1 v0 v1 v2 r_v0 r_v1 r_v2) k) ?_
  show Ends _ _ _ _ (s₁.setTop (mkF m 0 #[.val (.ref a1), .val v0, .val v1, .val v2] []))
  refine Ends.step (fun t k => XS.aloadN X0.here hx rfl (hb hby d_prog_8_method_1_code_0) rfl rfl k) ?_
  show Ends _ _ _ _ (s₁.setTop (mkF m 1 #[.val (.ref a1), .val v0, .val v1, .val v2] [(.ref a1)]))
  obtain ⟨T1, X1, e1, st1⟩ := initO X0 hx hZ hown (hw _ (List.mem_of_getElem? (i := 39) rfl)) (hw _ (List.mem_of_getElem? (i := 12) rfl)) (hw _ (List.mem_of_getElem? (i := 13) rfl)) e0 (g := (mkF m 1 #[.val (.ref a1), .val v0, .val v1, .val v2] [(.ref a1)])) rfl (by rw [hml]; rfl) rfl (hb hby d_prog_8_method_1_code_1) (by decide) (W := 0) (by show 2 * 0 + _ ≤ _; exact Nat.le_of_eq rfl) (by decide)
  refine Ends.step st1 ?_
  show Ends _ _ _ _ (T1.setTop (mkF m 4 #[.val (.ref a1), .val v0, .val v1, .val v2] []))
  refine Ends.step (fun t k => XS.aloadN X1.here hx rfl (hb hby d_prog_8_method_1_code_4) rfl rfl k) ?_
  show Ends _ _ _ _ (T1.setTop (mkF m 5 #[.val (.ref a1), .val v0, .val v1, .val v2] [(.ref a1)]))
  refine Ends.step (fun t k => XS.aloadN X1.here hx rfl (hb hby d_prog_8_method_1_code_5) rfl r_v0 k) ?_
  show Ends _ _ _ _ (T1.setTop (mkF m 6 #[.val (.ref a1), .val v0, .val v1, .val v2] [v0, (.ref a1)]))
  obtain ⟨T2, h2, X2, e2, W2, st2⟩ := putF X1 hx hZ hown (host := "") (Or.inl (hw _ (List.mem_of_getElem? (i := 40) rfl))) Via.refl e1 p_Fld_a1_number p_Exa_a1 (Or.inr ⟨(hw _ (List.mem_of_getElem? (i := 41) rfl)), rfl, hnm⟩) (hw _ (List.mem_of_getElem? (i := 35) rfl)) (ty := (.object "java/math/BigDecimal")) (by decide) (own_narrow_ref r_v0 rfl) (own_fits_ref r_v0 rfl) (g := (mkF m 6 #[.val (.ref a1), .val v0, .val v1, .val v2] [v0, (.ref a1)])) rfl rfl (hb hby d_prog_8_method_1_code_6)
  have N2 := Fr.snoc X2 N0 ge1
  have Fw2 : Fld Z h2 a1 "com/example/miki_basin/mikibasin/Figure" "number" "Ljava/math/BigDecimal;" v0 := p_Fld_a1_number.same W2
  refine Ends.step st2 ?_
  show Ends _ _ _ _ (T2.setTop (mkF m 9 #[.val (.ref a1), .val v0, .val v1, .val v2] []))
  refine Ends.step (fun t k => XS.aloadN X2.here hx rfl (hb hby d_prog_8_method_1_code_9) rfl rfl k) ?_
  show Ends _ _ _ _ (T2.setTop (mkF m 10 #[.val (.ref a1), .val v0, .val v1, .val v2] [(.ref a1)]))
  refine Ends.step (fun t k => XS.aloadN X2.here hx rfl (hb hby d_prog_8_method_1_code_10) rfl r_v1 k) ?_
  show Ends _ _ _ _ (T2.setTop (mkF m 11 #[.val (.ref a1), .val v0, .val v1, .val v2] [v1, (.ref a1)]))
  have F3 : Exa Z h2 a1 "com/example/miki_basin/mikibasin/Figure" := (p_Exa_a1.wr W2)
  have F4 : Fld Z h2 a1 "com/example/miki_basin/mikibasin/Figure" "value" "Lcom/example/miki_basin/mikibasin/Rational;" .null := (p_Fld_a1_value.other W2 (Or.inr (sn_com_example_miki_basin_mikibasin_Figure_value__number hw)))
  obtain ⟨T5, h5, X5, e5, W5, st5⟩ := putF X2 hx hZ hown (host := "") (Or.inl (hw _ (List.mem_of_getElem? (i := 42) rfl))) Via.refl e2 F4 F3 (Or.inr ⟨(hw _ (List.mem_of_getElem? (i := 43) rfl)), rfl, hnm⟩) (hw _ (List.mem_of_getElem? (i := 35) rfl)) (ty := (.object "com/example/miki_basin/mikibasin/Rational")) (by decide) (own_narrow_ref r_v1 rfl) (own_fits_ref r_v1 rfl) (g := (mkF m 11 #[.val (.ref a1), .val v0, .val v1, .val v2] [v1, (.ref a1)])) rfl rfl (hb hby d_prog_8_method_1_code_11)
  have N5 := Fr.snoc X5 N2 ge1
  have Fw5 : Fld Z h5 a1 "com/example/miki_basin/mikibasin/Figure" "value" "Lcom/example/miki_basin/mikibasin/Rational;" v1 := F4.same W5
  refine Ends.step st5 ?_
  show Ends _ _ _ _ (T5.setTop (mkF m 14 #[.val (.ref a1), .val v0, .val v1, .val v2] []))
  refine Ends.step (fun t k => XS.aloadN X5.here hx rfl (hb hby d_prog_8_method_1_code_14) rfl rfl k) ?_
  show Ends _ _ _ _ (T5.setTop (mkF m 15 #[.val (.ref a1), .val v0, .val v1, .val v2] [(.ref a1)]))
  refine Ends.step (fun t k => XS.aloadN X5.here hx rfl (hb hby d_prog_8_method_1_code_15) rfl r_v2 k) ?_
  show Ends _ _ _ _ (T5.setTop (mkF m 16 #[.val (.ref a1), .val v0, .val v1, .val v2] [v2, (.ref a1)]))
  have F6 : Exa Z h5 a1 "com/example/miki_basin/mikibasin/Figure" := (F3.wr W5)
  have F7 : Fld Z h5 a1 "com/example/miki_basin/mikibasin/Figure" "formula" "Lcom/example/miki_basin/mikibasin/Formula;" .null := ((p_Fld_a1_formula.other W2 (Or.inr (sn_com_example_miki_basin_mikibasin_Figure_formula__number hw))).other W5 (Or.inr (sn_com_example_miki_basin_mikibasin_Figure_formula__value hw)))
  obtain ⟨T8, h8, X8, e8, W8, st8⟩ := putF X5 hx hZ hown (host := "") (Or.inl (hw _ (List.mem_of_getElem? (i := 44) rfl))) Via.refl e5 F7 F6 (Or.inr ⟨(hw _ (List.mem_of_getElem? (i := 45) rfl)), rfl, hnm⟩) (hw _ (List.mem_of_getElem? (i := 35) rfl)) (ty := (.object "com/example/miki_basin/mikibasin/Formula")) (by decide) (own_narrow_ref r_v2 rfl) (own_fits_ref r_v2 rfl) (g := (mkF m 16 #[.val (.ref a1), .val v0, .val v1, .val v2] [v2, (.ref a1)])) rfl rfl (hb hby d_prog_8_method_1_code_16)
  have N8 := Fr.snoc X8 N5 ge1
  have Fw8 : Fld Z h8 a1 "com/example/miki_basin/mikibasin/Figure" "formula" "Lcom/example/miki_basin/mikibasin/Formula;" v2 := F7.same W8
  refine Ends.step st8 ?_
  show Ends _ _ _ _ (T8.setTop (mkF m 19 #[.val (.ref a1), .val v0, .val v1, .val v2] []))
  have F9 : Exa Z h8 a1 "com/example/miki_basin/mikibasin/Figure" := (F6.wr W8)
  have F10 : Fld Z h8 a1 "com/example/miki_basin/mikibasin/Figure" "number" "Ljava/math/BigDecimal;" v0 := ((Fw2.other W5 (Or.inr (sn_com_example_miki_basin_mikibasin_Figure_number__value hw))).other W8 (Or.inr (sn_com_example_miki_basin_mikibasin_Figure_number__formula hw)))
  have F11 : Fld Z h8 a1 "com/example/miki_basin/mikibasin/Figure" "value" "Lcom/example/miki_basin/mikibasin/Rational;" v1 := (Fw5.other W8 (Or.inr (sn_com_example_miki_basin_mikibasin_Figure_value__formula hw)))
  exact own_finV X8 hx hlk Bd.returns (hb hby d_prog_8_method_1_code_19) e8 (K := _) ⟨rfl, N8, ((((Keep.refl h0 [a1]).wr W2 (Or.inl (List.mem_of_getElem? (i := 0) rfl))).wr W5 (Or.inl (List.mem_of_getElem? (i := 0) rfl))).wr W8 (Or.inl (List.mem_of_getElem? (i := 0) rfl))), F9, F10, F11, Fw8⟩ (by decide) (by decide)
def Qrm_notApplicable (Z : State)  (h0 : Heap) (n0 : Nat) (v : Option Value) (h : Heap) (L : List Loc) : Prop := ∃ x : Addr, v = some (.ref x) ∧ Fr n0 L ∧ Keep h0 h [] ∧ (h0.size ≤ x) ∧ (Exa Z h x "com/example/miki_basin/mikibasin/Figure")
theorem ef_rm_notApplicable (m : MethodId)   : entryFrame m #[] 0 = mkF m 0 #[] [] := by first | (simp [entryFrame, mkF, argsToLocals, maxLocals, Value.category]; done) | rfl
set_option maxRecDepth 65536 in
set_option maxHeartbeats 40000000 in
theorem rm_notApplicable (l : Launch) (Z : State) (a0 : Array Value) (hw : ∀ d ∈ tables_1, d.before a0 Z = true) (ws : List Jvm.Cond)  (h0 : Heap) (n0 : Nat) (Z0 : n0 ≤ h0.size) (G1 : Int32) (O2 : Sta Z Z.heap "java/lang/String" "COMPACT_STRINGS" "Z" (.int G1)) (P5 : ¬ (G1 = (0 : Int32))) (eA : Addr) (SE : Sta Z Z.heap "java/util/Optional" "EMPTY" "Ljava/util/Optional;" (.ref eA)) (XE : Exa Z Z.heap eA "java/util/Optional") (FE : Fld Z Z.heap eA "java/util/Optional" "value" "Ljava/lang/Object;" .null) (rZ : Addr) (SZ : Sta Z Z.heap "com/example/miki_basin/mikibasin/Rational" "ZERO" "Lcom/example/miki_basin/mikibasin/Rational;" (.ref rZ)) (X00 : Old Z n0 h0)  :
    MetFree l (⟨"com/example/miki_basin/mikibasin/Figure", "notApplicable", "()Lcom/example/miki_basin/mikibasin/Figure;"⟩ : MethodName) (head1 (Jvm.Cond.code (⟨"com/example/miki_basin/mikibasin/Figure", "notApplicable", "()Lcom/example/miki_basin/mikibasin/Figure;"⟩ : MethodName) prog_8_method_6_code 0 (Option.some (Jvm.ClassFile.FieldType.object "com/example/miki_basin/mikibasin/Figure")) :: ws) ({ frames := 2, cells := 1, slots := 3, locals := 28 } : Room)) (fun a U => a = #[] ∧ Z.Warmed39 U.vm ∧ U.heap = h0) (fun _ _ _ _ _ => True) (fun _ U o U' => ∃ v L, o = .returned v ∧ Qrm_notApplicable Z  h0 n0 v U'.heap L ∧ FrameEnd U o U' L ({ frames := 2, cells := 1, slots := 3, locals := 28 } : Room).cells ({ frames := 2, cells := 1, slots := 3, locals := 28 } : Room).slots) := by
  refine MetFree.of_bodySF (plainFor_of_name pn_com_example_miki_basin_mikibasin_Figure) hisR ?_
  intro p e s m args below meth c s₁ Bd hml0 hP hK
  obtain ⟨rfl, hZ, hh⟩ := hP
  have hx := Bd.exec
  have hby := Bd.bytes
  have hml : c.maxLocals = 0 := hml0
  have hown : s.vm.findClass "com/example/miki_basin/mikibasin/Figure" = some m.cls := findClass_of_methodNamed Bd.named
  have hnm := (name_of_methodNamed Bd.named Bd.method).1
  have hlk : meth.locks = false := BodyLoose.notSynchronized Bd
  have X0 : Stand p l e ({ frames := 2, cells := 1, slots := 3, locals := 28 } : Room) s m #[] below meth c s₁ [] 0 0 := Stand.of_body Bd
  have e0 : s₁.heap = h0 := by rw [← hh, Bd.state]; rfl
  have N0 := Fr.nil n0
  show Ends p.tables e below (fun o U' => ∃ v L, o = .returned v ∧ Qrm_notApplicable Z  h0 n0 v U'.heap L ∧ FrameEnd s o U' L ({ frames := 2, cells := 1, slots := 3, locals := 28 } : Room).cells ({ frames := 2, cells := 1, slots := 3, locals := 28 } : Room).slots) (s₁.setTop (entryFrame m #[] 0))
  refine Ends.step (fun t k => castTop (ef_rm_notApplicable m  ) k) ?_
  show Ends _ _ _ _ (s₁.setTop (mkF m 0 #[] []))
  obtain ⟨T1, h1, X1, e1, E1, A1, D1, -, st1⟩ := newO X0 hx hZ hown (hw _ (List.mem_of_getElem? (i := 34) rfl)) (hw _ (List.mem_of_getElem? (i := 35) rfl)) (hw _ (List.mem_of_getElem? (i := 32) rfl)) e0 (g := (mkF m 0 #[] [])) rfl (hb hby d_prog_8_method_6_code_0) (by decide) (by decide)
  obtain ⟨b1, g1⟩ : ∃ z, z = h0.size := ⟨_, rfl⟩
  rw [← g1] at A1 D1 st1
  refine Ends.step st1 ?_
  show Ends _ _ _ _ (T1.setTop (mkF m 3 #[] [(.ref b1)]))
  refine Ends.step (fun t k => XS.dup X1.here hx rfl (hb hby d_prog_8_method_6_code_3) rfl rfl k) ?_
  show Ends _ _ _ _ (T1.setTop (mkF m 4 #[] [(.ref b1), (.ref b1)]))
  refine Ends.step (fun t k => XS.aconstNull X1.here hx rfl (hb hby d_prog_8_method_6_code_4) k) ?_
  show Ends _ _ _ _ (T1.setTop (mkF m 5 #[] [.null, (.ref b1), (.ref b1)]))
  refine Ends.step (fun t k => XS.aconstNull X1.here hx rfl (hb hby d_prog_8_method_6_code_5) k) ?_
  show Ends _ _ _ _ (T1.setTop (mkF m 6 #[] [.null, .null, (.ref b1), (.ref b1)]))
  refine Ends.step (fun t k => XS.aconstNull X1.here hx rfl (hb hby d_prog_8_method_6_code_6) k) ?_
  show Ends _ _ _ _ (T1.setTop (mkF m 7 #[] [.null, .null, .null, (.ref b1), (.ref b1)]))
  have F2 : Old Z n0 h1 := (X00.ext E1)
  obtain ⟨_, _, ⟨T3, L3, k3, n3⟩, -, X3, ⟨Lc3, hQ3, l3, y3, z3⟩, st3⟩ := X1.specialBack hx (y := (⟨"com/example/miki_basin/mikibasin/Figure", "<init>", "(Ljava/math/BigDecimal;Lcom/example/miki_basin/mikibasin/Rational;Lcom/example/miki_basin/mikibasin/Formula;)V"⟩ : MethodName)) rfl hown (mvT hZ (hw _ (List.mem_of_getElem? (i := 36) rfl))) (mvT hZ (hw _ (List.mem_of_getElem? (i := 37) rfl))) (mvT hZ (hw _ (List.mem_of_getElem? (i := 38) rfl))) (by decide) (backOf (W := 1) (rmFigI l Z a0 hw [] b1 .null .null .null h1 n0 (Nat.le_trans Z0 E1.1) G1 O2 P5 eA SE XE FE rZ SZ F2 rfl rfl rfl A1 (D1 (Or.inr (hw _ (List.mem_of_getElem? (i := 41) rfl))) (ty := (.object "java/math/BigDecimal")) (by decide)) (D1 (Or.inr (hw _ (List.mem_of_getElem? (i := 43) rfl))) (ty := (.object "com/example/miki_basin/mikibasin/Rational")) (by decide)) (D1 (Or.inr (hw _ (List.mem_of_getElem? (i := 45) rfl))) (ty := (.object "com/example/miki_basin/mikibasin/Formula")) (by decide)) (Nat.le_trans (Nat.le_trans Z0 (Nat.le_refl _)) (Nat.le_of_eq g1.symm))) hZ (hw _ (List.mem_of_getElem? (i := 38) rfl)) (hw _ (List.mem_of_getElem? (i := 32) rfl)) (by decide) (by decide)) (g := (mkF m 7 #[] [.null, .null, .null, (.ref b1), (.ref b1)])) rfl (by rw [hml]; rfl) (Steps.refl _) (a := b1) (argsL := [.null, .null, .null]) (rest := [(.ref b1)]) (lenOf pd_2 rfl) rfl (by show 2 * 0 + _ ≤ _; exact Nat.le_of_eq rfl) (hb hby d_prog_8_method_6_code_7) (fun _ _ => ⟨rfl, e1, (by decide : 1 + 0 ≤ _), (by decide : 3 + 0 ≤ _)⟩)
  dsimp only [Pt.U, Pt.locs, Pt.cells, Pt.slots] at X3 l3 y3 z3 st3 hQ3
  subst l3 y3 z3
  obtain ⟨rfl, Nq3, K3, f3_0, f3_1, f3_2, f3_3⟩ := hQ3
  have N3 := Fr.app N0 Nq3
  refine Ends.go st3 ?_
  have K4 : Keep h0 T3.heap [] := (((Keep.refl h0 []).ext E1).trans K3 (allS (Or.inr (Nat.le_trans (Nat.le_refl _) (Nat.le_of_eq g1.symm))) all0))
  show Ends _ _ _ _ (T3.setTop (mkF m 10 #[] [(.ref b1)]))
  exact own_finR X3 hx hlk Bd.returns rfl rfl (hb hby d_prog_8_method_6_code_10) rfl ⟨b1, rfl, N3, ((Keep.refl h0 []).trans K4 all0), (Nat.le_trans (Nat.le_refl _) (Nat.le_of_eq g1.symm)), f3_0⟩ (by decide) (by decide)
def Qrm_blank (Z : State)  (h0 : Heap) (n0 : Nat) (v : Option Value) (h : Heap) (L : List Loc) : Prop := ∃ x : Addr, v = some (.ref x) ∧ Fr n0 L ∧ Keep h0 h [] ∧ (h0.size ≤ x) ∧ (Exa Z h x "com/example/miki_basin/mikibasin/Figure")
theorem ef_rm_blank (m : MethodId)   : entryFrame m #[] 0 = mkF m 0 #[] [] := by first | (simp [entryFrame, mkF, argsToLocals, maxLocals, Value.category]; done) | rfl
set_option maxRecDepth 65536 in
set_option maxHeartbeats 40000000 in
theorem rm_blank (l : Launch) (Z : State) (a0 : Array Value) (hw : ∀ d ∈ tables_1, d.before a0 Z = true) (ws : List Jvm.Cond)  (h0 : Heap) (n0 : Nat) (Z0 : n0 ≤ h0.size) (G1 : Int32) (O2 : Sta Z Z.heap "java/lang/String" "COMPACT_STRINGS" "Z" (.int G1)) (P5 : ¬ (G1 = (0 : Int32))) (eA : Addr) (SE : Sta Z Z.heap "java/util/Optional" "EMPTY" "Ljava/util/Optional;" (.ref eA)) (XE : Exa Z Z.heap eA "java/util/Optional") (FE : Fld Z Z.heap eA "java/util/Optional" "value" "Ljava/lang/Object;" .null) (rZ : Addr) (SZ : Sta Z Z.heap "com/example/miki_basin/mikibasin/Rational" "ZERO" "Lcom/example/miki_basin/mikibasin/Rational;" (.ref rZ)) (X00 : Old Z n0 h0)  :
    MetFree l (⟨"com/example/miki_basin/mikibasin/Figure", "blank", "()Lcom/example/miki_basin/mikibasin/Figure;"⟩ : MethodName) (head1 (Jvm.Cond.code (⟨"com/example/miki_basin/mikibasin/Figure", "blank", "()Lcom/example/miki_basin/mikibasin/Figure;"⟩ : MethodName) prog_8_method_5_code 0 (Option.some (Jvm.ClassFile.FieldType.object "com/example/miki_basin/mikibasin/Figure")) :: ws) ({ frames := 2, cells := 1, slots := 3, locals := 28 } : Room)) (fun a U => a = #[] ∧ Z.Warmed39 U.vm ∧ U.heap = h0) (fun _ _ _ _ _ => True) (fun _ U o U' => ∃ v L, o = .returned v ∧ Qrm_blank Z  h0 n0 v U'.heap L ∧ FrameEnd U o U' L ({ frames := 2, cells := 1, slots := 3, locals := 28 } : Room).cells ({ frames := 2, cells := 1, slots := 3, locals := 28 } : Room).slots) := by
  refine MetFree.of_bodySF (plainFor_of_name pn_com_example_miki_basin_mikibasin_Figure) hisR ?_
  intro p e s m args below meth c s₁ Bd hml0 hP hK
  obtain ⟨rfl, hZ, hh⟩ := hP
  have hx := Bd.exec
  have hby := Bd.bytes
  have hml : c.maxLocals = 0 := hml0
  have hown : s.vm.findClass "com/example/miki_basin/mikibasin/Figure" = some m.cls := findClass_of_methodNamed Bd.named
  have hnm := (name_of_methodNamed Bd.named Bd.method).1
  have hlk : meth.locks = false := BodyLoose.notSynchronized Bd
  have X0 : Stand p l e ({ frames := 2, cells := 1, slots := 3, locals := 28 } : Room) s m #[] below meth c s₁ [] 0 0 := Stand.of_body Bd
  have e0 : s₁.heap = h0 := by rw [← hh, Bd.state]; rfl
  have N0 := Fr.nil n0
  show Ends p.tables e below (fun o U' => ∃ v L, o = .returned v ∧ Qrm_blank Z  h0 n0 v U'.heap L ∧ FrameEnd s o U' L ({ frames := 2, cells := 1, slots := 3, locals := 28 } : Room).cells ({ frames := 2, cells := 1, slots := 3, locals := 28 } : Room).slots) (s₁.setTop (entryFrame m #[] 0))
  refine Ends.step (fun t k => castTop (ef_rm_blank m  ) k) ?_
  show Ends _ _ _ _ (s₁.setTop (mkF m 0 #[] []))
  obtain ⟨T1, h1, X1, e1, E1, A1, D1, -, st1⟩ := newO X0 hx hZ hown (hw _ (List.mem_of_getElem? (i := 34) rfl)) (hw _ (List.mem_of_getElem? (i := 35) rfl)) (hw _ (List.mem_of_getElem? (i := 32) rfl)) e0 (g := (mkF m 0 #[] [])) rfl (hb hby d_prog_8_method_5_code_0) (by decide) (by decide)
  obtain ⟨b1, g1⟩ : ∃ z, z = h0.size := ⟨_, rfl⟩
  rw [← g1] at A1 D1 st1
  refine Ends.step st1 ?_
  show Ends _ _ _ _ (T1.setTop (mkF m 3 #[] [(.ref b1)]))
  refine Ends.step (fun t k => XS.dup X1.here hx rfl (hb hby d_prog_8_method_5_code_3) rfl rfl k) ?_
  show Ends _ _ _ _ (T1.setTop (mkF m 4 #[] [(.ref b1), (.ref b1)]))
  refine Ends.step (fun t k => XS.aconstNull X1.here hx rfl (hb hby d_prog_8_method_5_code_4) k) ?_
  show Ends _ _ _ _ (T1.setTop (mkF m 5 #[] [.null, (.ref b1), (.ref b1)]))
  have F2 : Old Z n0 h1 := (X00.ext E1)
  obtain ⟨T3, X3, e3, st3⟩ := getS (host := "") X1 hx hZ hown (hw _ (List.mem_of_getElem? (i := 164) rfl)) Via.refl e1 (SZ.ext F2.2) (g := (mkF m 5 #[] [.null, (.ref b1), (.ref b1)])) rfl (hb hby d_prog_8_method_5_code_5)
  refine Ends.step st3 ?_
  show Ends _ _ _ _ (T3.setTop (mkF m 8 #[] [(.ref rZ), .null, (.ref b1), (.ref b1)]))
  refine Ends.step (fun t k => XS.aconstNull X3.here hx rfl (hb hby d_prog_8_method_5_code_8) k) ?_
  show Ends _ _ _ _ (T3.setTop (mkF m 9 #[] [.null, (.ref rZ), .null, (.ref b1), (.ref b1)]))
  obtain ⟨_, _, ⟨T4, L4, k4, n4⟩, -, X4, ⟨Lc4, hQ4, l4, y4, z4⟩, st4⟩ := X3.specialBack hx (y := (⟨"com/example/miki_basin/mikibasin/Figure", "<init>", "(Ljava/math/BigDecimal;Lcom/example/miki_basin/mikibasin/Rational;Lcom/example/miki_basin/mikibasin/Formula;)V"⟩ : MethodName)) rfl hown (mvT hZ (hw _ (List.mem_of_getElem? (i := 36) rfl))) (mvT hZ (hw _ (List.mem_of_getElem? (i := 37) rfl))) (mvT hZ (hw _ (List.mem_of_getElem? (i := 38) rfl))) (by decide) (backOf (W := 1) (rmFigI l Z a0 hw [] b1 .null (.ref rZ) .null h1 n0 (Nat.le_trans Z0 E1.1) G1 O2 P5 eA SE XE FE rZ SZ F2 rfl rfl rfl A1 (D1 (Or.inr (hw _ (List.mem_of_getElem? (i := 41) rfl))) (ty := (.object "java/math/BigDecimal")) (by decide)) (D1 (Or.inr (hw _ (List.mem_of_getElem? (i := 43) rfl))) (ty := (.object "com/example/miki_basin/mikibasin/Rational")) (by decide)) (D1 (Or.inr (hw _ (List.mem_of_getElem? (i := 45) rfl))) (ty := (.object "com/example/miki_basin/mikibasin/Formula")) (by decide)) (Nat.le_trans (Nat.le_trans Z0 (Nat.le_refl _)) (Nat.le_of_eq g1.symm))) hZ (hw _ (List.mem_of_getElem? (i := 38) rfl)) (hw _ (List.mem_of_getElem? (i := 32) rfl)) (by decide) (by decide)) (g := (mkF m 9 #[] [.null, (.ref rZ), .null, (.ref b1), (.ref b1)])) rfl (by rw [hml]; rfl) (Steps.refl _) (a := b1) (argsL := [.null, (.ref rZ), .null]) (rest := [(.ref b1)]) (lenOf pd_2 rfl) rfl (by show 2 * 0 + _ ≤ _; exact Nat.le_of_eq rfl) (hb hby d_prog_8_method_5_code_9) (fun _ _ => ⟨rfl, e3, (by decide : 1 + 0 ≤ _), (by decide : 3 + 0 ≤ _)⟩)
  dsimp only [Pt.U, Pt.locs, Pt.cells, Pt.slots] at X4 l4 y4 z4 st4 hQ4
  subst l4 y4 z4
  obtain ⟨rfl, Nq4, K4, f4_0, f4_1, f4_2, f4_3⟩ := hQ4
  have N4 := Fr.app N0 Nq4
  refine Ends.go st4 ?_
  have K5 : Keep h0 T4.heap [] := (((Keep.refl h0 []).ext E1).trans K4 (allS (Or.inr (Nat.le_trans (Nat.le_refl _) (Nat.le_of_eq g1.symm))) all0))
  show Ends _ _ _ _ (T4.setTop (mkF m 12 #[] [(.ref b1)]))
  exact own_finR X4 hx hlk Bd.returns rfl rfl (hb hby d_prog_8_method_5_code_12) rfl ⟨b1, rfl, N4, ((Keep.refl h0 []).trans K5 all0), (Nat.le_trans (Nat.le_refl _) (Nat.le_of_eq g1.symm)), f4_0⟩ (by decide) (by decide)
def QrmHeldI (Z : State) (a1 : Addr) (v0 : Value) (v1 : Value) (v2 : Value) (v3 : Value) (h0 : Heap) (n0 : Nat) (v : Option Value) (h : Heap) (L : List Loc) : Prop := v = none ∧ Fr n0 L ∧ Keep h0 h [a1] ∧ (Exa Z h a1 "com/example/miki_basin/mikibasin/Copy$Held") ∧ (Fld Z h a1 "com/example/miki_basin/mikibasin/Copy$Held" "name" "Ljava/lang/String;" v0) ∧ (Fld Z h a1 "com/example/miki_basin/mikibasin/Copy$Held" "printed" "Ljava/util/Optional;" v1) ∧ (Fld Z h a1 "com/example/miki_basin/mikibasin/Copy$Held" "against" "Ljava/lang/String;" v2) ∧ (Fld Z h a1 "com/example/miki_basin/mikibasin/Copy$Held" "value" "Ljava/util/Optional;" v3)
theorem ef_rmHeldI (m : MethodId) (a1 : Addr) (v0 : Value) (v1 : Value) (v2 : Value) (v3 : Value) (r_v0 : Value.isRef v0 = true) (r_v1 : Value.isRef v1 = true) (r_v2 : Value.isRef v2 = true) (r_v3 : Value.isRef v3 = true) : entryFrame m #[(.ref a1), v0, v1, v2, v3] 5 = mkF m 0 #[.val (.ref a1), .val v0, .val v1, .val v2, .val v3] [] := by first | (simp [entryFrame, mkF, argsToLocals, maxLocals, own_cR, own_cI, own_cN, own_cJ, XT.cat1 r_v0, XT.cat1 r_v1, XT.cat1 r_v2, XT.cat1 r_v3]; done) | rfl
set_option maxRecDepth 65536 in
set_option maxHeartbeats 40000000 in
theorem rmHeldI (l : Launch) (Z : State) (a0 : Array Value) (hw : ∀ d ∈ tables_1, d.before a0 Z = true) (ws : List Jvm.Cond) (a1 : Addr) (v0 : Value) (v1 : Value) (v2 : Value) (v3 : Value) (h0 : Heap) (n0 : Nat) (Z0 : n0 ≤ h0.size) (G1 : Int32) (O2 : Sta Z Z.heap "java/lang/String" "COMPACT_STRINGS" "Z" (.int G1)) (P5 : ¬ (G1 = (0 : Int32))) (eA : Addr) (SE : Sta Z Z.heap "java/util/Optional" "EMPTY" "Ljava/util/Optional;" (.ref eA)) (XE : Exa Z Z.heap eA "java/util/Optional") (FE : Fld Z Z.heap eA "java/util/Optional" "value" "Ljava/lang/Object;" .null) (rZ : Addr) (SZ : Sta Z Z.heap "com/example/miki_basin/mikibasin/Rational" "ZERO" "Lcom/example/miki_basin/mikibasin/Rational;" (.ref rZ)) (X00 : Old Z n0 h0) (r_v0 : Value.isRef v0 = true) (r_v1 : Value.isRef v1 = true) (r_v2 : Value.isRef v2 = true) (r_v3 : Value.isRef v3 = true) (p_Exa_a1 : Exa Z h0 a1 "com/example/miki_basin/mikibasin/Copy$Held") (p_Fld_a1_name : Fld Z h0 a1 "com/example/miki_basin/mikibasin/Copy$Held" "name" "Ljava/lang/String;" .null) (p_Fld_a1_printed : Fld Z h0 a1 "com/example/miki_basin/mikibasin/Copy$Held" "printed" "Ljava/util/Optional;" .null) (p_Fld_a1_against : Fld Z h0 a1 "com/example/miki_basin/mikibasin/Copy$Held" "against" "Ljava/lang/String;" .null) (p_Fld_a1_value : Fld Z h0 a1 "com/example/miki_basin/mikibasin/Copy$Held" "value" "Ljava/util/Optional;" .null) (ge1 : n0 ≤ a1) :
    MetFree l (⟨"com/example/miki_basin/mikibasin/Copy$Held", "<init>", "(Ljava/lang/String;Ljava/util/Optional;Ljava/lang/String;Ljava/util/Optional;)V"⟩ : MethodName) (head1 (Jvm.Cond.code (⟨"com/example/miki_basin/mikibasin/Copy$Held", "<init>", "(Ljava/lang/String;Ljava/util/Optional;Ljava/lang/String;Ljava/util/Optional;)V"⟩ : MethodName) prog_4_method_1_code 5 (Option.none : Option Jvm.ClassFile.FieldType) :: ws) ({ frames := 2, cells := 0, slots := 0, locals := 24 } : Room)) (fun a U => a = #[(.ref a1), v0, v1, v2, v3] ∧ Z.Warmed39 U.vm ∧ U.heap = h0) (fun _ _ _ _ _ => True) (fun _ U o U' => ∃ v L, o = .returned v ∧ QrmHeldI Z a1 v0 v1 v2 v3 h0 n0 v U'.heap L ∧ FrameEnd U o U' L ({ frames := 2, cells := 0, slots := 0, locals := 24 } : Room).cells ({ frames := 2, cells := 0, slots := 0, locals := 24 } : Room).slots) := by
  refine MetFree.of_bodySF (plainFor_of_name pn_com_example_miki_basin_mikibasin_Copy_Held) hisR ?_
  intro p e s m args below meth c s₁ Bd hml0 hP hK
  obtain ⟨rfl, hZ, hh⟩ := hP
  have hx := Bd.exec
  have hby := Bd.bytes
  have hml : c.maxLocals = 5 := hml0
  have hown : s.vm.findClass "com/example/miki_basin/mikibasin/Copy$Held" = some m.cls := findClass_of_methodNamed Bd.named
  have hnm := (name_of_methodNamed Bd.named Bd.method).1
  have hlk : meth.locks = false := BodyLoose.notSynchronized Bd
  have X0 : Stand p l e ({ frames := 2, cells := 0, slots := 0, locals := 24 } : Room) s m #[(.ref a1), v0, v1, v2, v3] below meth c s₁ [] 0 0 := Stand.of_body Bd
  have e0 : s₁.heap = h0 := by rw [← hh, Bd.state]; rfl
  have N0 := Fr.nil n0
  show Ends p.tables e below (fun o U' => ∃ v L, o = .returned v ∧ QrmHeldI Z a1 v0 v1 v2 v3 h0 n0 v U'.heap L ∧ FrameEnd s o U' L ({ frames := 2, cells := 0, slots := 0, locals := 24 } : Room).cells ({ frames := 2, cells := 0, slots := 0, locals := 24 } : Room).slots) (s₁.setTop (entryFrame m #[(.ref a1), v0, v1, v2, v3] 5))
  refine Ends.step (fun t k => castTop (ef_rmHeldI m a1 v0 v1 v2 v3 r_v0 r_v1 r_v2 r_v3) k) ?_
  show Ends _ _ _ _ (s₁.setTop (mkF m 0 #[.val (.ref a1), .val v0, .val v1, .val v2, .val v3] []))
  refine Ends.step (fun t k => XS.aloadN X0.here hx rfl (hb hby d_prog_4_method_1_code_0) rfl rfl k) ?_
  show Ends _ _ _ _ (s₁.setTop (mkF m 1 #[.val (.ref a1), .val v0, .val v1, .val v2, .val v3] [(.ref a1)]))
  obtain ⟨_, _, ⟨T1, L1, k1, n1⟩, -, X1, ⟨Lc1, hQ1, l1, y1, z1⟩, st1⟩ := X0.specialBack hx (y := (⟨"java/lang/Record", "<init>", "()V"⟩ : MethodName)) rfl hown (mvT hZ (hw _ (List.mem_of_getElem? (i := 73) rfl))) (mvT hZ (hw _ (List.mem_of_getElem? (i := 74) rfl))) (mvT hZ (hw _ (List.mem_of_getElem? (i := 77) rfl))) (by decide) (backOf (W := 0) (rmRec l Z a0 hw [] a1 h0 n0 Z0 G1 O2 P5 eA SE XE FE rZ SZ X00 ) hZ (hw _ (List.mem_of_getElem? (i := 77) rfl)) (hw _ (List.mem_of_getElem? (i := 76) rfl)) (by decide) (by decide)) (g := (mkF m 1 #[.val (.ref a1), .val v0, .val v1, .val v2, .val v3] [(.ref a1)])) rfl (by rw [hml]; rfl) (Steps.refl _) (a := a1) (argsL := []) (rest := []) (lenOf pd_3 rfl) rfl (by show 2 * 0 + _ ≤ _; exact Nat.le_of_eq rfl) (hb hby d_prog_4_method_1_code_1) (fun _ _ => ⟨rfl, e0, (by decide : 0 + 0 ≤ _), (by decide : 0 + 0 ≤ _)⟩)
  dsimp only [Pt.U, Pt.locs, Pt.cells, Pt.slots] at X1 l1 y1 z1 st1 hQ1
  subst l1 y1 z1
  obtain ⟨rfl, Nq1, eh1⟩ := hQ1
  have N1 := Fr.app N0 Nq1
  refine Ends.go st1 ?_
  show Ends _ _ _ _ (T1.setTop (mkF m 4 #[.val (.ref a1), .val v0, .val v1, .val v2, .val v3] []))
  refine Ends.step (fun t k => XS.aloadN X1.here hx rfl (hb hby d_prog_4_method_1_code_4) rfl rfl k) ?_
  show Ends _ _ _ _ (T1.setTop (mkF m 5 #[.val (.ref a1), .val v0, .val v1, .val v2, .val v3] [(.ref a1)]))
  refine Ends.step (fun t k => XS.aloadN X1.here hx rfl (hb hby d_prog_4_method_1_code_5) rfl r_v0 k) ?_
  show Ends _ _ _ _ (T1.setTop (mkF m 6 #[.val (.ref a1), .val v0, .val v1, .val v2, .val v3] [v0, (.ref a1)]))
  obtain ⟨T2, h2, X2, e2, W2, st2⟩ := putF X1 hx hZ hown (host := "") (Or.inl (hw _ (List.mem_of_getElem? (i := 79) rfl))) Via.refl eh1 p_Fld_a1_name p_Exa_a1 (Or.inr ⟨(hw _ (List.mem_of_getElem? (i := 80) rfl)), rfl, hnm⟩) (hw _ (List.mem_of_getElem? (i := 68) rfl)) (ty := (.object "java/lang/String")) (by decide) (own_narrow_ref r_v0 rfl) (own_fits_ref r_v0 rfl) (g := (mkF m 6 #[.val (.ref a1), .val v0, .val v1, .val v2, .val v3] [v0, (.ref a1)])) rfl rfl (hb hby d_prog_4_method_1_code_6)
  have N2 := Fr.snoc X2 N1 ge1
  have Fw2 : Fld Z h2 a1 "com/example/miki_basin/mikibasin/Copy$Held" "name" "Ljava/lang/String;" v0 := p_Fld_a1_name.same W2
  refine Ends.step st2 ?_
  show Ends _ _ _ _ (T2.setTop (mkF m 9 #[.val (.ref a1), .val v0, .val v1, .val v2, .val v3] []))
  refine Ends.step (fun t k => XS.aloadN X2.here hx rfl (hb hby d_prog_4_method_1_code_9) rfl rfl k) ?_
  show Ends _ _ _ _ (T2.setTop (mkF m 10 #[.val (.ref a1), .val v0, .val v1, .val v2, .val v3] [(.ref a1)]))
  refine Ends.step (fun t k => XS.aloadN X2.here hx rfl (hb hby d_prog_4_method_1_code_10) rfl r_v1 k) ?_
  show Ends _ _ _ _ (T2.setTop (mkF m 11 #[.val (.ref a1), .val v0, .val v1, .val v2, .val v3] [v1, (.ref a1)]))
  have F3 : Exa Z h2 a1 "com/example/miki_basin/mikibasin/Copy$Held" := (p_Exa_a1.wr W2)
  have F4 : Fld Z h2 a1 "com/example/miki_basin/mikibasin/Copy$Held" "printed" "Ljava/util/Optional;" .null := (p_Fld_a1_printed.other W2 (Or.inr (sn_com_example_miki_basin_mikibasin_Copy_Held_printed__name hw)))
  obtain ⟨T5, h5, X5, e5, W5, st5⟩ := putF X2 hx hZ hown (host := "") (Or.inl (hw _ (List.mem_of_getElem? (i := 81) rfl))) Via.refl e2 F4 F3 (Or.inr ⟨(hw _ (List.mem_of_getElem? (i := 82) rfl)), rfl, hnm⟩) (hw _ (List.mem_of_getElem? (i := 68) rfl)) (ty := (.object "java/util/Optional")) (by decide) (own_narrow_ref r_v1 rfl) (own_fits_ref r_v1 rfl) (g := (mkF m 11 #[.val (.ref a1), .val v0, .val v1, .val v2, .val v3] [v1, (.ref a1)])) rfl rfl (hb hby d_prog_4_method_1_code_11)
  have N5 := Fr.snoc X5 N2 ge1
  have Fw5 : Fld Z h5 a1 "com/example/miki_basin/mikibasin/Copy$Held" "printed" "Ljava/util/Optional;" v1 := F4.same W5
  refine Ends.step st5 ?_
  show Ends _ _ _ _ (T5.setTop (mkF m 14 #[.val (.ref a1), .val v0, .val v1, .val v2, .val v3] []))
  refine Ends.step (fun t k => XS.aloadN X5.here hx rfl (hb hby d_prog_4_method_1_code_14) rfl rfl k) ?_
  show Ends _ _ _ _ (T5.setTop (mkF m 15 #[.val (.ref a1), .val v0, .val v1, .val v2, .val v3] [(.ref a1)]))
  refine Ends.step (fun t k => XS.aloadN X5.here hx rfl (hb hby d_prog_4_method_1_code_15) rfl r_v2 k) ?_
  show Ends _ _ _ _ (T5.setTop (mkF m 16 #[.val (.ref a1), .val v0, .val v1, .val v2, .val v3] [v2, (.ref a1)]))
  have F6 : Exa Z h5 a1 "com/example/miki_basin/mikibasin/Copy$Held" := (F3.wr W5)
  have F7 : Fld Z h5 a1 "com/example/miki_basin/mikibasin/Copy$Held" "against" "Ljava/lang/String;" .null := ((p_Fld_a1_against.other W2 (Or.inr (sn_com_example_miki_basin_mikibasin_Copy_Held_against__name hw))).other W5 (Or.inr (sn_com_example_miki_basin_mikibasin_Copy_Held_against__printed hw)))
  obtain ⟨T8, h8, X8, e8, W8, st8⟩ := putF X5 hx hZ hown (host := "") (Or.inl (hw _ (List.mem_of_getElem? (i := 83) rfl))) Via.refl e5 F7 F6 (Or.inr ⟨(hw _ (List.mem_of_getElem? (i := 84) rfl)), rfl, hnm⟩) (hw _ (List.mem_of_getElem? (i := 68) rfl)) (ty := (.object "java/lang/String")) (by decide) (own_narrow_ref r_v2 rfl) (own_fits_ref r_v2 rfl) (g := (mkF m 16 #[.val (.ref a1), .val v0, .val v1, .val v2, .val v3] [v2, (.ref a1)])) rfl rfl (hb hby d_prog_4_method_1_code_16)
  have N8 := Fr.snoc X8 N5 ge1
  have Fw8 : Fld Z h8 a1 "com/example/miki_basin/mikibasin/Copy$Held" "against" "Ljava/lang/String;" v2 := F7.same W8
  refine Ends.step st8 ?_
  show Ends _ _ _ _ (T8.setTop (mkF m 19 #[.val (.ref a1), .val v0, .val v1, .val v2, .val v3] []))
  refine Ends.step (fun t k => XS.aloadN X8.here hx rfl (hb hby d_prog_4_method_1_code_19) rfl rfl k) ?_
  show Ends _ _ _ _ (T8.setTop (mkF m 20 #[.val (.ref a1), .val v0, .val v1, .val v2, .val v3] [(.ref a1)]))
  refine Ends.step (fun t k => XS.aload X8.here hx rfl (hb hby d_prog_4_method_1_code_20) rfl r_v3 k) ?_
  show Ends _ _ _ _ (T8.setTop (mkF m 22 #[.val (.ref a1), .val v0, .val v1, .val v2, .val v3] [v3, (.ref a1)]))
  have F9 : Exa Z h8 a1 "com/example/miki_basin/mikibasin/Copy$Held" := (F6.wr W8)
  have F10 : Fld Z h8 a1 "com/example/miki_basin/mikibasin/Copy$Held" "value" "Ljava/util/Optional;" .null := (((p_Fld_a1_value.other W2 (Or.inr (sn_com_example_miki_basin_mikibasin_Copy_Held_value__name hw))).other W5 (Or.inr (sn_com_example_miki_basin_mikibasin_Copy_Held_value__printed hw))).other W8 (Or.inr (sn_com_example_miki_basin_mikibasin_Copy_Held_value__against hw)))
  obtain ⟨T11, h11, X11, e11, W11, st11⟩ := putF X8 hx hZ hown (host := "") (Or.inl (hw _ (List.mem_of_getElem? (i := 85) rfl))) Via.refl e8 F10 F9 (Or.inr ⟨(hw _ (List.mem_of_getElem? (i := 86) rfl)), rfl, hnm⟩) (hw _ (List.mem_of_getElem? (i := 68) rfl)) (ty := (.object "java/util/Optional")) (by decide) (own_narrow_ref r_v3 rfl) (own_fits_ref r_v3 rfl) (g := (mkF m 22 #[.val (.ref a1), .val v0, .val v1, .val v2, .val v3] [v3, (.ref a1)])) rfl rfl (hb hby d_prog_4_method_1_code_22)
  have N11 := Fr.snoc X11 N8 ge1
  have Fw11 : Fld Z h11 a1 "com/example/miki_basin/mikibasin/Copy$Held" "value" "Ljava/util/Optional;" v3 := F10.same W11
  refine Ends.step st11 ?_
  show Ends _ _ _ _ (T11.setTop (mkF m 25 #[.val (.ref a1), .val v0, .val v1, .val v2, .val v3] []))
  have F12 : Exa Z h11 a1 "com/example/miki_basin/mikibasin/Copy$Held" := (F9.wr W11)
  have F13 : Fld Z h11 a1 "com/example/miki_basin/mikibasin/Copy$Held" "name" "Ljava/lang/String;" v0 := (((Fw2.other W5 (Or.inr (sn_com_example_miki_basin_mikibasin_Copy_Held_name__printed hw))).other W8 (Or.inr (sn_com_example_miki_basin_mikibasin_Copy_Held_name__against hw))).other W11 (Or.inr (sn_com_example_miki_basin_mikibasin_Copy_Held_name__value hw)))
  have F14 : Fld Z h11 a1 "com/example/miki_basin/mikibasin/Copy$Held" "printed" "Ljava/util/Optional;" v1 := ((Fw5.other W8 (Or.inr (sn_com_example_miki_basin_mikibasin_Copy_Held_printed__against hw))).other W11 (Or.inr (sn_com_example_miki_basin_mikibasin_Copy_Held_printed__value hw)))
  have F15 : Fld Z h11 a1 "com/example/miki_basin/mikibasin/Copy$Held" "against" "Ljava/lang/String;" v2 := (Fw8.other W11 (Or.inr (sn_com_example_miki_basin_mikibasin_Copy_Held_against__value hw)))
  exact own_finV X11 hx hlk Bd.returns (hb hby d_prog_4_method_1_code_25) e11 (K := _) ⟨rfl, N11, (((((Keep.refl h0 [a1]).wr W2 (Or.inl (List.mem_of_getElem? (i := 0) rfl))).wr W5 (Or.inl (List.mem_of_getElem? (i := 0) rfl))).wr W8 (Or.inl (List.mem_of_getElem? (i := 0) rfl))).wr W11 (Or.inl (List.mem_of_getElem? (i := 0) rfl))), F12, F13, F14, F15, Fw11⟩ (by decide) (by decide)
def QrmPairI (Z : State) (a1 : Addr) (v0 : Value) (v1 : Value) (h0 : Heap) (n0 : Nat) (v : Option Value) (h : Heap) (L : List Loc) : Prop := v = none ∧ Fr n0 L ∧ Keep h0 h [a1] ∧ (Exa Z h a1 "com/example/miki_basin/mikibasin/Copy$Pair") ∧ (Fld Z h a1 "com/example/miki_basin/mikibasin/Copy$Pair" "copy" "Lcom/example/miki_basin/mikibasin/Copy;" v0) ∧ (Fld Z h a1 "com/example/miki_basin/mikibasin/Copy$Pair" "other" "Lcom/example/miki_basin/mikibasin/Copy;" v1)
theorem ef_rmPairI (m : MethodId) (a1 : Addr) (v0 : Value) (v1 : Value) (r_v0 : Value.isRef v0 = true) (r_v1 : Value.isRef v1 = true) : entryFrame m #[(.ref a1), v0, v1] 3 = mkF m 0 #[.val (.ref a1), .val v0, .val v1] [] := by first | (simp [entryFrame, mkF, argsToLocals, maxLocals, own_cR, own_cI, own_cN, own_cJ, XT.cat1 r_v0, XT.cat1 r_v1]; done) | rfl
set_option maxRecDepth 65536 in
set_option maxHeartbeats 40000000 in
theorem rmPairI (l : Launch) (Z : State) (a0 : Array Value) (hw : ∀ d ∈ tables_1, d.before a0 Z = true) (ws : List Jvm.Cond) (a1 : Addr) (v0 : Value) (v1 : Value) (h0 : Heap) (n0 : Nat) (Z0 : n0 ≤ h0.size) (G1 : Int32) (O2 : Sta Z Z.heap "java/lang/String" "COMPACT_STRINGS" "Z" (.int G1)) (P5 : ¬ (G1 = (0 : Int32))) (eA : Addr) (SE : Sta Z Z.heap "java/util/Optional" "EMPTY" "Ljava/util/Optional;" (.ref eA)) (XE : Exa Z Z.heap eA "java/util/Optional") (FE : Fld Z Z.heap eA "java/util/Optional" "value" "Ljava/lang/Object;" .null) (rZ : Addr) (SZ : Sta Z Z.heap "com/example/miki_basin/mikibasin/Rational" "ZERO" "Lcom/example/miki_basin/mikibasin/Rational;" (.ref rZ)) (X00 : Old Z n0 h0) (r_v0 : Value.isRef v0 = true) (r_v1 : Value.isRef v1 = true) (p_Exa_a1 : Exa Z h0 a1 "com/example/miki_basin/mikibasin/Copy$Pair") (p_Fld_a1_copy : Fld Z h0 a1 "com/example/miki_basin/mikibasin/Copy$Pair" "copy" "Lcom/example/miki_basin/mikibasin/Copy;" .null) (p_Fld_a1_other : Fld Z h0 a1 "com/example/miki_basin/mikibasin/Copy$Pair" "other" "Lcom/example/miki_basin/mikibasin/Copy;" .null) (ge1 : n0 ≤ a1) :
    MetFree l (⟨"com/example/miki_basin/mikibasin/Copy$Pair", "<init>", "(Lcom/example/miki_basin/mikibasin/Copy;Lcom/example/miki_basin/mikibasin/Copy;)V"⟩ : MethodName) (head1 (Jvm.Cond.code (⟨"com/example/miki_basin/mikibasin/Copy$Pair", "<init>", "(Lcom/example/miki_basin/mikibasin/Copy;Lcom/example/miki_basin/mikibasin/Copy;)V"⟩ : MethodName) prog_5_method_1_code 3 (Option.none : Option Jvm.ClassFile.FieldType) :: ws) ({ frames := 2, cells := 0, slots := 0, locals := 24 } : Room)) (fun a U => a = #[(.ref a1), v0, v1] ∧ Z.Warmed39 U.vm ∧ U.heap = h0) (fun _ _ _ _ _ => True) (fun _ U o U' => ∃ v L, o = .returned v ∧ QrmPairI Z a1 v0 v1 h0 n0 v U'.heap L ∧ FrameEnd U o U' L ({ frames := 2, cells := 0, slots := 0, locals := 24 } : Room).cells ({ frames := 2, cells := 0, slots := 0, locals := 24 } : Room).slots) := by
  refine MetFree.of_bodySF (plainFor_of_name pn_com_example_miki_basin_mikibasin_Copy_Pair) hisR ?_
  intro p e s m args below meth c s₁ Bd hml0 hP hK
  obtain ⟨rfl, hZ, hh⟩ := hP
  have hx := Bd.exec
  have hby := Bd.bytes
  have hml : c.maxLocals = 3 := hml0
  have hown : s.vm.findClass "com/example/miki_basin/mikibasin/Copy$Pair" = some m.cls := findClass_of_methodNamed Bd.named
  have hnm := (name_of_methodNamed Bd.named Bd.method).1
  have hlk : meth.locks = false := BodyLoose.notSynchronized Bd
  have X0 : Stand p l e ({ frames := 2, cells := 0, slots := 0, locals := 24 } : Room) s m #[(.ref a1), v0, v1] below meth c s₁ [] 0 0 := Stand.of_body Bd
  have e0 : s₁.heap = h0 := by rw [← hh, Bd.state]; rfl
  have N0 := Fr.nil n0
  show Ends p.tables e below (fun o U' => ∃ v L, o = .returned v ∧ QrmPairI Z a1 v0 v1 h0 n0 v U'.heap L ∧ FrameEnd s o U' L ({ frames := 2, cells := 0, slots := 0, locals := 24 } : Room).cells ({ frames := 2, cells := 0, slots := 0, locals := 24 } : Room).slots) (s₁.setTop (entryFrame m #[(.ref a1), v0, v1] 3))
  refine Ends.step (fun t k => castTop (ef_rmPairI m a1 v0 v1 r_v0 r_v1) k) ?_
  show Ends _ _ _ _ (s₁.setTop (mkF m 0 #[.val (.ref a1), .val v0, .val v1] []))
  refine Ends.step (fun t k => XS.aloadN X0.here hx rfl (hb hby d_prog_5_method_1_code_0) rfl rfl k) ?_
  show Ends _ _ _ _ (s₁.setTop (mkF m 1 #[.val (.ref a1), .val v0, .val v1] [(.ref a1)]))
  obtain ⟨_, _, ⟨T1, L1, k1, n1⟩, -, X1, ⟨Lc1, hQ1, l1, y1, z1⟩, st1⟩ := X0.specialBack hx (y := (⟨"java/lang/Record", "<init>", "()V"⟩ : MethodName)) rfl hown (mvT hZ (hw _ (List.mem_of_getElem? (i := 127) rfl))) (mvT hZ (hw _ (List.mem_of_getElem? (i := 74) rfl))) (mvT hZ (hw _ (List.mem_of_getElem? (i := 77) rfl))) (by decide) (backOf (W := 0) (rmRec l Z a0 hw [] a1 h0 n0 Z0 G1 O2 P5 eA SE XE FE rZ SZ X00 ) hZ (hw _ (List.mem_of_getElem? (i := 77) rfl)) (hw _ (List.mem_of_getElem? (i := 76) rfl)) (by decide) (by decide)) (g := (mkF m 1 #[.val (.ref a1), .val v0, .val v1] [(.ref a1)])) rfl (by rw [hml]; rfl) (Steps.refl _) (a := a1) (argsL := []) (rest := []) (lenOf pd_3 rfl) rfl (by show 2 * 0 + _ ≤ _; exact Nat.le_of_eq rfl) (hb hby d_prog_5_method_1_code_1) (fun _ _ => ⟨rfl, e0, (by decide : 0 + 0 ≤ _), (by decide : 0 + 0 ≤ _)⟩)
  dsimp only [Pt.U, Pt.locs, Pt.cells, Pt.slots] at X1 l1 y1 z1 st1 hQ1
  subst l1 y1 z1
  obtain ⟨rfl, Nq1, eh1⟩ := hQ1
  have N1 := Fr.app N0 Nq1
  refine Ends.go st1 ?_
  show Ends _ _ _ _ (T1.setTop (mkF m 4 #[.val (.ref a1), .val v0, .val v1] []))
  refine Ends.step (fun t k => XS.aloadN X1.here hx rfl (hb hby d_prog_5_method_1_code_4) rfl rfl k) ?_
  show Ends _ _ _ _ (T1.setTop (mkF m 5 #[.val (.ref a1), .val v0, .val v1] [(.ref a1)]))
  refine Ends.step (fun t k => XS.aloadN X1.here hx rfl (hb hby d_prog_5_method_1_code_5) rfl r_v0 k) ?_
  show Ends _ _ _ _ (T1.setTop (mkF m 6 #[.val (.ref a1), .val v0, .val v1] [v0, (.ref a1)]))
  obtain ⟨T2, h2, X2, e2, W2, st2⟩ := putF X1 hx hZ hown (host := "") (Or.inl (hw _ (List.mem_of_getElem? (i := 128) rfl))) Via.refl eh1 p_Fld_a1_copy p_Exa_a1 (Or.inr ⟨(hw _ (List.mem_of_getElem? (i := 129) rfl)), rfl, hnm⟩) (hw _ (List.mem_of_getElem? (i := 104) rfl)) (ty := (.object "com/example/miki_basin/mikibasin/Copy")) (by decide) (own_narrow_ref r_v0 rfl) (own_fits_ref r_v0 rfl) (g := (mkF m 6 #[.val (.ref a1), .val v0, .val v1] [v0, (.ref a1)])) rfl rfl (hb hby d_prog_5_method_1_code_6)
  have N2 := Fr.snoc X2 N1 ge1
  have Fw2 : Fld Z h2 a1 "com/example/miki_basin/mikibasin/Copy$Pair" "copy" "Lcom/example/miki_basin/mikibasin/Copy;" v0 := p_Fld_a1_copy.same W2
  refine Ends.step st2 ?_
  show Ends _ _ _ _ (T2.setTop (mkF m 9 #[.val (.ref a1), .val v0, .val v1] []))
  refine Ends.step (fun t k => XS.aloadN X2.here hx rfl (hb hby d_prog_5_method_1_code_9) rfl rfl k) ?_
  show Ends _ _ _ _ (T2.setTop (mkF m 10 #[.val (.ref a1), .val v0, .val v1] [(.ref a1)]))
  refine Ends.step (fun t k => XS.aloadN X2.here hx rfl (hb hby d_prog_5_method_1_code_10) rfl r_v1 k) ?_
  show Ends _ _ _ _ (T2.setTop (mkF m 11 #[.val (.ref a1), .val v0, .val v1] [v1, (.ref a1)]))
  have F3 : Exa Z h2 a1 "com/example/miki_basin/mikibasin/Copy$Pair" := (p_Exa_a1.wr W2)
  have F4 : Fld Z h2 a1 "com/example/miki_basin/mikibasin/Copy$Pair" "other" "Lcom/example/miki_basin/mikibasin/Copy;" .null := (p_Fld_a1_other.other W2 (Or.inr (sn_com_example_miki_basin_mikibasin_Copy_Pair_other__copy hw)))
  obtain ⟨T5, h5, X5, e5, W5, st5⟩ := putF X2 hx hZ hown (host := "") (Or.inl (hw _ (List.mem_of_getElem? (i := 130) rfl))) Via.refl e2 F4 F3 (Or.inr ⟨(hw _ (List.mem_of_getElem? (i := 131) rfl)), rfl, hnm⟩) (hw _ (List.mem_of_getElem? (i := 104) rfl)) (ty := (.object "com/example/miki_basin/mikibasin/Copy")) (by decide) (own_narrow_ref r_v1 rfl) (own_fits_ref r_v1 rfl) (g := (mkF m 11 #[.val (.ref a1), .val v0, .val v1] [v1, (.ref a1)])) rfl rfl (hb hby d_prog_5_method_1_code_11)
  have N5 := Fr.snoc X5 N2 ge1
  have Fw5 : Fld Z h5 a1 "com/example/miki_basin/mikibasin/Copy$Pair" "other" "Lcom/example/miki_basin/mikibasin/Copy;" v1 := F4.same W5
  refine Ends.step st5 ?_
  show Ends _ _ _ _ (T5.setTop (mkF m 14 #[.val (.ref a1), .val v0, .val v1] []))
  have F6 : Exa Z h5 a1 "com/example/miki_basin/mikibasin/Copy$Pair" := (F3.wr W5)
  have F7 : Fld Z h5 a1 "com/example/miki_basin/mikibasin/Copy$Pair" "copy" "Lcom/example/miki_basin/mikibasin/Copy;" v0 := (Fw2.other W5 (Or.inr (sn_com_example_miki_basin_mikibasin_Copy_Pair_copy__other hw)))
  exact own_finV X5 hx hlk Bd.returns (hb hby d_prog_5_method_1_code_14) e5 (K := _) ⟨rfl, N5, (((Keep.refl h0 [a1]).wr W2 (Or.inl (List.mem_of_getElem? (i := 0) rfl))).wr W5 (Or.inl (List.mem_of_getElem? (i := 0) rfl))), F6, F7, Fw5⟩ (by decide) (by decide)
def QrmCopyI (Z : State) (a1 : Addr) (v0 : Value) (v1 : Value) (h0 : Heap) (n0 : Nat) (v : Option Value) (h : Heap) (L : List Loc) : Prop := v = none ∧ Fr n0 L ∧ Keep h0 h [a1] ∧ (Exa Z h a1 "com/example/miki_basin/mikibasin/Copy") ∧ (Fld Z h a1 "com/example/miki_basin/mikibasin/Copy" "name" "Ljava/lang/String;" v0) ∧ (Fld Z h a1 "com/example/miki_basin/mikibasin/Copy" "figure" "Lcom/example/miki_basin/mikibasin/Figure;" v1)
theorem ef_rmCopyI (m : MethodId) (a1 : Addr) (v0 : Value) (v1 : Value) (r_v0 : Value.isRef v0 = true) (r_v1 : Value.isRef v1 = true) : entryFrame m #[(.ref a1), v0, v1] 3 = mkF m 0 #[.val (.ref a1), .val v0, .val v1] [] := by first | (simp [entryFrame, mkF, argsToLocals, maxLocals, own_cR, own_cI, own_cN, own_cJ, XT.cat1 r_v0, XT.cat1 r_v1]; done) | rfl
set_option maxRecDepth 65536 in
set_option maxHeartbeats 40000000 in
theorem rmCopyI (l : Launch) (Z : State) (a0 : Array Value) (hw : ∀ d ∈ tables_1, d.before a0 Z = true) (ws : List Jvm.Cond) (a1 : Addr) (v0 : Value) (v1 : Value) (h0 : Heap) (n0 : Nat) (Z0 : n0 ≤ h0.size) (G1 : Int32) (O2 : Sta Z Z.heap "java/lang/String" "COMPACT_STRINGS" "Z" (.int G1)) (P5 : ¬ (G1 = (0 : Int32))) (eA : Addr) (SE : Sta Z Z.heap "java/util/Optional" "EMPTY" "Ljava/util/Optional;" (.ref eA)) (XE : Exa Z Z.heap eA "java/util/Optional") (FE : Fld Z Z.heap eA "java/util/Optional" "value" "Ljava/lang/Object;" .null) (rZ : Addr) (SZ : Sta Z Z.heap "com/example/miki_basin/mikibasin/Rational" "ZERO" "Lcom/example/miki_basin/mikibasin/Rational;" (.ref rZ)) (X00 : Old Z n0 h0) (r_v0 : Value.isRef v0 = true) (r_v1 : Value.isRef v1 = true) (p_Exa_a1 : Exa Z h0 a1 "com/example/miki_basin/mikibasin/Copy") (p_Fld_a1_name : Fld Z h0 a1 "com/example/miki_basin/mikibasin/Copy" "name" "Ljava/lang/String;" .null) (p_Fld_a1_figure : Fld Z h0 a1 "com/example/miki_basin/mikibasin/Copy" "figure" "Lcom/example/miki_basin/mikibasin/Figure;" .null) (ge1 : n0 ≤ a1) :
    MetFree l (⟨"com/example/miki_basin/mikibasin/Copy", "<init>", "(Ljava/lang/String;Lcom/example/miki_basin/mikibasin/Figure;)V"⟩ : MethodName) (head1 (Jvm.Cond.code (⟨"com/example/miki_basin/mikibasin/Copy", "<init>", "(Ljava/lang/String;Lcom/example/miki_basin/mikibasin/Figure;)V"⟩ : MethodName) prog_3_method_1_code 3 (Option.none : Option Jvm.ClassFile.FieldType) :: ws) ({ frames := 2, cells := 0, slots := 0, locals := 24 } : Room)) (fun a U => a = #[(.ref a1), v0, v1] ∧ Z.Warmed39 U.vm ∧ U.heap = h0) (fun _ _ _ _ _ => True) (fun _ U o U' => ∃ v L, o = .returned v ∧ QrmCopyI Z a1 v0 v1 h0 n0 v U'.heap L ∧ FrameEnd U o U' L ({ frames := 2, cells := 0, slots := 0, locals := 24 } : Room).cells ({ frames := 2, cells := 0, slots := 0, locals := 24 } : Room).slots) := by
  refine MetFree.of_bodySF (plainFor_of_name pn_com_example_miki_basin_mikibasin_Copy) hisR ?_
  intro p e s m args below meth c s₁ Bd hml0 hP hK
  obtain ⟨rfl, hZ, hh⟩ := hP
  have hx := Bd.exec
  have hby := Bd.bytes
  have hml : c.maxLocals = 3 := hml0
  have hown : s.vm.findClass "com/example/miki_basin/mikibasin/Copy" = some m.cls := findClass_of_methodNamed Bd.named
  have hnm := (name_of_methodNamed Bd.named Bd.method).1
  have hlk : meth.locks = false := BodyLoose.notSynchronized Bd
  have X0 : Stand p l e ({ frames := 2, cells := 0, slots := 0, locals := 24 } : Room) s m #[(.ref a1), v0, v1] below meth c s₁ [] 0 0 := Stand.of_body Bd
  have e0 : s₁.heap = h0 := by rw [← hh, Bd.state]; rfl
  have N0 := Fr.nil n0
  show Ends p.tables e below (fun o U' => ∃ v L, o = .returned v ∧ QrmCopyI Z a1 v0 v1 h0 n0 v U'.heap L ∧ FrameEnd s o U' L ({ frames := 2, cells := 0, slots := 0, locals := 24 } : Room).cells ({ frames := 2, cells := 0, slots := 0, locals := 24 } : Room).slots) (s₁.setTop (entryFrame m #[(.ref a1), v0, v1] 3))
  refine Ends.step (fun t k => castTop (ef_rmCopyI m a1 v0 v1 r_v0 r_v1) k) ?_
  show Ends _ _ _ _ (s₁.setTop (mkF m 0 #[.val (.ref a1), .val v0, .val v1] []))
  refine Ends.step (fun t k => XS.aloadN X0.here hx rfl (hb hby d_prog_3_method_1_code_0) rfl rfl k) ?_
  show Ends _ _ _ _ (s₁.setTop (mkF m 1 #[.val (.ref a1), .val v0, .val v1] [(.ref a1)]))
  obtain ⟨_, _, ⟨T1, L1, k1, n1⟩, -, X1, ⟨Lc1, hQ1, l1, y1, z1⟩, st1⟩ := X0.specialBack hx (y := (⟨"java/lang/Record", "<init>", "()V"⟩ : MethodName)) rfl hown (mvT hZ (hw _ (List.mem_of_getElem? (i := 119) rfl))) (mvT hZ (hw _ (List.mem_of_getElem? (i := 74) rfl))) (mvT hZ (hw _ (List.mem_of_getElem? (i := 77) rfl))) (by decide) (backOf (W := 0) (rmRec l Z a0 hw [] a1 h0 n0 Z0 G1 O2 P5 eA SE XE FE rZ SZ X00 ) hZ (hw _ (List.mem_of_getElem? (i := 77) rfl)) (hw _ (List.mem_of_getElem? (i := 76) rfl)) (by decide) (by decide)) (g := (mkF m 1 #[.val (.ref a1), .val v0, .val v1] [(.ref a1)])) rfl (by rw [hml]; rfl) (Steps.refl _) (a := a1) (argsL := []) (rest := []) (lenOf pd_3 rfl) rfl (by show 2 * 0 + _ ≤ _; exact Nat.le_of_eq rfl) (hb hby d_prog_3_method_1_code_1) (fun _ _ => ⟨rfl, e0, (by decide : 0 + 0 ≤ _), (by decide : 0 + 0 ≤ _)⟩)
  dsimp only [Pt.U, Pt.locs, Pt.cells, Pt.slots] at X1 l1 y1 z1 st1 hQ1
  subst l1 y1 z1
  obtain ⟨rfl, Nq1, eh1⟩ := hQ1
  have N1 := Fr.app N0 Nq1
  refine Ends.go st1 ?_
  show Ends _ _ _ _ (T1.setTop (mkF m 4 #[.val (.ref a1), .val v0, .val v1] []))
  refine Ends.step (fun t k => XS.aloadN X1.here hx rfl (hb hby d_prog_3_method_1_code_4) rfl rfl k) ?_
  show Ends _ _ _ _ (T1.setTop (mkF m 5 #[.val (.ref a1), .val v0, .val v1] [(.ref a1)]))
  refine Ends.step (fun t k => XS.aloadN X1.here hx rfl (hb hby d_prog_3_method_1_code_5) rfl r_v0 k) ?_
  show Ends _ _ _ _ (T1.setTop (mkF m 6 #[.val (.ref a1), .val v0, .val v1] [v0, (.ref a1)]))
  obtain ⟨T2, h2, X2, e2, W2, st2⟩ := putF X1 hx hZ hown (host := "") (Or.inl (hw _ (List.mem_of_getElem? (i := 120) rfl))) Via.refl eh1 p_Fld_a1_name p_Exa_a1 (Or.inr ⟨(hw _ (List.mem_of_getElem? (i := 121) rfl)), rfl, hnm⟩) (hw _ (List.mem_of_getElem? (i := 107) rfl)) (ty := (.object "java/lang/String")) (by decide) (own_narrow_ref r_v0 rfl) (own_fits_ref r_v0 rfl) (g := (mkF m 6 #[.val (.ref a1), .val v0, .val v1] [v0, (.ref a1)])) rfl rfl (hb hby d_prog_3_method_1_code_6)
  have N2 := Fr.snoc X2 N1 ge1
  have Fw2 : Fld Z h2 a1 "com/example/miki_basin/mikibasin/Copy" "name" "Ljava/lang/String;" v0 := p_Fld_a1_name.same W2
  refine Ends.step st2 ?_
  show Ends _ _ _ _ (T2.setTop (mkF m 9 #[.val (.ref a1), .val v0, .val v1] []))
  refine Ends.step (fun t k => XS.aloadN X2.here hx rfl (hb hby d_prog_3_method_1_code_9) rfl rfl k) ?_
  show Ends _ _ _ _ (T2.setTop (mkF m 10 #[.val (.ref a1), .val v0, .val v1] [(.ref a1)]))
  refine Ends.step (fun t k => XS.aloadN X2.here hx rfl (hb hby d_prog_3_method_1_code_10) rfl r_v1 k) ?_
  show Ends _ _ _ _ (T2.setTop (mkF m 11 #[.val (.ref a1), .val v0, .val v1] [v1, (.ref a1)]))
  have F3 : Exa Z h2 a1 "com/example/miki_basin/mikibasin/Copy" := (p_Exa_a1.wr W2)
  have F4 : Fld Z h2 a1 "com/example/miki_basin/mikibasin/Copy" "figure" "Lcom/example/miki_basin/mikibasin/Figure;" .null := (p_Fld_a1_figure.other W2 (Or.inr (sn_com_example_miki_basin_mikibasin_Copy_figure__name hw)))
  obtain ⟨T5, h5, X5, e5, W5, st5⟩ := putF X2 hx hZ hown (host := "") (Or.inl (hw _ (List.mem_of_getElem? (i := 122) rfl))) Via.refl e2 F4 F3 (Or.inr ⟨(hw _ (List.mem_of_getElem? (i := 123) rfl)), rfl, hnm⟩) (hw _ (List.mem_of_getElem? (i := 107) rfl)) (ty := (.object "com/example/miki_basin/mikibasin/Figure")) (by decide) (own_narrow_ref r_v1 rfl) (own_fits_ref r_v1 rfl) (g := (mkF m 11 #[.val (.ref a1), .val v0, .val v1] [v1, (.ref a1)])) rfl rfl (hb hby d_prog_3_method_1_code_11)
  have N5 := Fr.snoc X5 N2 ge1
  have Fw5 : Fld Z h5 a1 "com/example/miki_basin/mikibasin/Copy" "figure" "Lcom/example/miki_basin/mikibasin/Figure;" v1 := F4.same W5
  refine Ends.step st5 ?_
  show Ends _ _ _ _ (T5.setTop (mkF m 14 #[.val (.ref a1), .val v0, .val v1] []))
  have F6 : Exa Z h5 a1 "com/example/miki_basin/mikibasin/Copy" := (F3.wr W5)
  have F7 : Fld Z h5 a1 "com/example/miki_basin/mikibasin/Copy" "name" "Ljava/lang/String;" v0 := (Fw2.other W5 (Or.inr (sn_com_example_miki_basin_mikibasin_Copy_name__figure hw)))
  exact own_finV X5 hx hlk Bd.returns (hb hby d_prog_3_method_1_code_14) e5 (K := _) ⟨rfl, N5, (((Keep.refl h0 [a1]).wr W2 (Or.inl (List.mem_of_getElem? (i := 0) rfl))).wr W5 (Or.inl (List.mem_of_getElem? (i := 0) rfl))), F6, F7, Fw5⟩ (by decide) (by decide)
def QrmPc (Z : State) (a1 : Addr) (v1 : Value) (h0 : Heap) (n0 : Nat) (v : Option Value) (h : Heap) (L : List Loc) : Prop := v = some v1 ∧ Fr n0 L ∧ h = h0
theorem ef_rmPc (m : MethodId) (a1 : Addr)  : entryFrame m #[(.ref a1)] 1 = mkF m 0 #[.val (.ref a1)] [] := by first | (simp [entryFrame, mkF, argsToLocals, maxLocals, Value.category]; done) | rfl
set_option maxRecDepth 65536 in
set_option maxHeartbeats 40000000 in
theorem rmPc (l : Launch) (Z : State) (a0 : Array Value) (hw : ∀ d ∈ tables_1, d.before a0 Z = true) (ws : List Jvm.Cond) (a1 : Addr) (v1 : Value) (h0 : Heap) (n0 : Nat) (Z0 : n0 ≤ h0.size) (G1 : Int32) (O2 : Sta Z Z.heap "java/lang/String" "COMPACT_STRINGS" "Z" (.int G1)) (P5 : ¬ (G1 = (0 : Int32))) (eA : Addr) (SE : Sta Z Z.heap "java/util/Optional" "EMPTY" "Ljava/util/Optional;" (.ref eA)) (XE : Exa Z Z.heap eA "java/util/Optional") (FE : Fld Z Z.heap eA "java/util/Optional" "value" "Ljava/lang/Object;" .null) (rZ : Addr) (SZ : Sta Z Z.heap "com/example/miki_basin/mikibasin/Rational" "ZERO" "Lcom/example/miki_basin/mikibasin/Rational;" (.ref rZ)) (X00 : Old Z n0 h0) (p_Fld_a1_copy : Fld Z h0 a1 "com/example/miki_basin/mikibasin/Copy$Pair" "copy" "Lcom/example/miki_basin/mikibasin/Copy;" v1) (r_v1 : Value.isRef v1 = true) :
    MetFree l (⟨"com/example/miki_basin/mikibasin/Copy$Pair", "copy", "()Lcom/example/miki_basin/mikibasin/Copy;"⟩ : MethodName) (head1 (Jvm.Cond.code (⟨"com/example/miki_basin/mikibasin/Copy$Pair", "copy", "()Lcom/example/miki_basin/mikibasin/Copy;"⟩ : MethodName) prog_5_method_6_code 1 (Option.some (Jvm.ClassFile.FieldType.object "com/example/miki_basin/mikibasin/Copy")) :: ws) ({ frames := 0, cells := 0, slots := 0, locals := 0 } : Room)) (fun a U => a = #[(.ref a1)] ∧ Z.Warmed39 U.vm ∧ U.heap = h0) (fun _ _ _ _ _ => True) (fun _ U o U' => ∃ v L, o = .returned v ∧ QrmPc Z a1 v1 h0 n0 v U'.heap L ∧ FrameEnd U o U' L ({ frames := 0, cells := 0, slots := 0, locals := 0 } : Room).cells ({ frames := 0, cells := 0, slots := 0, locals := 0 } : Room).slots) := by
  refine MetFree.of_bodySF (plainFor_of_name pn_com_example_miki_basin_mikibasin_Copy_Pair) hisR ?_
  intro p e s m args below meth c s₁ Bd hml0 hP hK
  obtain ⟨rfl, hZ, hh⟩ := hP
  have hx := Bd.exec
  have hby := Bd.bytes
  have hml : c.maxLocals = 1 := hml0
  have hown : s.vm.findClass "com/example/miki_basin/mikibasin/Copy$Pair" = some m.cls := findClass_of_methodNamed Bd.named
  have hnm := (name_of_methodNamed Bd.named Bd.method).1
  have hlk : meth.locks = false := BodyLoose.notSynchronized Bd
  have X0 : Stand p l e ({ frames := 0, cells := 0, slots := 0, locals := 0 } : Room) s m #[(.ref a1)] below meth c s₁ [] 0 0 := Stand.of_body Bd
  have e0 : s₁.heap = h0 := by rw [← hh, Bd.state]; rfl
  have N0 := Fr.nil n0
  show Ends p.tables e below (fun o U' => ∃ v L, o = .returned v ∧ QrmPc Z a1 v1 h0 n0 v U'.heap L ∧ FrameEnd s o U' L ({ frames := 0, cells := 0, slots := 0, locals := 0 } : Room).cells ({ frames := 0, cells := 0, slots := 0, locals := 0 } : Room).slots) (s₁.setTop (entryFrame m #[(.ref a1)] 1))
  refine Ends.step (fun t k => castTop (ef_rmPc m a1 ) k) ?_
  show Ends _ _ _ _ (s₁.setTop (mkF m 0 #[.val (.ref a1)] []))
  refine Ends.step (fun t k => XS.aloadN X0.here hx rfl (hb hby d_prog_5_method_6_code_0) rfl rfl k) ?_
  show Ends _ _ _ _ (s₁.setTop (mkF m 1 #[.val (.ref a1)] [(.ref a1)]))
  obtain ⟨T1, X1, e1, st1⟩ := getF X0 hx hZ hown (host := "") (Or.inl (hw _ (List.mem_of_getElem? (i := 128) rfl))) Via.refl e0 p_Fld_a1_copy (g := (mkF m 1 #[.val (.ref a1)] [(.ref a1)])) rfl rfl (hb hby d_prog_5_method_6_code_1)
  refine Ends.step st1 ?_
  show Ends _ _ _ _ (T1.setTop (mkF m 4 #[.val (.ref a1)] [v1]))
  exact own_finR X1 hx hlk Bd.returns rfl r_v1 (hb hby d_prog_5_method_6_code_4) e1 ⟨rfl, N0, rfl⟩ (by decide) (by decide)
def QrmPo (Z : State) (a1 : Addr) (v1 : Value) (h0 : Heap) (n0 : Nat) (v : Option Value) (h : Heap) (L : List Loc) : Prop := v = some v1 ∧ Fr n0 L ∧ h = h0
theorem ef_rmPo (m : MethodId) (a1 : Addr)  : entryFrame m #[(.ref a1)] 1 = mkF m 0 #[.val (.ref a1)] [] := by first | (simp [entryFrame, mkF, argsToLocals, maxLocals, Value.category]; done) | rfl
set_option maxRecDepth 65536 in
set_option maxHeartbeats 40000000 in
theorem rmPo (l : Launch) (Z : State) (a0 : Array Value) (hw : ∀ d ∈ tables_1, d.before a0 Z = true) (ws : List Jvm.Cond) (a1 : Addr) (v1 : Value) (h0 : Heap) (n0 : Nat) (Z0 : n0 ≤ h0.size) (G1 : Int32) (O2 : Sta Z Z.heap "java/lang/String" "COMPACT_STRINGS" "Z" (.int G1)) (P5 : ¬ (G1 = (0 : Int32))) (eA : Addr) (SE : Sta Z Z.heap "java/util/Optional" "EMPTY" "Ljava/util/Optional;" (.ref eA)) (XE : Exa Z Z.heap eA "java/util/Optional") (FE : Fld Z Z.heap eA "java/util/Optional" "value" "Ljava/lang/Object;" .null) (rZ : Addr) (SZ : Sta Z Z.heap "com/example/miki_basin/mikibasin/Rational" "ZERO" "Lcom/example/miki_basin/mikibasin/Rational;" (.ref rZ)) (X00 : Old Z n0 h0) (p_Fld_a1_other : Fld Z h0 a1 "com/example/miki_basin/mikibasin/Copy$Pair" "other" "Lcom/example/miki_basin/mikibasin/Copy;" v1) (r_v1 : Value.isRef v1 = true) :
    MetFree l (⟨"com/example/miki_basin/mikibasin/Copy$Pair", "other", "()Lcom/example/miki_basin/mikibasin/Copy;"⟩ : MethodName) (head1 (Jvm.Cond.code (⟨"com/example/miki_basin/mikibasin/Copy$Pair", "other", "()Lcom/example/miki_basin/mikibasin/Copy;"⟩ : MethodName) prog_5_method_7_code 1 (Option.some (Jvm.ClassFile.FieldType.object "com/example/miki_basin/mikibasin/Copy")) :: ws) ({ frames := 0, cells := 0, slots := 0, locals := 0 } : Room)) (fun a U => a = #[(.ref a1)] ∧ Z.Warmed39 U.vm ∧ U.heap = h0) (fun _ _ _ _ _ => True) (fun _ U o U' => ∃ v L, o = .returned v ∧ QrmPo Z a1 v1 h0 n0 v U'.heap L ∧ FrameEnd U o U' L ({ frames := 0, cells := 0, slots := 0, locals := 0 } : Room).cells ({ frames := 0, cells := 0, slots := 0, locals := 0 } : Room).slots) := by
  refine MetFree.of_bodySF (plainFor_of_name pn_com_example_miki_basin_mikibasin_Copy_Pair) hisR ?_
  intro p e s m args below meth c s₁ Bd hml0 hP hK
  obtain ⟨rfl, hZ, hh⟩ := hP
  have hx := Bd.exec
  have hby := Bd.bytes
  have hml : c.maxLocals = 1 := hml0
  have hown : s.vm.findClass "com/example/miki_basin/mikibasin/Copy$Pair" = some m.cls := findClass_of_methodNamed Bd.named
  have hnm := (name_of_methodNamed Bd.named Bd.method).1
  have hlk : meth.locks = false := BodyLoose.notSynchronized Bd
  have X0 : Stand p l e ({ frames := 0, cells := 0, slots := 0, locals := 0 } : Room) s m #[(.ref a1)] below meth c s₁ [] 0 0 := Stand.of_body Bd
  have e0 : s₁.heap = h0 := by rw [← hh, Bd.state]; rfl
  have N0 := Fr.nil n0
  show Ends p.tables e below (fun o U' => ∃ v L, o = .returned v ∧ QrmPo Z a1 v1 h0 n0 v U'.heap L ∧ FrameEnd s o U' L ({ frames := 0, cells := 0, slots := 0, locals := 0 } : Room).cells ({ frames := 0, cells := 0, slots := 0, locals := 0 } : Room).slots) (s₁.setTop (entryFrame m #[(.ref a1)] 1))
  refine Ends.step (fun t k => castTop (ef_rmPo m a1 ) k) ?_
  show Ends _ _ _ _ (s₁.setTop (mkF m 0 #[.val (.ref a1)] []))
  refine Ends.step (fun t k => XS.aloadN X0.here hx rfl (hb hby d_prog_5_method_7_code_0) rfl rfl k) ?_
  show Ends _ _ _ _ (s₁.setTop (mkF m 1 #[.val (.ref a1)] [(.ref a1)]))
  obtain ⟨T1, X1, e1, st1⟩ := getF X0 hx hZ hown (host := "") (Or.inl (hw _ (List.mem_of_getElem? (i := 130) rfl))) Via.refl e0 p_Fld_a1_other (g := (mkF m 1 #[.val (.ref a1)] [(.ref a1)])) rfl rfl (hb hby d_prog_5_method_7_code_1)
  refine Ends.step st1 ?_
  show Ends _ _ _ _ (T1.setTop (mkF m 4 #[.val (.ref a1)] [v1]))
  exact own_finR X1 hx hlk Bd.returns rfl r_v1 (hb hby d_prog_5_method_7_code_4) e1 ⟨rfl, N0, rfl⟩ (by decide) (by decide)
def QrmCn (Z : State) (a1 : Addr) (v1 : Value) (h0 : Heap) (n0 : Nat) (v : Option Value) (h : Heap) (L : List Loc) : Prop := v = some v1 ∧ Fr n0 L ∧ h = h0
theorem ef_rmCn (m : MethodId) (a1 : Addr)  : entryFrame m #[(.ref a1)] 1 = mkF m 0 #[.val (.ref a1)] [] := by first | (simp [entryFrame, mkF, argsToLocals, maxLocals, Value.category]; done) | rfl
set_option maxRecDepth 65536 in
set_option maxHeartbeats 40000000 in
theorem rmCn (l : Launch) (Z : State) (a0 : Array Value) (hw : ∀ d ∈ tables_1, d.before a0 Z = true) (ws : List Jvm.Cond) (a1 : Addr) (v1 : Value) (h0 : Heap) (n0 : Nat) (Z0 : n0 ≤ h0.size) (G1 : Int32) (O2 : Sta Z Z.heap "java/lang/String" "COMPACT_STRINGS" "Z" (.int G1)) (P5 : ¬ (G1 = (0 : Int32))) (eA : Addr) (SE : Sta Z Z.heap "java/util/Optional" "EMPTY" "Ljava/util/Optional;" (.ref eA)) (XE : Exa Z Z.heap eA "java/util/Optional") (FE : Fld Z Z.heap eA "java/util/Optional" "value" "Ljava/lang/Object;" .null) (rZ : Addr) (SZ : Sta Z Z.heap "com/example/miki_basin/mikibasin/Rational" "ZERO" "Lcom/example/miki_basin/mikibasin/Rational;" (.ref rZ)) (X00 : Old Z n0 h0) (p_Fld_a1_name : Fld Z h0 a1 "com/example/miki_basin/mikibasin/Copy" "name" "Ljava/lang/String;" v1) (r_v1 : Value.isRef v1 = true) :
    MetFree l (⟨"com/example/miki_basin/mikibasin/Copy", "name", "()Ljava/lang/String;"⟩ : MethodName) (head1 (Jvm.Cond.code (⟨"com/example/miki_basin/mikibasin/Copy", "name", "()Ljava/lang/String;"⟩ : MethodName) prog_3_method_6_code 1 (Option.some (Jvm.ClassFile.FieldType.object "java/lang/String")) :: ws) ({ frames := 0, cells := 0, slots := 0, locals := 0 } : Room)) (fun a U => a = #[(.ref a1)] ∧ Z.Warmed39 U.vm ∧ U.heap = h0) (fun _ _ _ _ _ => True) (fun _ U o U' => ∃ v L, o = .returned v ∧ QrmCn Z a1 v1 h0 n0 v U'.heap L ∧ FrameEnd U o U' L ({ frames := 0, cells := 0, slots := 0, locals := 0 } : Room).cells ({ frames := 0, cells := 0, slots := 0, locals := 0 } : Room).slots) := by
  refine MetFree.of_bodySF (plainFor_of_name pn_com_example_miki_basin_mikibasin_Copy) hisR ?_
  intro p e s m args below meth c s₁ Bd hml0 hP hK
  obtain ⟨rfl, hZ, hh⟩ := hP
  have hx := Bd.exec
  have hby := Bd.bytes
  have hml : c.maxLocals = 1 := hml0
  have hown : s.vm.findClass "com/example/miki_basin/mikibasin/Copy" = some m.cls := findClass_of_methodNamed Bd.named
  have hnm := (name_of_methodNamed Bd.named Bd.method).1
  have hlk : meth.locks = false := BodyLoose.notSynchronized Bd
  have X0 : Stand p l e ({ frames := 0, cells := 0, slots := 0, locals := 0 } : Room) s m #[(.ref a1)] below meth c s₁ [] 0 0 := Stand.of_body Bd
  have e0 : s₁.heap = h0 := by rw [← hh, Bd.state]; rfl
  have N0 := Fr.nil n0
  show Ends p.tables e below (fun o U' => ∃ v L, o = .returned v ∧ QrmCn Z a1 v1 h0 n0 v U'.heap L ∧ FrameEnd s o U' L ({ frames := 0, cells := 0, slots := 0, locals := 0 } : Room).cells ({ frames := 0, cells := 0, slots := 0, locals := 0 } : Room).slots) (s₁.setTop (entryFrame m #[(.ref a1)] 1))
  refine Ends.step (fun t k => castTop (ef_rmCn m a1 ) k) ?_
  show Ends _ _ _ _ (s₁.setTop (mkF m 0 #[.val (.ref a1)] []))
  refine Ends.step (fun t k => XS.aloadN X0.here hx rfl (hb hby d_prog_3_method_6_code_0) rfl rfl k) ?_
  show Ends _ _ _ _ (s₁.setTop (mkF m 1 #[.val (.ref a1)] [(.ref a1)]))
  obtain ⟨T1, X1, e1, st1⟩ := getF X0 hx hZ hown (host := "") (Or.inl (hw _ (List.mem_of_getElem? (i := 120) rfl))) Via.refl e0 p_Fld_a1_name (g := (mkF m 1 #[.val (.ref a1)] [(.ref a1)])) rfl rfl (hb hby d_prog_3_method_6_code_1)
  refine Ends.step st1 ?_
  show Ends _ _ _ _ (T1.setTop (mkF m 4 #[.val (.ref a1)] [v1]))
  exact own_finR X1 hx hlk Bd.returns rfl r_v1 (hb hby d_prog_3_method_6_code_4) e1 ⟨rfl, N0, rfl⟩ (by decide) (by decide)
def QrmCf (Z : State) (a1 : Addr) (v1 : Value) (h0 : Heap) (n0 : Nat) (v : Option Value) (h : Heap) (L : List Loc) : Prop := v = some v1 ∧ Fr n0 L ∧ h = h0
theorem ef_rmCf (m : MethodId) (a1 : Addr)  : entryFrame m #[(.ref a1)] 1 = mkF m 0 #[.val (.ref a1)] [] := by first | (simp [entryFrame, mkF, argsToLocals, maxLocals, Value.category]; done) | rfl
set_option maxRecDepth 65536 in
set_option maxHeartbeats 40000000 in
theorem rmCf (l : Launch) (Z : State) (a0 : Array Value) (hw : ∀ d ∈ tables_1, d.before a0 Z = true) (ws : List Jvm.Cond) (a1 : Addr) (v1 : Value) (h0 : Heap) (n0 : Nat) (Z0 : n0 ≤ h0.size) (G1 : Int32) (O2 : Sta Z Z.heap "java/lang/String" "COMPACT_STRINGS" "Z" (.int G1)) (P5 : ¬ (G1 = (0 : Int32))) (eA : Addr) (SE : Sta Z Z.heap "java/util/Optional" "EMPTY" "Ljava/util/Optional;" (.ref eA)) (XE : Exa Z Z.heap eA "java/util/Optional") (FE : Fld Z Z.heap eA "java/util/Optional" "value" "Ljava/lang/Object;" .null) (rZ : Addr) (SZ : Sta Z Z.heap "com/example/miki_basin/mikibasin/Rational" "ZERO" "Lcom/example/miki_basin/mikibasin/Rational;" (.ref rZ)) (X00 : Old Z n0 h0) (p_Fld_a1_figure : Fld Z h0 a1 "com/example/miki_basin/mikibasin/Copy" "figure" "Lcom/example/miki_basin/mikibasin/Figure;" v1) (r_v1 : Value.isRef v1 = true) :
    MetFree l (⟨"com/example/miki_basin/mikibasin/Copy", "figure", "()Lcom/example/miki_basin/mikibasin/Figure;"⟩ : MethodName) (head1 (Jvm.Cond.code (⟨"com/example/miki_basin/mikibasin/Copy", "figure", "()Lcom/example/miki_basin/mikibasin/Figure;"⟩ : MethodName) prog_3_method_7_code 1 (Option.some (Jvm.ClassFile.FieldType.object "com/example/miki_basin/mikibasin/Figure")) :: ws) ({ frames := 0, cells := 0, slots := 0, locals := 0 } : Room)) (fun a U => a = #[(.ref a1)] ∧ Z.Warmed39 U.vm ∧ U.heap = h0) (fun _ _ _ _ _ => True) (fun _ U o U' => ∃ v L, o = .returned v ∧ QrmCf Z a1 v1 h0 n0 v U'.heap L ∧ FrameEnd U o U' L ({ frames := 0, cells := 0, slots := 0, locals := 0 } : Room).cells ({ frames := 0, cells := 0, slots := 0, locals := 0 } : Room).slots) := by
  refine MetFree.of_bodySF (plainFor_of_name pn_com_example_miki_basin_mikibasin_Copy) hisR ?_
  intro p e s m args below meth c s₁ Bd hml0 hP hK
  obtain ⟨rfl, hZ, hh⟩ := hP
  have hx := Bd.exec
  have hby := Bd.bytes
  have hml : c.maxLocals = 1 := hml0
  have hown : s.vm.findClass "com/example/miki_basin/mikibasin/Copy" = some m.cls := findClass_of_methodNamed Bd.named
  have hnm := (name_of_methodNamed Bd.named Bd.method).1
  have hlk : meth.locks = false := BodyLoose.notSynchronized Bd
  have X0 : Stand p l e ({ frames := 0, cells := 0, slots := 0, locals := 0 } : Room) s m #[(.ref a1)] below meth c s₁ [] 0 0 := Stand.of_body Bd
  have e0 : s₁.heap = h0 := by rw [← hh, Bd.state]; rfl
  have N0 := Fr.nil n0
  show Ends p.tables e below (fun o U' => ∃ v L, o = .returned v ∧ QrmCf Z a1 v1 h0 n0 v U'.heap L ∧ FrameEnd s o U' L ({ frames := 0, cells := 0, slots := 0, locals := 0 } : Room).cells ({ frames := 0, cells := 0, slots := 0, locals := 0 } : Room).slots) (s₁.setTop (entryFrame m #[(.ref a1)] 1))
  refine Ends.step (fun t k => castTop (ef_rmCf m a1 ) k) ?_
  show Ends _ _ _ _ (s₁.setTop (mkF m 0 #[.val (.ref a1)] []))
  refine Ends.step (fun t k => XS.aloadN X0.here hx rfl (hb hby d_prog_3_method_7_code_0) rfl rfl k) ?_
  show Ends _ _ _ _ (s₁.setTop (mkF m 1 #[.val (.ref a1)] [(.ref a1)]))
  obtain ⟨T1, X1, e1, st1⟩ := getF X0 hx hZ hown (host := "") (Or.inl (hw _ (List.mem_of_getElem? (i := 122) rfl))) Via.refl e0 p_Fld_a1_figure (g := (mkF m 1 #[.val (.ref a1)] [(.ref a1)])) rfl rfl (hb hby d_prog_3_method_7_code_1)
  refine Ends.step st1 ?_
  show Ends _ _ _ _ (T1.setTop (mkF m 4 #[.val (.ref a1)] [v1]))
  exact own_finR X1 hx hlk Bd.returns rfl r_v1 (hb hby d_prog_3_method_7_code_4) e1 ⟨rfl, N0, rfl⟩ (by decide) (by decide)
def QrmEqS (Z : State) (a1 : Addr) (h0 : Heap) (n0 : Nat) (v : Option Value) (h : Heap) (L : List Loc) : Prop := v = some (.int (1 : Int32)) ∧ Fr n0 L ∧ h = h0
theorem ef_rmEqS (m : MethodId) (a1 : Addr)  : entryFrame m #[(.ref a1), (.ref a1)] 3 = mkF m 0 #[.val (.ref a1), .val (.ref a1), .unset] [] := by first | (simp [entryFrame, mkF, argsToLocals, maxLocals, Value.category]; done) | rfl
set_option maxRecDepth 65536 in
set_option maxHeartbeats 40000000 in
theorem rmEqS (l : Launch) (Z : State) (a0 : Array Value) (hw : ∀ d ∈ tables_1, d.before a0 Z = true) (ws : List Jvm.Cond) (a1 : Addr) (h0 : Heap) (n0 : Nat) (Z0 : n0 ≤ h0.size) (G1 : Int32) (O2 : Sta Z Z.heap "java/lang/String" "COMPACT_STRINGS" "Z" (.int G1)) (P5 : ¬ (G1 = (0 : Int32))) (eA : Addr) (SE : Sta Z Z.heap "java/util/Optional" "EMPTY" "Ljava/util/Optional;" (.ref eA)) (XE : Exa Z Z.heap eA "java/util/Optional") (FE : Fld Z Z.heap eA "java/util/Optional" "value" "Ljava/lang/Object;" .null) (rZ : Addr) (SZ : Sta Z Z.heap "com/example/miki_basin/mikibasin/Rational" "ZERO" "Lcom/example/miki_basin/mikibasin/Rational;" (.ref rZ)) (X00 : Old Z n0 h0)  :
    MetFree l (⟨"java/lang/String", "equals", "(Ljava/lang/Object;)Z"⟩ : MethodName) (head1 (Jvm.Cond.code (⟨"java/lang/String", "equals", "(Ljava/lang/Object;)Z"⟩ : MethodName) jdk_42_method_66_code 3 (Option.some Jvm.ClassFile.FieldType.boolean) :: ws) ({ frames := 0, cells := 0, slots := 0, locals := 0 } : Room)) (fun a U => a = #[(.ref a1), (.ref a1)] ∧ Z.Warmed39 U.vm ∧ U.heap = h0) (fun _ _ _ _ _ => True) (fun _ U o U' => ∃ v L, o = .returned v ∧ QrmEqS Z a1 h0 n0 v U'.heap L ∧ FrameEnd U o U' L ({ frames := 0, cells := 0, slots := 0, locals := 0 } : Room).cells ({ frames := 0, cells := 0, slots := 0, locals := 0 } : Room).slots) := by
  refine MetFree.of_bodySF (plainFor_of_name pn_java_lang_String) hisR ?_
  intro p e s m args below meth c s₁ Bd hml0 hP hK
  obtain ⟨rfl, hZ, hh⟩ := hP
  have hx := Bd.exec
  have hby := Bd.bytes
  have hml : c.maxLocals = 3 := hml0
  have hown : s.vm.findClass "java/lang/String" = some m.cls := findClass_of_methodNamed Bd.named
  have hnm := (name_of_methodNamed Bd.named Bd.method).1
  have hlk : meth.locks = false := BodyLoose.notSynchronized Bd
  have X0 : Stand p l e ({ frames := 0, cells := 0, slots := 0, locals := 0 } : Room) s m #[(.ref a1), (.ref a1)] below meth c s₁ [] 0 0 := Stand.of_body Bd
  have e0 : s₁.heap = h0 := by rw [← hh, Bd.state]; rfl
  have N0 := Fr.nil n0
  show Ends p.tables e below (fun o U' => ∃ v L, o = .returned v ∧ QrmEqS Z a1 h0 n0 v U'.heap L ∧ FrameEnd s o U' L ({ frames := 0, cells := 0, slots := 0, locals := 0 } : Room).cells ({ frames := 0, cells := 0, slots := 0, locals := 0 } : Room).slots) (s₁.setTop (entryFrame m #[(.ref a1), (.ref a1)] 3))
  refine Ends.step (fun t k => castTop (ef_rmEqS m a1 ) k) ?_
  show Ends _ _ _ _ (s₁.setTop (mkF m 0 #[.val (.ref a1), .val (.ref a1), .unset] []))
  refine Ends.step (fun t k => XS.aloadN X0.here hx rfl (hb hby d_jdk_42_method_66_code_0) rfl rfl k) ?_
  show Ends _ _ _ _ (s₁.setTop (mkF m 1 #[.val (.ref a1), .val (.ref a1), .unset] [(.ref a1)]))
  refine Ends.step (fun t k => XS.aloadN X0.here hx rfl (hb hby d_jdk_42_method_66_code_1) rfl rfl k) ?_
  show Ends _ _ _ _ (s₁.setTop (mkF m 2 #[.val (.ref a1), .val (.ref a1), .unset] [(.ref a1), (.ref a1)]))
  refine Ends.step (fun t k => acmp X0 hx rfl (x := (.ref a1)) (y := (.ref a1)) rfl rfl (pc0 := 2) (pc' := 5) (same := true) rfl (hb hby d_jdk_42_method_66_code_2) rfl (decide_eq_true rfl) (by decide) (by decide) k) ?_
  show Ends _ _ _ _ (s₁.setTop (mkF m 5 #[.val (.ref a1), .val (.ref a1), .unset] []))
  refine Ends.step (fun t k => XS.iconst X0.here hx rfl (hb hby d_jdk_42_method_66_code_5) k) ?_
  show Ends _ _ _ _ (s₁.setTop (mkF m 6 #[.val (.ref a1), .val (.ref a1), .unset] [(.int (1 : Int32))]))
  exact own_finI X0 hx hlk (t := .boolean) Bd.returns (by simp) rfl (hb hby d_jdk_42_method_66_code_6) e0 ⟨rfl, N0, rfl⟩ (by decide) (by decide)
def QrmPair_a (Z : State) (a1 : Addr) (a2 : Addr) (eA : Addr) (h0 : Heap) (n0 : Nat) (v : Option Value) (h : Heap) (L : List Loc) : Prop := v = some (.ref eA) ∧ Fr n0 L ∧ h = h0
theorem ef_rmPair_a (m : MethodId) (a1 : Addr)  : entryFrame m #[(.ref a1)] 1 = mkF m 0 #[.val (.ref a1)] [] := by first | (simp [entryFrame, mkF, argsToLocals, maxLocals, Value.category]; done) | rfl
set_option maxRecDepth 65536 in
set_option maxHeartbeats 40000000 in
theorem rmPair_a (l : Launch) (Z : State) (a0 : Array Value) (hw : ∀ d ∈ tables_1, d.before a0 Z = true) (ws : List Jvm.Cond) (a1 : Addr) (a2 : Addr) (h0 : Heap) (n0 : Nat) (Z0 : n0 ≤ h0.size) (G1 : Int32) (O2 : Sta Z Z.heap "java/lang/String" "COMPACT_STRINGS" "Z" (.int G1)) (P5 : ¬ (G1 = (0 : Int32))) (eA : Addr) (SE : Sta Z Z.heap "java/util/Optional" "EMPTY" "Ljava/util/Optional;" (.ref eA)) (XE : Exa Z Z.heap eA "java/util/Optional") (FE : Fld Z Z.heap eA "java/util/Optional" "value" "Ljava/lang/Object;" .null) (rZ : Addr) (SZ : Sta Z Z.heap "com/example/miki_basin/mikibasin/Rational" "ZERO" "Lcom/example/miki_basin/mikibasin/Rational;" (.ref rZ)) (X00 : Old Z n0 h0) (p_Fld_a1_printed : Fld Z h0 a1 "com/example/miki_basin/mikibasin/Copy$Held" "printed" "Ljava/util/Optional;" (.ref a2)) (p_Exa_a2 : Exa Z h0 a2 "java/util/Optional") (p_Fld_a2_value : Fld Z h0 a2 "java/util/Optional" "value" "Ljava/lang/Object;" .null) :
    MetFree l (⟨"com/example/miki_basin/mikibasin/Copy$Held", "pair", "()Ljava/util/Optional;"⟩ : MethodName) (head1 (Jvm.Cond.code (⟨"com/example/miki_basin/mikibasin/Copy$Held", "pair", "()Ljava/util/Optional;"⟩ : MethodName) prog_4_method_2_code 1 (Option.some (Jvm.ClassFile.FieldType.object "java/util/Optional")) :: ws) ({ frames := 1, cells := 0, slots := 0, locals := 12 } : Room)) (fun a U => a = #[(.ref a1)] ∧ Z.Warmed39 U.vm ∧ U.heap = h0) (fun _ _ _ _ _ => True) (fun _ U o U' => ∃ v L, o = .returned v ∧ QrmPair_a Z a1 a2 eA h0 n0 v U'.heap L ∧ FrameEnd U o U' L ({ frames := 1, cells := 0, slots := 0, locals := 12 } : Room).cells ({ frames := 1, cells := 0, slots := 0, locals := 12 } : Room).slots) := by
  refine MetFree.of_bodySF (plainFor_of_name pn_com_example_miki_basin_mikibasin_Copy_Held) hisR ?_
  intro p e s m args below meth c s₁ Bd hml0 hP hK
  obtain ⟨rfl, hZ, hh⟩ := hP
  have hx := Bd.exec
  have hby := Bd.bytes
  have hml : c.maxLocals = 1 := hml0
  have hown : s.vm.findClass "com/example/miki_basin/mikibasin/Copy$Held" = some m.cls := findClass_of_methodNamed Bd.named
  have hnm := (name_of_methodNamed Bd.named Bd.method).1
  have hlk : meth.locks = false := BodyLoose.notSynchronized Bd
  have X0 : Stand p l e ({ frames := 1, cells := 0, slots := 0, locals := 12 } : Room) s m #[(.ref a1)] below meth c s₁ [] 0 0 := Stand.of_body Bd
  have e0 : s₁.heap = h0 := by rw [← hh, Bd.state]; rfl
  have N0 := Fr.nil n0
  show Ends p.tables e below (fun o U' => ∃ v L, o = .returned v ∧ QrmPair_a Z a1 a2 eA h0 n0 v U'.heap L ∧ FrameEnd s o U' L ({ frames := 1, cells := 0, slots := 0, locals := 12 } : Room).cells ({ frames := 1, cells := 0, slots := 0, locals := 12 } : Room).slots) (s₁.setTop (entryFrame m #[(.ref a1)] 1))
  refine Ends.step (fun t k => castTop (ef_rmPair_a m a1 ) k) ?_
  show Ends _ _ _ _ (s₁.setTop (mkF m 0 #[.val (.ref a1)] []))
  refine Ends.step (fun t k => XS.aloadN X0.here hx rfl (hb hby d_prog_4_method_2_code_0) rfl rfl k) ?_
  show Ends _ _ _ _ (s₁.setTop (mkF m 1 #[.val (.ref a1)] [(.ref a1)]))
  obtain ⟨T1, X1, e1, st1⟩ := getF X0 hx hZ hown (host := "") (Or.inl (hw _ (List.mem_of_getElem? (i := 81) rfl))) Via.refl e0 p_Fld_a1_printed (g := (mkF m 1 #[.val (.ref a1)] [(.ref a1)])) rfl rfl (hb hby d_prog_4_method_2_code_1)
  refine Ends.step st1 ?_
  show Ends _ _ _ _ (T1.setTop (mkF m 4 #[.val (.ref a1)] [(.ref a2)]))
  obtain ⟨cq2, kq2, q2a, q2b, q2c⟩ := isOf hZ e1 p_Exa_a2
  obtain ⟨_, _, ⟨T2, L2, k2, n2⟩, -, X2, ⟨Lc2, hQ2, l2, y2, z2⟩, st2⟩ := X1.virtualBack hx (y := (⟨"java/util/Optional", "isEmpty", "()Z"⟩ : MethodName)) (z := (⟨"java/util/Optional", "isEmpty", "()Z"⟩ : MethodName)) hown (mvT hZ (hw _ (List.mem_of_getElem? (i := 92) rfl))) (mvT hZ (hw _ (List.mem_of_getElem? (i := 93) rfl))) (notFace_of_selects (args := #[]) (mvT hZ (hw _ (List.mem_of_getElem? (i := 95) rfl)))) (mvT hZ (hw _ (List.mem_of_getElem? (i := 95) rfl))) (mvT hZ (hw _ (List.mem_of_getElem? (i := 94) rfl))) (by decide) (backOf (W := 0) (rmOp_isEmpty_n l Z a0 hw [] a2 h0 n0 Z0 G1 O2 P5 eA SE XE FE rZ SZ X00 p_Fld_a2_value) hZ (hw _ (List.mem_of_getElem? (i := 96) rfl)) (hw _ (List.mem_of_getElem? (i := 48) rfl)) (by decide) (by decide)) q2a q2c (g := (mkF m 4 #[.val (.ref a1)] [(.ref a2)])) rfl (by rw [hml]; rfl) (Steps.refl _) (argsL := []) (rest := []) (lenOf pd_4 rfl) rfl (by show 2 * 0 + _ ≤ _; exact Nat.le_of_eq rfl) (hb hby d_prog_4_method_2_code_4) (fun _ _ => ⟨rfl, e1, (by decide : 0 + 0 ≤ _), (by decide : 0 + 0 ≤ _)⟩)
  dsimp only [Pt.U, Pt.locs, Pt.cells, Pt.slots] at X2 l2 y2 z2 st2 hQ2
  subst l2 y2 z2
  obtain ⟨rfl, Nq2, eh2⟩ := hQ2
  have N2 := Fr.app N0 Nq2
  refine Ends.go st2 ?_
  show Ends _ _ _ _ (T2.setTop (mkF m 7 #[.val (.ref a1)] [(.int (1 : Int32))]))
  refine Ends.step (fun t k => XS.ifYes X2.here hx rfl (pc0 := 7) (pc' := 20) rfl (hb hby d_prog_4_method_2_code_7) rfl ((if0 _ _).trans (feq (by decide : ¬ ((1 : Int32) = (0 : Int32)))).2) (by decide) (by decide) k) ?_
  show Ends _ _ _ _ (T2.setTop (mkF m 20 #[.val (.ref a1)] []))
  obtain ⟨_, _, ⟨T3, L3, k3, n3⟩, -, X3, ⟨Lc3, hQ3, l3, y3, z3⟩, st3⟩ := Jvm.LawKit.callS X2 hx (y := (⟨"java/util/Optional", "empty", "()Ljava/util/Optional;"⟩ : MethodName)) hown (mvT hZ (hw _ (List.mem_of_getElem? (i := 97) rfl))) (mvT hZ (hw _ (List.mem_of_getElem? (i := 47) rfl))) (mvT hZ (hw _ (List.mem_of_getElem? (i := 48) rfl))) (mvT hZ (hw _ (List.mem_of_getElem? (i := 49) rfl))) (by decide) (backOf (W := 0) (rmOpE l Z a0 hw []  h0 n0 Z0 G1 O2 P5 eA SE XE FE rZ SZ X00 ) hZ (hw _ (List.mem_of_getElem? (i := 49) rfl)) (hw _ (List.mem_of_getElem? (i := 48) rfl)) (by decide) (by decide)) (g := (mkF m 20 #[.val (.ref a1)] [])) rfl (by rw [hml]; rfl) (argsL := []) (rest := []) (lenOf pd_5 rfl) rfl (by show 2 * 0 + _ ≤ _; exact Nat.le_of_eq rfl) (hb hby d_prog_4_method_2_code_20) (fun _ _ => ⟨rfl, eh2, (by decide : 0 + 0 ≤ _), (by decide : 0 + 0 ≤ _)⟩)
  dsimp only [Pt.U, Pt.locs, Pt.cells, Pt.slots] at X3 l3 y3 z3 st3 hQ3
  subst l3 y3 z3
  obtain ⟨rfl, Nq3, eh3⟩ := hQ3
  have N3 := Fr.app N2 Nq3
  refine Ends.step st3 ?_
  show Ends _ _ _ _ (T3.setTop (mkF m 23 #[.val (.ref a1)] [(.ref eA)]))
  exact own_finR X3 hx hlk Bd.returns rfl rfl (hb hby d_prog_4_method_2_code_23) eh3 ⟨rfl, N3, rfl⟩ (by decide) (by decide)
def QrmPair_b (Z : State) (a1 : Addr) (a2 : Addr) (a3 : Addr) (a4 : Addr) (eA : Addr) (h0 : Heap) (n0 : Nat) (v : Option Value) (h : Heap) (L : List Loc) : Prop := v = some (.ref eA) ∧ Fr n0 L ∧ h = h0
theorem ef_rmPair_b (m : MethodId) (a1 : Addr)  : entryFrame m #[(.ref a1)] 1 = mkF m 0 #[.val (.ref a1)] [] := by first | (simp [entryFrame, mkF, argsToLocals, maxLocals, Value.category]; done) | rfl
set_option maxRecDepth 65536 in
set_option maxHeartbeats 40000000 in
theorem rmPair_b (l : Launch) (Z : State) (a0 : Array Value) (hw : ∀ d ∈ tables_1, d.before a0 Z = true) (ws : List Jvm.Cond) (a1 : Addr) (a2 : Addr) (a3 : Addr) (a4 : Addr) (h0 : Heap) (n0 : Nat) (Z0 : n0 ≤ h0.size) (G1 : Int32) (O2 : Sta Z Z.heap "java/lang/String" "COMPACT_STRINGS" "Z" (.int G1)) (P5 : ¬ (G1 = (0 : Int32))) (eA : Addr) (SE : Sta Z Z.heap "java/util/Optional" "EMPTY" "Ljava/util/Optional;" (.ref eA)) (XE : Exa Z Z.heap eA "java/util/Optional") (FE : Fld Z Z.heap eA "java/util/Optional" "value" "Ljava/lang/Object;" .null) (rZ : Addr) (SZ : Sta Z Z.heap "com/example/miki_basin/mikibasin/Rational" "ZERO" "Lcom/example/miki_basin/mikibasin/Rational;" (.ref rZ)) (X00 : Old Z n0 h0) (p_Fld_a1_printed : Fld Z h0 a1 "com/example/miki_basin/mikibasin/Copy$Held" "printed" "Ljava/util/Optional;" (.ref a2)) (p_Fld_a1_value : Fld Z h0 a1 "com/example/miki_basin/mikibasin/Copy$Held" "value" "Ljava/util/Optional;" (.ref a3)) (p_Exa_a2 : Exa Z h0 a2 "java/util/Optional") (p_Fld_a2_value : Fld Z h0 a2 "java/util/Optional" "value" "Ljava/lang/Object;" (.ref a4)) (p_Exa_a3 : Exa Z h0 a3 "java/util/Optional") (p_Fld_a3_value : Fld Z h0 a3 "java/util/Optional" "value" "Ljava/lang/Object;" .null) :
    MetFree l (⟨"com/example/miki_basin/mikibasin/Copy$Held", "pair", "()Ljava/util/Optional;"⟩ : MethodName) (head1 (Jvm.Cond.code (⟨"com/example/miki_basin/mikibasin/Copy$Held", "pair", "()Ljava/util/Optional;"⟩ : MethodName) prog_4_method_2_code 1 (Option.some (Jvm.ClassFile.FieldType.object "java/util/Optional")) :: ws) ({ frames := 1, cells := 0, slots := 0, locals := 12 } : Room)) (fun a U => a = #[(.ref a1)] ∧ Z.Warmed39 U.vm ∧ U.heap = h0) (fun _ _ _ _ _ => True) (fun _ U o U' => ∃ v L, o = .returned v ∧ QrmPair_b Z a1 a2 a3 a4 eA h0 n0 v U'.heap L ∧ FrameEnd U o U' L ({ frames := 1, cells := 0, slots := 0, locals := 12 } : Room).cells ({ frames := 1, cells := 0, slots := 0, locals := 12 } : Room).slots) := by
  refine MetFree.of_bodySF (plainFor_of_name pn_com_example_miki_basin_mikibasin_Copy_Held) hisR ?_
  intro p e s m args below meth c s₁ Bd hml0 hP hK
  obtain ⟨rfl, hZ, hh⟩ := hP
  have hx := Bd.exec
  have hby := Bd.bytes
  have hml : c.maxLocals = 1 := hml0
  have hown : s.vm.findClass "com/example/miki_basin/mikibasin/Copy$Held" = some m.cls := findClass_of_methodNamed Bd.named
  have hnm := (name_of_methodNamed Bd.named Bd.method).1
  have hlk : meth.locks = false := BodyLoose.notSynchronized Bd
  have X0 : Stand p l e ({ frames := 1, cells := 0, slots := 0, locals := 12 } : Room) s m #[(.ref a1)] below meth c s₁ [] 0 0 := Stand.of_body Bd
  have e0 : s₁.heap = h0 := by rw [← hh, Bd.state]; rfl
  have N0 := Fr.nil n0
  show Ends p.tables e below (fun o U' => ∃ v L, o = .returned v ∧ QrmPair_b Z a1 a2 a3 a4 eA h0 n0 v U'.heap L ∧ FrameEnd s o U' L ({ frames := 1, cells := 0, slots := 0, locals := 12 } : Room).cells ({ frames := 1, cells := 0, slots := 0, locals := 12 } : Room).slots) (s₁.setTop (entryFrame m #[(.ref a1)] 1))
  refine Ends.step (fun t k => castTop (ef_rmPair_b m a1 ) k) ?_
  show Ends _ _ _ _ (s₁.setTop (mkF m 0 #[.val (.ref a1)] []))
  refine Ends.step (fun t k => XS.aloadN X0.here hx rfl (hb hby d_prog_4_method_2_code_0) rfl rfl k) ?_
  show Ends _ _ _ _ (s₁.setTop (mkF m 1 #[.val (.ref a1)] [(.ref a1)]))
  obtain ⟨T1, X1, e1, st1⟩ := getF X0 hx hZ hown (host := "") (Or.inl (hw _ (List.mem_of_getElem? (i := 81) rfl))) Via.refl e0 p_Fld_a1_printed (g := (mkF m 1 #[.val (.ref a1)] [(.ref a1)])) rfl rfl (hb hby d_prog_4_method_2_code_1)
  refine Ends.step st1 ?_
  show Ends _ _ _ _ (T1.setTop (mkF m 4 #[.val (.ref a1)] [(.ref a2)]))
  obtain ⟨cq2, kq2, q2a, q2b, q2c⟩ := isOf hZ e1 p_Exa_a2
  obtain ⟨_, _, ⟨T2, L2, k2, n2⟩, -, X2, ⟨Lc2, hQ2, l2, y2, z2⟩, st2⟩ := X1.virtualBack hx (y := (⟨"java/util/Optional", "isEmpty", "()Z"⟩ : MethodName)) (z := (⟨"java/util/Optional", "isEmpty", "()Z"⟩ : MethodName)) hown (mvT hZ (hw _ (List.mem_of_getElem? (i := 92) rfl))) (mvT hZ (hw _ (List.mem_of_getElem? (i := 93) rfl))) (notFace_of_selects (args := #[]) (mvT hZ (hw _ (List.mem_of_getElem? (i := 95) rfl)))) (mvT hZ (hw _ (List.mem_of_getElem? (i := 95) rfl))) (mvT hZ (hw _ (List.mem_of_getElem? (i := 94) rfl))) (by decide) (backOf (W := 0) (rmOp_isEmpty_r l Z a0 hw [] a2 a4 h0 n0 Z0 G1 O2 P5 eA SE XE FE rZ SZ X00 p_Fld_a2_value) hZ (hw _ (List.mem_of_getElem? (i := 96) rfl)) (hw _ (List.mem_of_getElem? (i := 48) rfl)) (by decide) (by decide)) q2a q2c (g := (mkF m 4 #[.val (.ref a1)] [(.ref a2)])) rfl (by rw [hml]; rfl) (Steps.refl _) (argsL := []) (rest := []) (lenOf pd_4 rfl) rfl (by show 2 * 0 + _ ≤ _; exact Nat.le_of_eq rfl) (hb hby d_prog_4_method_2_code_4) (fun _ _ => ⟨rfl, e1, (by decide : 0 + 0 ≤ _), (by decide : 0 + 0 ≤ _)⟩)
  dsimp only [Pt.U, Pt.locs, Pt.cells, Pt.slots] at X2 l2 y2 z2 st2 hQ2
  subst l2 y2 z2
  obtain ⟨rfl, Nq2, eh2⟩ := hQ2
  have N2 := Fr.app N0 Nq2
  refine Ends.go st2 ?_
  show Ends _ _ _ _ (T2.setTop (mkF m 7 #[.val (.ref a1)] [(.int (0 : Int32))]))
  refine Ends.step (fun t k => XS.ifNo X2.here hx rfl (hb hby d_prog_4_method_2_code_7) rfl ((if0 _ _).trans (teq (by decide : ((0 : Int32) = (0 : Int32)))).2) k) ?_
  show Ends _ _ _ _ (T2.setTop (mkF m 10 #[.val (.ref a1)] []))
  refine Ends.step (fun t k => XS.aloadN X2.here hx rfl (hb hby d_prog_4_method_2_code_10) rfl rfl k) ?_
  show Ends _ _ _ _ (T2.setTop (mkF m 11 #[.val (.ref a1)] [(.ref a1)]))
  obtain ⟨T3, X3, e3, st3⟩ := getF X2 hx hZ hown (host := "") (Or.inl (hw _ (List.mem_of_getElem? (i := 85) rfl))) Via.refl eh2 p_Fld_a1_value (g := (mkF m 11 #[.val (.ref a1)] [(.ref a1)])) rfl rfl (hb hby d_prog_4_method_2_code_11)
  refine Ends.step st3 ?_
  show Ends _ _ _ _ (T3.setTop (mkF m 14 #[.val (.ref a1)] [(.ref a3)]))
  obtain ⟨cq4, kq4, q4a, q4b, q4c⟩ := isOf hZ e3 p_Exa_a3
  obtain ⟨_, _, ⟨T4, L4, k4, n4⟩, -, X4, ⟨Lc4, hQ4, l4, y4, z4⟩, st4⟩ := X3.virtualBack hx (y := (⟨"java/util/Optional", "isEmpty", "()Z"⟩ : MethodName)) (z := (⟨"java/util/Optional", "isEmpty", "()Z"⟩ : MethodName)) hown (mvT hZ (hw _ (List.mem_of_getElem? (i := 92) rfl))) (mvT hZ (hw _ (List.mem_of_getElem? (i := 93) rfl))) (notFace_of_selects (args := #[]) (mvT hZ (hw _ (List.mem_of_getElem? (i := 95) rfl)))) (mvT hZ (hw _ (List.mem_of_getElem? (i := 95) rfl))) (mvT hZ (hw _ (List.mem_of_getElem? (i := 94) rfl))) (by decide) (backOf (W := 0) (rmOp_isEmpty_n l Z a0 hw [] a3 h0 n0 Z0 G1 O2 P5 eA SE XE FE rZ SZ X00 p_Fld_a3_value) hZ (hw _ (List.mem_of_getElem? (i := 96) rfl)) (hw _ (List.mem_of_getElem? (i := 48) rfl)) (by decide) (by decide)) q4a q4c (g := (mkF m 14 #[.val (.ref a1)] [(.ref a3)])) rfl (by rw [hml]; rfl) (Steps.refl _) (argsL := []) (rest := []) (lenOf pd_4 rfl) rfl (by show 2 * 0 + _ ≤ _; exact Nat.le_of_eq rfl) (hb hby d_prog_4_method_2_code_14) (fun _ _ => ⟨rfl, e3, (by decide : 0 + 0 ≤ _), (by decide : 0 + 0 ≤ _)⟩)
  dsimp only [Pt.U, Pt.locs, Pt.cells, Pt.slots] at X4 l4 y4 z4 st4 hQ4
  subst l4 y4 z4
  obtain ⟨rfl, Nq4, eh4⟩ := hQ4
  have N4 := Fr.app N2 Nq4
  refine Ends.go st4 ?_
  show Ends _ _ _ _ (T4.setTop (mkF m 17 #[.val (.ref a1)] [(.int (1 : Int32))]))
  refine Ends.step (fun t k => XS.ifNo X4.here hx rfl (hb hby d_prog_4_method_2_code_17) rfl ((if0 _ _).trans (feq (by decide : ¬ ((1 : Int32) = (0 : Int32)))).1) k) ?_
  show Ends _ _ _ _ (T4.setTop (mkF m 20 #[.val (.ref a1)] []))
  obtain ⟨_, _, ⟨T5, L5, k5, n5⟩, -, X5, ⟨Lc5, hQ5, l5, y5, z5⟩, st5⟩ := Jvm.LawKit.callS X4 hx (y := (⟨"java/util/Optional", "empty", "()Ljava/util/Optional;"⟩ : MethodName)) hown (mvT hZ (hw _ (List.mem_of_getElem? (i := 97) rfl))) (mvT hZ (hw _ (List.mem_of_getElem? (i := 47) rfl))) (mvT hZ (hw _ (List.mem_of_getElem? (i := 48) rfl))) (mvT hZ (hw _ (List.mem_of_getElem? (i := 49) rfl))) (by decide) (backOf (W := 0) (rmOpE l Z a0 hw []  h0 n0 Z0 G1 O2 P5 eA SE XE FE rZ SZ X00 ) hZ (hw _ (List.mem_of_getElem? (i := 49) rfl)) (hw _ (List.mem_of_getElem? (i := 48) rfl)) (by decide) (by decide)) (g := (mkF m 20 #[.val (.ref a1)] [])) rfl (by rw [hml]; rfl) (argsL := []) (rest := []) (lenOf pd_5 rfl) rfl (by show 2 * 0 + _ ≤ _; exact Nat.le_of_eq rfl) (hb hby d_prog_4_method_2_code_20) (fun _ _ => ⟨rfl, eh4, (by decide : 0 + 0 ≤ _), (by decide : 0 + 0 ≤ _)⟩)
  dsimp only [Pt.U, Pt.locs, Pt.cells, Pt.slots] at X5 l5 y5 z5 st5 hQ5
  subst l5 y5 z5
  obtain ⟨rfl, Nq5, eh5⟩ := hQ5
  have N5 := Fr.app N4 Nq5
  refine Ends.step st5 ?_
  show Ends _ _ _ _ (T5.setTop (mkF m 23 #[.val (.ref a1)] [(.ref eA)]))
  exact own_finR X5 hx hlk Bd.returns rfl rfl (hb hby d_prog_4_method_2_code_23) eh5 ⟨rfl, N5, rfl⟩ (by decide) (by decide)
def QrmPair_c (Z : State) (a1 : Addr) (a2 : Addr) (a3 : Addr) (a4 : Addr) (a5 : Addr) (a6 : Addr) (a7 : Addr) (h0 : Heap) (n0 : Nat) (v : Option Value) (h : Heap) (L : List Loc) : Prop := ∃ x : Addr, ∃ pr : Addr, ∃ c1 : Addr, ∃ c2 : Addr, v = some (.ref x) ∧ Fr n0 L ∧ Keep h0 h [] ∧ (h0.size ≤ x) ∧ (Exa Z h x "java/util/Optional") ∧ (Fld Z h x "java/util/Optional" "value" "Ljava/lang/Object;" (.ref pr)) ∧ (Exa Z h pr "com/example/miki_basin/mikibasin/Copy$Pair") ∧ (Fld Z h pr "com/example/miki_basin/mikibasin/Copy$Pair" "copy" "Lcom/example/miki_basin/mikibasin/Copy;" (.ref c1)) ∧ (Fld Z h pr "com/example/miki_basin/mikibasin/Copy$Pair" "other" "Lcom/example/miki_basin/mikibasin/Copy;" (.ref c2)) ∧ (Exa Z h c1 "com/example/miki_basin/mikibasin/Copy") ∧ (Fld Z h c1 "com/example/miki_basin/mikibasin/Copy" "name" "Ljava/lang/String;" (.ref a2)) ∧ (Fld Z h c1 "com/example/miki_basin/mikibasin/Copy" "figure" "Lcom/example/miki_basin/mikibasin/Figure;" (.ref a6)) ∧ (Exa Z h c2 "com/example/miki_basin/mikibasin/Copy") ∧ (Fld Z h c2 "com/example/miki_basin/mikibasin/Copy" "name" "Ljava/lang/String;" (.ref a4)) ∧ (Fld Z h c2 "com/example/miki_basin/mikibasin/Copy" "figure" "Lcom/example/miki_basin/mikibasin/Figure;" (.ref a7))
theorem ef_rmPair_c (m : MethodId) (a1 : Addr)  : entryFrame m #[(.ref a1)] 1 = mkF m 0 #[.val (.ref a1)] [] := by first | (simp [entryFrame, mkF, argsToLocals, maxLocals, Value.category]; done) | rfl
set_option maxRecDepth 65536 in
set_option maxHeartbeats 40000000 in
theorem rmPair_c (l : Launch) (Z : State) (a0 : Array Value) (hw : ∀ d ∈ tables_1, d.before a0 Z = true) (ws : List Jvm.Cond) (a1 : Addr) (a2 : Addr) (a3 : Addr) (a4 : Addr) (a5 : Addr) (a6 : Addr) (a7 : Addr) (h0 : Heap) (n0 : Nat) (Z0 : n0 ≤ h0.size) (G1 : Int32) (O2 : Sta Z Z.heap "java/lang/String" "COMPACT_STRINGS" "Z" (.int G1)) (P5 : ¬ (G1 = (0 : Int32))) (eA : Addr) (SE : Sta Z Z.heap "java/util/Optional" "EMPTY" "Ljava/util/Optional;" (.ref eA)) (XE : Exa Z Z.heap eA "java/util/Optional") (FE : Fld Z Z.heap eA "java/util/Optional" "value" "Ljava/lang/Object;" .null) (rZ : Addr) (SZ : Sta Z Z.heap "com/example/miki_basin/mikibasin/Rational" "ZERO" "Lcom/example/miki_basin/mikibasin/Rational;" (.ref rZ)) (X00 : Old Z n0 h0) (p_Fld_a1_name : Fld Z h0 a1 "com/example/miki_basin/mikibasin/Copy$Held" "name" "Ljava/lang/String;" (.ref a2)) (p_Fld_a1_printed : Fld Z h0 a1 "com/example/miki_basin/mikibasin/Copy$Held" "printed" "Ljava/util/Optional;" (.ref a3)) (p_Fld_a1_against : Fld Z h0 a1 "com/example/miki_basin/mikibasin/Copy$Held" "against" "Ljava/lang/String;" (.ref a4)) (p_Fld_a1_value : Fld Z h0 a1 "com/example/miki_basin/mikibasin/Copy$Held" "value" "Ljava/util/Optional;" (.ref a5)) (p_Exa_a3 : Exa Z h0 a3 "java/util/Optional") (p_Fld_a3_value : Fld Z h0 a3 "java/util/Optional" "value" "Ljava/lang/Object;" (.ref a6)) (p_Exa_a5 : Exa Z h0 a5 "java/util/Optional") (p_Fld_a5_value : Fld Z h0 a5 "java/util/Optional" "value" "Ljava/lang/Object;" (.ref a7)) (p_Exa_a6 : Exa Z h0 a6 "com/example/miki_basin/mikibasin/Figure") (p_Exa_a7 : Exa Z h0 a7 "com/example/miki_basin/mikibasin/Figure") :
    MetFree l (⟨"com/example/miki_basin/mikibasin/Copy$Held", "pair", "()Ljava/util/Optional;"⟩ : MethodName) (head1 (Jvm.Cond.code (⟨"com/example/miki_basin/mikibasin/Copy$Held", "pair", "()Ljava/util/Optional;"⟩ : MethodName) prog_4_method_2_code 1 (Option.some (Jvm.ClassFile.FieldType.object "java/util/Optional")) :: ws) ({ frames := 3, cells := 4, slots := 7, locals := 42 } : Room)) (fun a U => a = #[(.ref a1)] ∧ Z.Warmed39 U.vm ∧ U.heap = h0) (fun _ _ _ _ _ => True) (fun _ U o U' => ∃ v L, o = .returned v ∧ QrmPair_c Z a1 a2 a3 a4 a5 a6 a7 h0 n0 v U'.heap L ∧ FrameEnd U o U' L ({ frames := 3, cells := 4, slots := 7, locals := 42 } : Room).cells ({ frames := 3, cells := 4, slots := 7, locals := 42 } : Room).slots) := by
  refine MetFree.of_bodySF (plainFor_of_name pn_com_example_miki_basin_mikibasin_Copy_Held) hisR ?_
  intro p e s m args below meth c s₁ Bd hml0 hP hK
  obtain ⟨rfl, hZ, hh⟩ := hP
  have hx := Bd.exec
  have hby := Bd.bytes
  have hml : c.maxLocals = 1 := hml0
  have hown : s.vm.findClass "com/example/miki_basin/mikibasin/Copy$Held" = some m.cls := findClass_of_methodNamed Bd.named
  have hnm := (name_of_methodNamed Bd.named Bd.method).1
  have hlk : meth.locks = false := BodyLoose.notSynchronized Bd
  have X0 : Stand p l e ({ frames := 3, cells := 4, slots := 7, locals := 42 } : Room) s m #[(.ref a1)] below meth c s₁ [] 0 0 := Stand.of_body Bd
  have e0 : s₁.heap = h0 := by rw [← hh, Bd.state]; rfl
  have N0 := Fr.nil n0
  show Ends p.tables e below (fun o U' => ∃ v L, o = .returned v ∧ QrmPair_c Z a1 a2 a3 a4 a5 a6 a7 h0 n0 v U'.heap L ∧ FrameEnd s o U' L ({ frames := 3, cells := 4, slots := 7, locals := 42 } : Room).cells ({ frames := 3, cells := 4, slots := 7, locals := 42 } : Room).slots) (s₁.setTop (entryFrame m #[(.ref a1)] 1))
  refine Ends.step (fun t k => castTop (ef_rmPair_c m a1 ) k) ?_
  show Ends _ _ _ _ (s₁.setTop (mkF m 0 #[.val (.ref a1)] []))
  refine Ends.step (fun t k => XS.aloadN X0.here hx rfl (hb hby d_prog_4_method_2_code_0) rfl rfl k) ?_
  show Ends _ _ _ _ (s₁.setTop (mkF m 1 #[.val (.ref a1)] [(.ref a1)]))
  obtain ⟨T1, X1, e1, st1⟩ := getF X0 hx hZ hown (host := "") (Or.inl (hw _ (List.mem_of_getElem? (i := 81) rfl))) Via.refl e0 p_Fld_a1_printed (g := (mkF m 1 #[.val (.ref a1)] [(.ref a1)])) rfl rfl (hb hby d_prog_4_method_2_code_1)
  refine Ends.step st1 ?_
  show Ends _ _ _ _ (T1.setTop (mkF m 4 #[.val (.ref a1)] [(.ref a3)]))
  obtain ⟨cq2, kq2, q2a, q2b, q2c⟩ := isOf hZ e1 p_Exa_a3
  obtain ⟨_, _, ⟨T2, L2, k2, n2⟩, -, X2, ⟨Lc2, hQ2, l2, y2, z2⟩, st2⟩ := X1.virtualBack hx (y := (⟨"java/util/Optional", "isEmpty", "()Z"⟩ : MethodName)) (z := (⟨"java/util/Optional", "isEmpty", "()Z"⟩ : MethodName)) hown (mvT hZ (hw _ (List.mem_of_getElem? (i := 92) rfl))) (mvT hZ (hw _ (List.mem_of_getElem? (i := 93) rfl))) (notFace_of_selects (args := #[]) (mvT hZ (hw _ (List.mem_of_getElem? (i := 95) rfl)))) (mvT hZ (hw _ (List.mem_of_getElem? (i := 95) rfl))) (mvT hZ (hw _ (List.mem_of_getElem? (i := 94) rfl))) (by decide) (backOf (W := 0) (rmOp_isEmpty_r l Z a0 hw [] a3 a6 h0 n0 Z0 G1 O2 P5 eA SE XE FE rZ SZ X00 p_Fld_a3_value) hZ (hw _ (List.mem_of_getElem? (i := 96) rfl)) (hw _ (List.mem_of_getElem? (i := 48) rfl)) (by decide) (by decide)) q2a q2c (g := (mkF m 4 #[.val (.ref a1)] [(.ref a3)])) rfl (by rw [hml]; rfl) (Steps.refl _) (argsL := []) (rest := []) (lenOf pd_4 rfl) rfl (by show 2 * 0 + _ ≤ _; exact Nat.le_of_eq rfl) (hb hby d_prog_4_method_2_code_4) (fun _ _ => ⟨rfl, e1, (by decide : 0 + 0 ≤ _), (by decide : 0 + 0 ≤ _)⟩)
  dsimp only [Pt.U, Pt.locs, Pt.cells, Pt.slots] at X2 l2 y2 z2 st2 hQ2
  subst l2 y2 z2
  obtain ⟨rfl, Nq2, eh2⟩ := hQ2
  have N2 := Fr.app N0 Nq2
  refine Ends.go st2 ?_
  show Ends _ _ _ _ (T2.setTop (mkF m 7 #[.val (.ref a1)] [(.int (0 : Int32))]))
  refine Ends.step (fun t k => XS.ifNo X2.here hx rfl (hb hby d_prog_4_method_2_code_7) rfl ((if0 _ _).trans (teq (by decide : ((0 : Int32) = (0 : Int32)))).2) k) ?_
  show Ends _ _ _ _ (T2.setTop (mkF m 10 #[.val (.ref a1)] []))
  refine Ends.step (fun t k => XS.aloadN X2.here hx rfl (hb hby d_prog_4_method_2_code_10) rfl rfl k) ?_
  show Ends _ _ _ _ (T2.setTop (mkF m 11 #[.val (.ref a1)] [(.ref a1)]))
  obtain ⟨T3, X3, e3, st3⟩ := getF X2 hx hZ hown (host := "") (Or.inl (hw _ (List.mem_of_getElem? (i := 85) rfl))) Via.refl eh2 p_Fld_a1_value (g := (mkF m 11 #[.val (.ref a1)] [(.ref a1)])) rfl rfl (hb hby d_prog_4_method_2_code_11)
  refine Ends.step st3 ?_
  show Ends _ _ _ _ (T3.setTop (mkF m 14 #[.val (.ref a1)] [(.ref a5)]))
  obtain ⟨cq4, kq4, q4a, q4b, q4c⟩ := isOf hZ e3 p_Exa_a5
  obtain ⟨_, _, ⟨T4, L4, k4, n4⟩, -, X4, ⟨Lc4, hQ4, l4, y4, z4⟩, st4⟩ := X3.virtualBack hx (y := (⟨"java/util/Optional", "isEmpty", "()Z"⟩ : MethodName)) (z := (⟨"java/util/Optional", "isEmpty", "()Z"⟩ : MethodName)) hown (mvT hZ (hw _ (List.mem_of_getElem? (i := 92) rfl))) (mvT hZ (hw _ (List.mem_of_getElem? (i := 93) rfl))) (notFace_of_selects (args := #[]) (mvT hZ (hw _ (List.mem_of_getElem? (i := 95) rfl)))) (mvT hZ (hw _ (List.mem_of_getElem? (i := 95) rfl))) (mvT hZ (hw _ (List.mem_of_getElem? (i := 94) rfl))) (by decide) (backOf (W := 0) (rmOp_isEmpty_r l Z a0 hw [] a5 a7 h0 n0 Z0 G1 O2 P5 eA SE XE FE rZ SZ X00 p_Fld_a5_value) hZ (hw _ (List.mem_of_getElem? (i := 96) rfl)) (hw _ (List.mem_of_getElem? (i := 48) rfl)) (by decide) (by decide)) q4a q4c (g := (mkF m 14 #[.val (.ref a1)] [(.ref a5)])) rfl (by rw [hml]; rfl) (Steps.refl _) (argsL := []) (rest := []) (lenOf pd_4 rfl) rfl (by show 2 * 0 + _ ≤ _; exact Nat.le_of_eq rfl) (hb hby d_prog_4_method_2_code_14) (fun _ _ => ⟨rfl, e3, (by decide : 0 + 0 ≤ _), (by decide : 0 + 0 ≤ _)⟩)
  dsimp only [Pt.U, Pt.locs, Pt.cells, Pt.slots] at X4 l4 y4 z4 st4 hQ4
  subst l4 y4 z4
  obtain ⟨rfl, Nq4, eh4⟩ := hQ4
  have N4 := Fr.app N2 Nq4
  refine Ends.go st4 ?_
  show Ends _ _ _ _ (T4.setTop (mkF m 17 #[.val (.ref a1)] [(.int (0 : Int32))]))
  refine Ends.step (fun t k => XS.ifYes X4.here hx rfl (pc0 := 17) (pc' := 24) rfl (hb hby d_prog_4_method_2_code_17) rfl ((if0 _ _).trans (teq (by decide : ((0 : Int32) = (0 : Int32)))).1) (by decide) (by decide) k) ?_
  show Ends _ _ _ _ (T4.setTop (mkF m 24 #[.val (.ref a1)] []))
  obtain ⟨T5, h5, X5, e5, E5, A5, D5, -, st5⟩ := newO X4 hx hZ hown (hw _ (List.mem_of_getElem? (i := 103) rfl)) (hw _ (List.mem_of_getElem? (i := 104) rfl)) (hw _ (List.mem_of_getElem? (i := 105) rfl)) eh4 (g := (mkF m 24 #[.val (.ref a1)] [])) rfl (hb hby d_prog_4_method_2_code_24) (by decide) (by decide)
  obtain ⟨b5, g5⟩ : ∃ z, z = h0.size := ⟨_, rfl⟩
  rw [← g5] at A5 D5 st5
  refine Ends.step st5 ?_
  show Ends _ _ _ _ (T5.setTop (mkF m 27 #[.val (.ref a1)] [(.ref b5)]))
  refine Ends.step (fun t k => XS.dup X5.here hx rfl (hb hby d_prog_4_method_2_code_27) rfl rfl k) ?_
  show Ends _ _ _ _ (T5.setTop (mkF m 28 #[.val (.ref a1)] [(.ref b5), (.ref b5)]))
  obtain ⟨T6, h6, X6, e6, E6, A6, D6, -, st6⟩ := newO X5 hx hZ hown (hw _ (List.mem_of_getElem? (i := 106) rfl)) (hw _ (List.mem_of_getElem? (i := 107) rfl)) (hw _ (List.mem_of_getElem? (i := 108) rfl)) e5 (g := (mkF m 28 #[.val (.ref a1)] [(.ref b5), (.ref b5)])) rfl (hb hby d_prog_4_method_2_code_28) (by decide) (by decide)
  obtain ⟨b6, g6⟩ : ∃ z, z = h5.size := ⟨_, rfl⟩
  rw [← g6] at A6 D6 st6
  refine Ends.step st6 ?_
  show Ends _ _ _ _ (T6.setTop (mkF m 31 #[.val (.ref a1)] [(.ref b6), (.ref b5), (.ref b5)]))
  refine Ends.step (fun t k => XS.dup X6.here hx rfl (hb hby d_prog_4_method_2_code_31) rfl rfl k) ?_
  show Ends _ _ _ _ (T6.setTop (mkF m 32 #[.val (.ref a1)] [(.ref b6), (.ref b6), (.ref b5), (.ref b5)]))
  refine Ends.step (fun t k => XS.aloadN X6.here hx rfl (hb hby d_prog_4_method_2_code_32) rfl rfl k) ?_
  show Ends _ _ _ _ (T6.setTop (mkF m 33 #[.val (.ref a1)] [(.ref a1), (.ref b6), (.ref b6), (.ref b5), (.ref b5)]))
  have F7 : Fld Z h6 a1 "com/example/miki_basin/mikibasin/Copy$Held" "name" "Ljava/lang/String;" (.ref a2) := ((p_Fld_a1_name.ext E5).ext E6)
  obtain ⟨T8, X8, e8, st8⟩ := getF X6 hx hZ hown (host := "") (Or.inl (hw _ (List.mem_of_getElem? (i := 79) rfl))) Via.refl e6 F7 (g := (mkF m 33 #[.val (.ref a1)] [(.ref a1), (.ref b6), (.ref b6), (.ref b5), (.ref b5)])) rfl rfl (hb hby d_prog_4_method_2_code_33)
  refine Ends.step st8 ?_
  show Ends _ _ _ _ (T8.setTop (mkF m 36 #[.val (.ref a1)] [(.ref a2), (.ref b6), (.ref b6), (.ref b5), (.ref b5)]))
  refine Ends.step (fun t k => XS.aloadN X8.here hx rfl (hb hby d_prog_4_method_2_code_36) rfl rfl k) ?_
  show Ends _ _ _ _ (T8.setTop (mkF m 37 #[.val (.ref a1)] [(.ref a1), (.ref a2), (.ref b6), (.ref b6), (.ref b5), (.ref b5)]))
  have F9 : Fld Z h6 a1 "com/example/miki_basin/mikibasin/Copy$Held" "printed" "Ljava/util/Optional;" (.ref a3) := ((p_Fld_a1_printed.ext E5).ext E6)
  obtain ⟨T10, X10, e10, st10⟩ := getF X8 hx hZ hown (host := "") (Or.inl (hw _ (List.mem_of_getElem? (i := 81) rfl))) Via.refl e8 F9 (g := (mkF m 37 #[.val (.ref a1)] [(.ref a1), (.ref a2), (.ref b6), (.ref b6), (.ref b5), (.ref b5)])) rfl rfl (hb hby d_prog_4_method_2_code_37)
  refine Ends.step st10 ?_
  show Ends _ _ _ _ (T10.setTop (mkF m 40 #[.val (.ref a1)] [(.ref a3), (.ref a2), (.ref b6), (.ref b6), (.ref b5), (.ref b5)]))
  have F11 : Exa Z h6 a3 "java/util/Optional" := ((p_Exa_a3.ext E5).ext E6)
  have F12 : Fld Z h6 a3 "java/util/Optional" "value" "Ljava/lang/Object;" (.ref a6) := ((p_Fld_a3_value.ext E5).ext E6)
  have F13 : Old Z n0 h6 := ((X00.ext E5).ext E6)
  obtain ⟨cq14, kq14, q14a, q14b, q14c⟩ := isOf hZ e10 F11
  obtain ⟨_, _, ⟨T14, L14, k14, n14⟩, -, X14, ⟨Lc14, hQ14, l14, y14, z14⟩, st14⟩ := X10.virtualBack hx (y := (⟨"java/util/Optional", "get", "()Ljava/lang/Object;"⟩ : MethodName)) (z := (⟨"java/util/Optional", "get", "()Ljava/lang/Object;"⟩ : MethodName)) hown (mvT hZ (hw _ (List.mem_of_getElem? (i := 109) rfl))) (mvT hZ (hw _ (List.mem_of_getElem? (i := 110) rfl))) (notFace_of_selects (args := #[]) (mvT hZ (hw _ (List.mem_of_getElem? (i := 112) rfl)))) (mvT hZ (hw _ (List.mem_of_getElem? (i := 112) rfl))) (mvT hZ (hw _ (List.mem_of_getElem? (i := 111) rfl))) (by decide) (backOf (W := 5) (rmOpGet l Z a0 hw [] a3 a6 h6 n0 (Nat.le_trans Z0 (Nat.le_trans E5.1 E6.1)) G1 O2 P5 eA SE XE FE rZ SZ F13 F12) hZ (hw _ (List.mem_of_getElem? (i := 113) rfl)) (hw _ (List.mem_of_getElem? (i := 48) rfl)) (by decide) (by decide)) q14a q14c (g := (mkF m 40 #[.val (.ref a1)] [(.ref a3), (.ref a2), (.ref b6), (.ref b6), (.ref b5), (.ref b5)])) rfl (by rw [hml]; rfl) (Steps.refl _) (argsL := []) (rest := [(.ref a2), (.ref b6), (.ref b6), (.ref b5), (.ref b5)]) (lenOf pd_6 rfl) rfl (by show 2 * 0 + _ ≤ _; exact Nat.le_of_eq rfl) (hb hby d_prog_4_method_2_code_40) (fun _ _ => ⟨rfl, e10, (by decide : 2 + 0 ≤ _), (by decide : 4 + 0 ≤ _)⟩)
  dsimp only [Pt.U, Pt.locs, Pt.cells, Pt.slots] at X14 l14 y14 z14 st14 hQ14
  subst l14 y14 z14
  obtain ⟨rfl, Nq14, eh14⟩ := hQ14
  have N14 := Fr.app N4 Nq14
  refine Ends.go st14 ?_
  show Ends _ _ _ _ (T14.setTop (mkF m 43 #[.val (.ref a1)] [(.ref a6), (.ref a2), (.ref b6), (.ref b6), (.ref b5), (.ref b5)]))
  have F15 : Exa Z h6 a6 "com/example/miki_basin/mikibasin/Figure" := ((p_Exa_a6.ext E5).ext E6)
  obtain ⟨T16, X16, e16, st16⟩ := castY X14 hx hZ hown (hw _ (List.mem_of_getElem? (i := 114) rfl)) eh14 (Ins.self F15) (g := (mkF m 43 #[.val (.ref a1)] [(.ref a6), (.ref a2), (.ref b6), (.ref b6), (.ref b5), (.ref b5)])) rfl rfl (hb hby d_prog_4_method_2_code_43)
  refine Ends.step st16 ?_
  show Ends _ _ _ _ (T16.setTop (mkF m 46 #[.val (.ref a1)] [(.ref a6), (.ref a2), (.ref b6), (.ref b6), (.ref b5), (.ref b5)]))
  obtain ⟨_, _, ⟨T17, L17, k17, n17⟩, -, X17, ⟨Lc17, hQ17, l17, y17, z17⟩, st17⟩ := X16.specialBack hx (y := (⟨"com/example/miki_basin/mikibasin/Copy", "<init>", "(Ljava/lang/String;Lcom/example/miki_basin/mikibasin/Figure;)V"⟩ : MethodName)) rfl hown (mvT hZ (hw _ (List.mem_of_getElem? (i := 116) rfl))) (mvT hZ (hw _ (List.mem_of_getElem? (i := 117) rfl))) (mvT hZ (hw _ (List.mem_of_getElem? (i := 118) rfl))) (by decide) (backOf (W := 3) (rmCopyI l Z a0 hw [] b6 (.ref a2) (.ref a6) h6 n0 (Nat.le_trans Z0 (Nat.le_trans E5.1 E6.1)) G1 O2 P5 eA SE XE FE rZ SZ F13 rfl rfl A6 (D6 (Or.inr (hw _ (List.mem_of_getElem? (i := 121) rfl))) (ty := (.object "java/lang/String")) (by decide)) (D6 (Or.inr (hw _ (List.mem_of_getElem? (i := 123) rfl))) (ty := (.object "com/example/miki_basin/mikibasin/Figure")) (by decide)) (Nat.le_trans (Nat.le_trans Z0 E5.1) (Nat.le_of_eq g6.symm))) hZ (hw _ (List.mem_of_getElem? (i := 118) rfl)) (hw _ (List.mem_of_getElem? (i := 108) rfl)) (by decide) (by decide)) (g := (mkF m 46 #[.val (.ref a1)] [(.ref a6), (.ref a2), (.ref b6), (.ref b6), (.ref b5), (.ref b5)])) rfl (by rw [hml]; rfl) (Steps.refl _) (a := b6) (argsL := [(.ref a2), (.ref a6)]) (rest := [(.ref b6), (.ref b5), (.ref b5)]) (lenOf pd_7 rfl) rfl (by show 2 * 0 + _ ≤ _; exact Nat.le_of_eq rfl) (hb hby d_prog_4_method_2_code_46) (fun _ _ => ⟨rfl, e16, (by decide : 2 + 0 ≤ _), (by decide : 4 + 0 ≤ _)⟩)
  dsimp only [Pt.U, Pt.locs, Pt.cells, Pt.slots] at X17 l17 y17 z17 st17 hQ17
  subst l17 y17 z17
  obtain ⟨rfl, Nq17, K17, f17_0, f17_1, f17_2⟩ := hQ17
  have N17 := Fr.app N14 Nq17
  refine Ends.go st17 ?_
  show Ends _ _ _ _ (T17.setTop (mkF m 49 #[.val (.ref a1)] [(.ref b6), (.ref b5), (.ref b5)]))
  obtain ⟨T18, h18, X18, e18, E18, A18, D18, -, st18⟩ := newO X17 hx hZ hown (hw _ (List.mem_of_getElem? (i := 106) rfl)) (hw _ (List.mem_of_getElem? (i := 107) rfl)) (hw _ (List.mem_of_getElem? (i := 108) rfl)) rfl (g := (mkF m 49 #[.val (.ref a1)] [(.ref b6), (.ref b5), (.ref b5)])) rfl (hb hby d_prog_4_method_2_code_49) (by decide) (by decide)
  obtain ⟨b18, g18⟩ : ∃ z, z = T17.heap.size := ⟨_, rfl⟩
  rw [← g18] at A18 D18 st18
  refine Ends.step st18 ?_
  show Ends _ _ _ _ (T18.setTop (mkF m 52 #[.val (.ref a1)] [(.ref b18), (.ref b6), (.ref b5), (.ref b5)]))
  refine Ends.step (fun t k => XS.dup X18.here hx rfl (hb hby d_prog_4_method_2_code_52) rfl rfl k) ?_
  show Ends _ _ _ _ (T18.setTop (mkF m 53 #[.val (.ref a1)] [(.ref b18), (.ref b18), (.ref b6), (.ref b5), (.ref b5)]))
  refine Ends.step (fun t k => XS.aloadN X18.here hx rfl (hb hby d_prog_4_method_2_code_53) rfl rfl k) ?_
  show Ends _ _ _ _ (T18.setTop (mkF m 54 #[.val (.ref a1)] [(.ref a1), (.ref b18), (.ref b18), (.ref b6), (.ref b5), (.ref b5)]))
  have F19 : Fld Z h18 a1 "com/example/miki_basin/mikibasin/Copy$Held" "against" "Ljava/lang/String;" (.ref a4) := ((((p_Fld_a1_against.ext E5).ext E6).keep K17 (ninS (Nat.ne_of_lt (Nat.lt_of_lt_of_le (Nat.lt_of_lt_of_le p_Fld_a1_name.lt E5.1) (Nat.le_of_eq g6.symm))) nin0)).ext E18)
  obtain ⟨T20, X20, e20, st20⟩ := getF X18 hx hZ hown (host := "") (Or.inl (hw _ (List.mem_of_getElem? (i := 83) rfl))) Via.refl e18 F19 (g := (mkF m 54 #[.val (.ref a1)] [(.ref a1), (.ref b18), (.ref b18), (.ref b6), (.ref b5), (.ref b5)])) rfl rfl (hb hby d_prog_4_method_2_code_54)
  refine Ends.step st20 ?_
  show Ends _ _ _ _ (T20.setTop (mkF m 57 #[.val (.ref a1)] [(.ref a4), (.ref b18), (.ref b18), (.ref b6), (.ref b5), (.ref b5)]))
  refine Ends.step (fun t k => XS.aloadN X20.here hx rfl (hb hby d_prog_4_method_2_code_57) rfl rfl k) ?_
  show Ends _ _ _ _ (T20.setTop (mkF m 58 #[.val (.ref a1)] [(.ref a1), (.ref a4), (.ref b18), (.ref b18), (.ref b6), (.ref b5), (.ref b5)]))
  have F21 : Fld Z h18 a1 "com/example/miki_basin/mikibasin/Copy$Held" "value" "Ljava/util/Optional;" (.ref a5) := ((((p_Fld_a1_value.ext E5).ext E6).keep K17 (ninS (Nat.ne_of_lt (Nat.lt_of_lt_of_le (Nat.lt_of_lt_of_le p_Fld_a1_name.lt E5.1) (Nat.le_of_eq g6.symm))) nin0)).ext E18)
  obtain ⟨T22, X22, e22, st22⟩ := getF X20 hx hZ hown (host := "") (Or.inl (hw _ (List.mem_of_getElem? (i := 85) rfl))) Via.refl e20 F21 (g := (mkF m 58 #[.val (.ref a1)] [(.ref a1), (.ref a4), (.ref b18), (.ref b18), (.ref b6), (.ref b5), (.ref b5)])) rfl rfl (hb hby d_prog_4_method_2_code_58)
  refine Ends.step st22 ?_
  show Ends _ _ _ _ (T22.setTop (mkF m 61 #[.val (.ref a1)] [(.ref a5), (.ref a4), (.ref b18), (.ref b18), (.ref b6), (.ref b5), (.ref b5)]))
  have F23 : Exa Z h18 a5 "java/util/Optional" := ((((p_Exa_a5.ext E5).ext E6).keep K17).ext E18)
  have F24 : Fld Z h18 a5 "java/util/Optional" "value" "Ljava/lang/Object;" (.ref a7) := ((((p_Fld_a5_value.ext E5).ext E6).keep K17 (ninS (Nat.ne_of_lt (Nat.lt_of_lt_of_le (Nat.lt_of_lt_of_le p_Exa_a5.lt E5.1) (Nat.le_of_eq g6.symm))) nin0)).ext E18)
  have F25 : Old Z n0 h18 := ((F13.keep K17 (allS (Nat.le_trans (Nat.le_trans Z0 E5.1) (Nat.le_of_eq g6.symm)) all0)).ext E18)
  obtain ⟨cq26, kq26, q26a, q26b, q26c⟩ := isOf hZ e22 F23
  obtain ⟨_, _, ⟨T26, L26, k26, n26⟩, -, X26, ⟨Lc26, hQ26, l26, y26, z26⟩, st26⟩ := X22.virtualBack hx (y := (⟨"java/util/Optional", "get", "()Ljava/lang/Object;"⟩ : MethodName)) (z := (⟨"java/util/Optional", "get", "()Ljava/lang/Object;"⟩ : MethodName)) hown (mvT hZ (hw _ (List.mem_of_getElem? (i := 109) rfl))) (mvT hZ (hw _ (List.mem_of_getElem? (i := 110) rfl))) (notFace_of_selects (args := #[]) (mvT hZ (hw _ (List.mem_of_getElem? (i := 112) rfl)))) (mvT hZ (hw _ (List.mem_of_getElem? (i := 112) rfl))) (mvT hZ (hw _ (List.mem_of_getElem? (i := 111) rfl))) (by decide) (backOf (W := 6) (rmOpGet l Z a0 hw [] a5 a7 h18 n0 (Nat.le_trans Z0 (Nat.le_trans (Nat.le_trans (Nat.le_trans E5.1 E6.1) K17.1) E18.1)) G1 O2 P5 eA SE XE FE rZ SZ F25 F24) hZ (hw _ (List.mem_of_getElem? (i := 113) rfl)) (hw _ (List.mem_of_getElem? (i := 48) rfl)) (by decide) (by decide)) q26a q26c (g := (mkF m 61 #[.val (.ref a1)] [(.ref a5), (.ref a4), (.ref b18), (.ref b18), (.ref b6), (.ref b5), (.ref b5)])) rfl (by rw [hml]; rfl) (Steps.refl _) (argsL := []) (rest := [(.ref a4), (.ref b18), (.ref b18), (.ref b6), (.ref b5), (.ref b5)]) (lenOf pd_6 rfl) rfl (by show 2 * 0 + _ ≤ _; exact Nat.le_of_eq rfl) (hb hby d_prog_4_method_2_code_61) (fun _ _ => ⟨rfl, e22, (by decide : 3 + 0 ≤ _), (by decide : 6 + 0 ≤ _)⟩)
  dsimp only [Pt.U, Pt.locs, Pt.cells, Pt.slots] at X26 l26 y26 z26 st26 hQ26
  subst l26 y26 z26
  obtain ⟨rfl, Nq26, eh26⟩ := hQ26
  have N26 := Fr.app N17 Nq26
  refine Ends.go st26 ?_
  show Ends _ _ _ _ (T26.setTop (mkF m 64 #[.val (.ref a1)] [(.ref a7), (.ref a4), (.ref b18), (.ref b18), (.ref b6), (.ref b5), (.ref b5)]))
  have F27 : Exa Z h18 a7 "com/example/miki_basin/mikibasin/Figure" := ((((p_Exa_a7.ext E5).ext E6).keep K17).ext E18)
  obtain ⟨T28, X28, e28, st28⟩ := castY X26 hx hZ hown (hw _ (List.mem_of_getElem? (i := 114) rfl)) eh26 (Ins.self F27) (g := (mkF m 64 #[.val (.ref a1)] [(.ref a7), (.ref a4), (.ref b18), (.ref b18), (.ref b6), (.ref b5), (.ref b5)])) rfl rfl (hb hby d_prog_4_method_2_code_64)
  refine Ends.step st28 ?_
  show Ends _ _ _ _ (T28.setTop (mkF m 67 #[.val (.ref a1)] [(.ref a7), (.ref a4), (.ref b18), (.ref b18), (.ref b6), (.ref b5), (.ref b5)]))
  obtain ⟨_, _, ⟨T29, L29, k29, n29⟩, -, X29, ⟨Lc29, hQ29, l29, y29, z29⟩, st29⟩ := X28.specialBack hx (y := (⟨"com/example/miki_basin/mikibasin/Copy", "<init>", "(Ljava/lang/String;Lcom/example/miki_basin/mikibasin/Figure;)V"⟩ : MethodName)) rfl hown (mvT hZ (hw _ (List.mem_of_getElem? (i := 116) rfl))) (mvT hZ (hw _ (List.mem_of_getElem? (i := 117) rfl))) (mvT hZ (hw _ (List.mem_of_getElem? (i := 118) rfl))) (by decide) (backOf (W := 4) (rmCopyI l Z a0 hw [] b18 (.ref a4) (.ref a7) h18 n0 (Nat.le_trans Z0 (Nat.le_trans (Nat.le_trans (Nat.le_trans E5.1 E6.1) K17.1) E18.1)) G1 O2 P5 eA SE XE FE rZ SZ F25 rfl rfl A18 (D18 (Or.inr (hw _ (List.mem_of_getElem? (i := 121) rfl))) (ty := (.object "java/lang/String")) (by decide)) (D18 (Or.inr (hw _ (List.mem_of_getElem? (i := 123) rfl))) (ty := (.object "com/example/miki_basin/mikibasin/Figure")) (by decide)) (Nat.le_trans (Nat.le_trans Z0 (Nat.le_trans (Nat.le_trans E5.1 E6.1) K17.1)) (Nat.le_of_eq g18.symm))) hZ (hw _ (List.mem_of_getElem? (i := 118) rfl)) (hw _ (List.mem_of_getElem? (i := 108) rfl)) (by decide) (by decide)) (g := (mkF m 67 #[.val (.ref a1)] [(.ref a7), (.ref a4), (.ref b18), (.ref b18), (.ref b6), (.ref b5), (.ref b5)])) rfl (by rw [hml]; rfl) (Steps.refl _) (a := b18) (argsL := [(.ref a4), (.ref a7)]) (rest := [(.ref b18), (.ref b6), (.ref b5), (.ref b5)]) (lenOf pd_7 rfl) rfl (by show 2 * 0 + _ ≤ _; exact Nat.le_of_eq rfl) (hb hby d_prog_4_method_2_code_67) (fun _ _ => ⟨rfl, e28, (by decide : 3 + 0 ≤ _), (by decide : 6 + 0 ≤ _)⟩)
  dsimp only [Pt.U, Pt.locs, Pt.cells, Pt.slots] at X29 l29 y29 z29 st29 hQ29
  subst l29 y29 z29
  obtain ⟨rfl, Nq29, K29, f29_0, f29_1, f29_2⟩ := hQ29
  have N29 := Fr.app N26 Nq29
  refine Ends.go st29 ?_
  show Ends _ _ _ _ (T29.setTop (mkF m 70 #[.val (.ref a1)] [(.ref b18), (.ref b6), (.ref b5), (.ref b5)]))
  have F30 : Exa Z T29.heap b5 "com/example/miki_basin/mikibasin/Copy$Pair" := ((((A5.ext E6).keep K17).ext E18).keep K29)
  have F31 : Fld Z T29.heap b5 "com/example/miki_basin/mikibasin/Copy$Pair" "copy" "Lcom/example/miki_basin/mikibasin/Copy;" .null := (((((D5 (Or.inr (hw _ (List.mem_of_getElem? (i := 129) rfl))) (ty := (.object "com/example/miki_basin/mikibasin/Copy")) (by decide)).ext E6).keep K17 (ninS (Nat.ne_of_lt (Nat.lt_of_lt_of_le A5.lt (Nat.le_of_eq g6.symm))) nin0)).ext E18).keep K29 (ninS (Nat.ne_of_lt (Nat.lt_of_lt_of_le (Nat.lt_of_lt_of_le A5.lt (Nat.le_trans E6.1 K17.1)) (Nat.le_of_eq g18.symm))) nin0))
  have F32 : Fld Z T29.heap b5 "com/example/miki_basin/mikibasin/Copy$Pair" "other" "Lcom/example/miki_basin/mikibasin/Copy;" .null := (((((D5 (Or.inr (hw _ (List.mem_of_getElem? (i := 131) rfl))) (ty := (.object "com/example/miki_basin/mikibasin/Copy")) (by decide)).ext E6).keep K17 (ninS (Nat.ne_of_lt (Nat.lt_of_lt_of_le A5.lt (Nat.le_of_eq g6.symm))) nin0)).ext E18).keep K29 (ninS (Nat.ne_of_lt (Nat.lt_of_lt_of_le (Nat.lt_of_lt_of_le A5.lt (Nat.le_trans E6.1 K17.1)) (Nat.le_of_eq g18.symm))) nin0))
  have F33 : Old Z n0 T29.heap := (F25.keep K29 (allS (Nat.le_trans (Nat.le_trans Z0 (Nat.le_trans (Nat.le_trans E5.1 E6.1) K17.1)) (Nat.le_of_eq g18.symm)) all0))
  obtain ⟨_, _, ⟨T34, L34, k34, n34⟩, -, X34, ⟨Lc34, hQ34, l34, y34, z34⟩, st34⟩ := X29.specialBack hx (y := (⟨"com/example/miki_basin/mikibasin/Copy$Pair", "<init>", "(Lcom/example/miki_basin/mikibasin/Copy;Lcom/example/miki_basin/mikibasin/Copy;)V"⟩ : MethodName)) rfl hown (mvT hZ (hw _ (List.mem_of_getElem? (i := 124) rfl))) (mvT hZ (hw _ (List.mem_of_getElem? (i := 125) rfl))) (mvT hZ (hw _ (List.mem_of_getElem? (i := 126) rfl))) (by decide) (backOf (W := 1) (rmPairI l Z a0 hw [] b5 (.ref b6) (.ref b18) T29.heap n0 (Nat.le_trans Z0 (Nat.le_trans (Nat.le_trans (Nat.le_trans (Nat.le_trans E5.1 E6.1) K17.1) E18.1) K29.1)) G1 O2 P5 eA SE XE FE rZ SZ F33 rfl rfl F30 F31 F32 (Nat.le_trans (Nat.le_trans Z0 (Nat.le_refl _)) (Nat.le_of_eq g5.symm))) hZ (hw _ (List.mem_of_getElem? (i := 126) rfl)) (hw _ (List.mem_of_getElem? (i := 105) rfl)) (by decide) (by decide)) (g := (mkF m 70 #[.val (.ref a1)] [(.ref b18), (.ref b6), (.ref b5), (.ref b5)])) rfl (by rw [hml]; rfl) (Steps.refl _) (a := b5) (argsL := [(.ref b6), (.ref b18)]) (rest := [(.ref b5)]) (lenOf pd_8 rfl) rfl (by show 2 * 0 + _ ≤ _; exact Nat.le_of_eq rfl) (hb hby d_prog_4_method_2_code_70) (fun _ _ => ⟨rfl, rfl, (by decide : 3 + 0 ≤ _), (by decide : 6 + 0 ≤ _)⟩)
  dsimp only [Pt.U, Pt.locs, Pt.cells, Pt.slots] at X34 l34 y34 z34 st34 hQ34
  subst l34 y34 z34
  obtain ⟨rfl, Nq34, K34, f34_0, f34_1, f34_2⟩ := hQ34
  have N34 := Fr.app N29 Nq34
  refine Ends.go st34 ?_
  have K35 : Keep h0 T34.heap [] := (((((((Keep.refl h0 []).ext E5).ext E6).trans K17 (allS (Or.inr (Nat.le_trans E5.1 (Nat.le_of_eq g6.symm))) all0)).ext E18).trans K29 (allS (Or.inr (Nat.le_trans (Nat.le_trans (Nat.le_trans E5.1 E6.1) K17.1) (Nat.le_of_eq g18.symm))) all0)).trans K34 (allS (Or.inr (Nat.le_trans (Nat.le_refl _) (Nat.le_of_eq g5.symm))) all0))
  show Ends _ _ _ _ (T34.setTop (mkF m 73 #[.val (.ref a1)] [(.ref b5)]))
  have F36 : Old Z n0 T34.heap := (F33.keep K34 (allS (Nat.le_trans (Nat.le_trans Z0 (Nat.le_refl _)) (Nat.le_of_eq g5.symm)) all0))
  obtain ⟨_, _, ⟨T37, L37, k37, n37⟩, -, X37, ⟨Lc37, hQ37, l37, y37, z37⟩, st37⟩ := Jvm.LawKit.callS X34 hx (y := (⟨"java/util/Optional", "of", "(Ljava/lang/Object;)Ljava/util/Optional;"⟩ : MethodName)) hown (mvT hZ (hw _ (List.mem_of_getElem? (i := 132) rfl))) (mvT hZ (hw _ (List.mem_of_getElem? (i := 52) rfl))) (mvT hZ (hw _ (List.mem_of_getElem? (i := 48) rfl))) (mvT hZ (hw _ (List.mem_of_getElem? (i := 53) rfl))) (by decide) (backOf (W := 0) (rmOpOf l Z a0 hw [] b5 T34.heap n0 (Nat.le_trans Z0 K35.1) G1 O2 P5 eA SE XE FE rZ SZ F36 ) hZ (hw _ (List.mem_of_getElem? (i := 53) rfl)) (hw _ (List.mem_of_getElem? (i := 48) rfl)) (by decide) (by decide)) (g := (mkF m 73 #[.val (.ref a1)] [(.ref b5)])) rfl (by rw [hml]; rfl) (argsL := [(.ref b5)]) (rest := []) (lenOf pd_9 rfl) rfl (by show 2 * 0 + _ ≤ _; exact Nat.le_of_eq rfl) (hb hby d_prog_4_method_2_code_73) (fun _ _ => ⟨rfl, rfl, (by decide : 3 + 1 ≤ _), (by decide : 6 + 1 ≤ _)⟩)
  dsimp only [Pt.U, Pt.locs, Pt.cells, Pt.slots] at X37 l37 y37 z37 st37 hQ37
  subst l37 y37 z37
  obtain ⟨x_37, rfl, Nq37, K37, f37_0, f37_1, f37_2⟩ := hQ37
  have N37 := Fr.app N34 Nq37
  refine Ends.step st37 ?_
  show Ends _ _ _ _ (T37.setTop (mkF m 76 #[.val (.ref a1)] [(.ref x_37)]))
  have F38 : Exa Z T37.heap b5 "com/example/miki_basin/mikibasin/Copy$Pair" := (f34_0.keep K37)
  have F39 : Fld Z T37.heap b5 "com/example/miki_basin/mikibasin/Copy$Pair" "copy" "Lcom/example/miki_basin/mikibasin/Copy;" (.ref b6) := (f34_1.keep K37 nin0)
  have F40 : Fld Z T37.heap b5 "com/example/miki_basin/mikibasin/Copy$Pair" "other" "Lcom/example/miki_basin/mikibasin/Copy;" (.ref b18) := (f34_2.keep K37 nin0)
  have F41 : Exa Z T37.heap b6 "com/example/miki_basin/mikibasin/Copy" := ((((f17_0.ext E18).keep K29).keep K34).keep K37)
  have F42 : Fld Z T37.heap b6 "com/example/miki_basin/mikibasin/Copy" "name" "Ljava/lang/String;" (.ref a2) := ((((f17_1.ext E18).keep K29 (ninS (Nat.ne_of_lt (Nat.lt_of_lt_of_le (Nat.lt_of_lt_of_le A6.lt K17.1) (Nat.le_of_eq g18.symm))) nin0)).keep K34 (ninS (Ne.symm (Nat.ne_of_lt (Nat.lt_of_lt_of_le A5.lt (Nat.le_of_eq g6.symm)))) nin0)).keep K37 nin0)
  have F43 : Fld Z T37.heap b6 "com/example/miki_basin/mikibasin/Copy" "figure" "Lcom/example/miki_basin/mikibasin/Figure;" (.ref a6) := ((((f17_2.ext E18).keep K29 (ninS (Nat.ne_of_lt (Nat.lt_of_lt_of_le (Nat.lt_of_lt_of_le A6.lt K17.1) (Nat.le_of_eq g18.symm))) nin0)).keep K34 (ninS (Ne.symm (Nat.ne_of_lt (Nat.lt_of_lt_of_le A5.lt (Nat.le_of_eq g6.symm)))) nin0)).keep K37 nin0)
  have F44 : Exa Z T37.heap b18 "com/example/miki_basin/mikibasin/Copy" := ((f29_0.keep K34).keep K37)
  have F45 : Fld Z T37.heap b18 "com/example/miki_basin/mikibasin/Copy" "name" "Ljava/lang/String;" (.ref a4) := ((f29_1.keep K34 (ninS (Ne.symm (Nat.ne_of_lt (Nat.lt_of_lt_of_le (Nat.lt_of_lt_of_le A5.lt (Nat.le_trans E6.1 K17.1)) (Nat.le_of_eq g18.symm)))) nin0)).keep K37 nin0)
  have F46 : Fld Z T37.heap b18 "com/example/miki_basin/mikibasin/Copy" "figure" "Lcom/example/miki_basin/mikibasin/Figure;" (.ref a7) := ((f29_2.keep K34 (ninS (Ne.symm (Nat.ne_of_lt (Nat.lt_of_lt_of_le (Nat.lt_of_lt_of_le A5.lt (Nat.le_trans E6.1 K17.1)) (Nat.le_of_eq g18.symm)))) nin0)).keep K37 nin0)
  exact own_finR X37 hx hlk Bd.returns rfl rfl (hb hby d_prog_4_method_2_code_76) rfl ⟨x_37, b5, b6, b18, rfl, N37, (((Keep.refl h0 []).trans K35 all0).trans K37 all0), (Nat.le_trans K35.1 f37_0), f37_1, f37_2, F38, F39, F40, F41, F42, F43, F44, F45, F46⟩ (by decide) (by decide)
def Qrm0 (Z : State) (p1 : Int32) (p2 : Int32) (p3 : Int32) (h0 : Heap) (n0 : Nat) (v : Option Value) (h : Heap) (L : List Loc) : Prop := v = some (.int (1 : Int32)) ∧ Fr n0 L ∧ Keep h0 h []
theorem ef_rm0 (m : MethodId) (p1 : Int32) (p2 : Int32) (p3 : Int32)  : entryFrame m #[(.int p1), (.int p2), (.int p3)] maxLocals = mkF m 0 #[.val (.int p1), .val (.int p2), .val (.int p3), .unset, .unset, .unset, .unset, .unset, .unset, .unset, .unset, .unset, .unset, .unset, .unset, .unset, .unset, .unset] [] := by first | (simp [entryFrame, mkF, argsToLocals, maxLocals, Value.category]; done) | rfl
set_option maxRecDepth 65536 in
set_option maxHeartbeats 40000000 in
theorem rm0 (l : Launch) (Z : State) (a0 : Array Value) (hw : ∀ d ∈ tables_1, d.before a0 Z = true) (ws : List Jvm.Cond) (p1 : Int32) (p2 : Int32) (p3 : Int32) (h0 : Heap) (n0 : Nat) (Z0 : n0 ≤ h0.size) (G1 : Int32) (O2 : Sta Z Z.heap "java/lang/String" "COMPACT_STRINGS" "Z" (.int G1)) (P5 : ¬ (G1 = (0 : Int32))) (eA : Addr) (SE : Sta Z Z.heap "java/util/Optional" "EMPTY" "Ljava/util/Optional;" (.ref eA)) (XE : Exa Z Z.heap eA "java/util/Optional") (FE : Fld Z Z.heap eA "java/util/Optional" "value" "Ljava/lang/Object;" .null) (rZ : Addr) (SZ : Sta Z Z.heap "com/example/miki_basin/mikibasin/Rational" "ZERO" "Lcom/example/miki_basin/mikibasin/Rational;" (.ref rZ)) (X00 : Old Z n0 h0)  :
    MetFree l x (head1 (Jvm.Cond.code x code maxLocals ret :: ws) room_1) (fun a U => a = #[(.int p1), (.int p2), (.int p3)] ∧ Z.Warmed39 U.vm ∧ U.heap = h0) (fun _ _ _ _ _ => True) (fun _ U o U' => ∃ v L, o = .returned v ∧ Qrm0 Z p1 p2 p3 h0 n0 v U'.heap L ∧ FrameEnd U o U' L 40 192) := by
  refine MetFree.of_bodySF (plainFor_of_name pn_com_example_miki_basin_mikibasin_HeldPairPinLaw) hisR ?_
  intro p e s m args below meth c s₁ Bd hml0 hP hK
  obtain ⟨rfl, hZ, hh⟩ := hP
  have hx := Bd.exec
  have hby := Bd.bytes
  have hml : c.maxLocals = 18 := hml0
  have hown : s.vm.findClass "com/example/miki_basin/mikibasin/HeldPairPinLaw" = some m.cls := findClass_of_methodNamed Bd.named
  have hnm := (name_of_methodNamed Bd.named Bd.method).1
  have hlk : meth.locks = false := BodyLoose.notSynchronized Bd
  have X0 : Stand p l e room_1 s m #[(.int p1), (.int p2), (.int p3)] below meth c s₁ [] 0 0 := Stand.of_body Bd
  have e0 : s₁.heap = h0 := by rw [← hh, Bd.state]; rfl
  have N0 := Fr.nil n0
  show Ends p.tables e below (fun o U' => ∃ v L, o = .returned v ∧ Qrm0 Z p1 p2 p3 h0 n0 v U'.heap L ∧ FrameEnd s o U' L 40 192) (s₁.setTop (entryFrame m #[(.int p1), (.int p2), (.int p3)] maxLocals))
  refine Ends.step (fun t k => castTop (ef_rm0 m p1 p2 p3 ) k) ?_
  show Ends _ _ _ _ (s₁.setTop (mkF m 0 #[.val (.int p1), .val (.int p2), .val (.int p3), .unset, .unset, .unset, .unset, .unset, .unset, .unset, .unset, .unset, .unset, .unset, .unset, .unset, .unset, .unset] []))
  refine Ends.step (fun t k => XS.iconst X0.here hx rfl (hb hby at_0) k) ?_
  show Ends _ _ _ _ (s₁.setTop (mkF m 1 #[.val (.int p1), .val (.int p2), .val (.int p3), .unset, .unset, .unset, .unset, .unset, .unset, .unset, .unset, .unset, .unset, .unset, .unset, .unset, .unset, .unset] [(.int (2 : Int32))]))
  obtain ⟨T1, h1, k1, X1, e1, E1, A1, st1⟩ := newP X0 hx hZ (hw _ (List.mem_of_getElem? (i := 0) rfl)) e0 (g := (mkF m 1 #[.val (.int p1), .val (.int p2), .val (.int p3), .unset, .unset, .unset, .unset, .unset, .unset, .unset, .unset, .unset, .unset, .unset, .unset, .unset, .unset, .unset] [(.int (2 : Int32))])) rfl (hb hby at_1) rfl (by decide : ¬ ((2 : Int32) < (0 : Int32))) (cap := 2) (by decide) (by decide) (by decide) (by decide)
  obtain ⟨b1, g1⟩ : ∃ z, z = h0.size := ⟨_, rfl⟩
  rw [← g1] at A1 st1
  have V1 : Arv Z h1 b1 k1 .char (2 : Int32) [(.int (0 : Int32)), (.int (0 : Int32))] (.int (0 : Int32)) := (Arv.new A1 (by decide : ¬ ((2 : Int32) < (0 : Int32)))).pad (pad_rep [] (.int (0 : Int32)) 2)
  refine Ends.step st1 ?_
  show Ends _ _ _ _ (T1.setTop (mkF m 3 #[.val (.int p1), .val (.int p2), .val (.int p3), .unset, .unset, .unset, .unset, .unset, .unset, .unset, .unset, .unset, .unset, .unset, .unset, .unset, .unset, .unset] [(.ref b1)]))
  refine Ends.step (fun t k => XS.astoreN X1.here hx rfl (hb hby at_3) rfl rfl (l' := #[.val (.int p1), .val (.int p2), .val (.int p3), .val (.ref b1), .unset, .unset, .unset, .unset, .unset, .unset, .unset, .unset, .unset, .unset, .unset, .unset, .unset, .unset]) rfl k) ?_
  show Ends _ _ _ _ (T1.setTop (mkF m 4 #[.val (.int p1), .val (.int p2), .val (.int p3), .val (.ref b1), .unset, .unset, .unset, .unset, .unset, .unset, .unset, .unset, .unset, .unset, .unset, .unset, .unset, .unset] []))
  refine Ends.step (fun t k => XS.aloadN X1.here hx rfl (hb hby at_4) rfl rfl k) ?_
  show Ends _ _ _ _ (T1.setTop (mkF m 5 #[.val (.int p1), .val (.int p2), .val (.int p3), .val (.ref b1), .unset, .unset, .unset, .unset, .unset, .unset, .unset, .unset, .unset, .unset, .unset, .unset, .unset, .unset] [(.ref b1)]))
  refine Ends.step (fun t k => XS.iconst X1.here hx rfl (hb hby at_5) k) ?_
  show Ends _ _ _ _ (T1.setTop (mkF m 6 #[.val (.int p1), .val (.int p2), .val (.int p3), .val (.ref b1), .unset, .unset, .unset, .unset, .unset, .unset, .unset, .unset, .unset, .unset, .unset, .unset, .unset, .unset] [(.int (0 : Int32)), (.ref b1)]))
  refine Ends.step (fun t k => XS.iloadN X1.here hx rfl (hb hby at_6) rfl k) ?_
  show Ends _ _ _ _ (T1.setTop (mkF m 7 #[.val (.int p1), .val (.int p2), .val (.int p3), .val (.ref b1), .unset, .unset, .unset, .unset, .unset, .unset, .unset, .unset, .unset, .unset, .unset, .unset, .unset, .unset] [(.int p1), (.int (0 : Int32)), (.ref b1)]))
  refine Ends.step (fun t k => XS.sipush X1.here hx rfl (hb hby at_7) k) ?_
  show Ends _ _ _ _ (T1.setTop (mkF m 10 #[.val (.int p1), .val (.int p2), .val (.int p3), .val (.ref b1), .unset, .unset, .unset, .unset, .unset, .unset, .unset, .unset, .unset, .unset, .unset, .unset, .unset, .unset] [(.int (255 : Int32)), (.int p1), (.int (0 : Int32)), (.ref b1)]))
  refine Ends.step (fun t k => XS.iand X1.here hx rfl (hb hby at_10) rfl k) ?_
  show Ends _ _ _ _ (T1.setTop (mkF m 11 #[.val (.int p1), .val (.int p2), .val (.int p3), .val (.ref b1), .unset, .unset, .unset, .unset, .unset, .unset, .unset, .unset, .unset, .unset, .unset, .unset, .unset, .unset] [(.int (p1 &&& (255 : Int32))), (.int (0 : Int32)), (.ref b1)]))
  refine Ends.step (fun t k => XS.i2c X1.here hx rfl (hb hby at_11) rfl k) ?_
  show Ends _ _ _ _ (T1.setTop (mkF m 12 #[.val (.int p1), .val (.int p2), .val (.int p3), .val (.ref b1), .unset, .unset, .unset, .unset, .unset, .unset, .unset, .unset, .unset, .unset, .unset, .unset, .unset, .unset] [(.int ((p1 &&& (255 : Int32)).toUInt32.toUInt16.toUInt32.toInt32)), (.int (0 : Int32)), (.ref b1)]))
  obtain ⟨cl2, Ar2, q2, S2, M2, H2, Gx2⟩ := V1
  obtain ⟨T3, h3, X3, e3, W3, st3⟩ := stC X1 hx hZ e1 Ar2 (j := (0 : Int32)) (inb_of S2 ⟨by decide, by decide⟩) (g := (mkF m 12 #[.val (.int p1), .val (.int p2), .val (.int p3), .val (.ref b1), .unset, .unset, .unset, .unset, .unset, .unset, .unset, .unset, .unset, .unset, .unset, .unset, .unset, .unset] [(.int ((p1 &&& (255 : Int32)).toUInt32.toUInt16.toUInt32.toInt32)), (.int (0 : Int32)), (.ref b1)])) rfl rfl (hb hby at_12)
  have N3 := Fr.snoc X3 N0 (Nat.le_trans (Nat.le_trans Z0 (Nat.le_refl _)) (Nat.le_of_eq g1.symm))
  have V3 : Arv Z h3 b1 k1 .char (2 : Int32) [(.int (nar .char ((p1 &&& (255 : Int32)).toUInt32.toUInt16.toUInt32.toInt32))), (.int (0 : Int32))] (.int (0 : Int32)) := Arv.set Ar2 q2 S2 M2 H2 Gx2 (fits_nar_char _) W3 0 rfl (Nat.le_of_ble_eq_true rfl)
  refine Ends.step st3 ?_
  show Ends _ _ _ _ (T3.setTop (mkF m 13 #[.val (.int p1), .val (.int p2), .val (.int p3), .val (.ref b1), .unset, .unset, .unset, .unset, .unset, .unset, .unset, .unset, .unset, .unset, .unset, .unset, .unset, .unset] []))
  refine Ends.step (fun t k => XS.aloadN X3.here hx rfl (hb hby at_13) rfl rfl k) ?_
  show Ends _ _ _ _ (T3.setTop (mkF m 14 #[.val (.int p1), .val (.int p2), .val (.int p3), .val (.ref b1), .unset, .unset, .unset, .unset, .unset, .unset, .unset, .unset, .unset, .unset, .unset, .unset, .unset, .unset] [(.ref b1)]))
  refine Ends.step (fun t k => XS.iconst X3.here hx rfl (hb hby at_14) k) ?_
  show Ends _ _ _ _ (T3.setTop (mkF m 15 #[.val (.int p1), .val (.int p2), .val (.int p3), .val (.ref b1), .unset, .unset, .unset, .unset, .unset, .unset, .unset, .unset, .unset, .unset, .unset, .unset, .unset, .unset] [(.int (1 : Int32)), (.ref b1)]))
  refine Ends.step (fun t k => XS.iloadN X3.here hx rfl (hb hby at_15) rfl k) ?_
  show Ends _ _ _ _ (T3.setTop (mkF m 16 #[.val (.int p1), .val (.int p2), .val (.int p3), .val (.ref b1), .unset, .unset, .unset, .unset, .unset, .unset, .unset, .unset, .unset, .unset, .unset, .unset, .unset, .unset] [(.int p1), (.int (1 : Int32)), (.ref b1)]))
  refine Ends.step (fun t k => XS.bipush X3.here hx rfl (hb hby at_16) k) ?_
  show Ends _ _ _ _ (T3.setTop (mkF m 18 #[.val (.int p1), .val (.int p2), .val (.int p3), .val (.ref b1), .unset, .unset, .unset, .unset, .unset, .unset, .unset, .unset, .unset, .unset, .unset, .unset, .unset, .unset] [(.int (8 : Int32)), (.int p1), (.int (1 : Int32)), (.ref b1)]))
  refine Ends.step (fun t k => XS.iushr X3.here hx rfl (hb hby at_18) rfl k) ?_
  show Ends _ _ _ _ (T3.setTop (mkF m 19 #[.val (.int p1), .val (.int p2), .val (.int p3), .val (.ref b1), .unset, .unset, .unset, .unset, .unset, .unset, .unset, .unset, .unset, .unset, .unset, .unset, .unset, .unset] [(.int ((p1.toUInt32 >>> ((8 : Int32) &&& 31).toUInt32).toInt32)), (.int (1 : Int32)), (.ref b1)]))
  refine Ends.step (fun t k => XS.sipush X3.here hx rfl (hb hby at_19) k) ?_
  show Ends _ _ _ _ (T3.setTop (mkF m 22 #[.val (.int p1), .val (.int p2), .val (.int p3), .val (.ref b1), .unset, .unset, .unset, .unset, .unset, .unset, .unset, .unset, .unset, .unset, .unset, .unset, .unset, .unset] [(.int (255 : Int32)), (.int ((p1.toUInt32 >>> ((8 : Int32) &&& 31).toUInt32).toInt32)), (.int (1 : Int32)), (.ref b1)]))
  refine Ends.step (fun t k => XS.iand X3.here hx rfl (hb hby at_22) rfl k) ?_
  show Ends _ _ _ _ (T3.setTop (mkF m 23 #[.val (.int p1), .val (.int p2), .val (.int p3), .val (.ref b1), .unset, .unset, .unset, .unset, .unset, .unset, .unset, .unset, .unset, .unset, .unset, .unset, .unset, .unset] [(.int (((p1.toUInt32 >>> ((8 : Int32) &&& 31).toUInt32).toInt32) &&& (255 : Int32))), (.int (1 : Int32)), (.ref b1)]))
  refine Ends.step (fun t k => XS.i2c X3.here hx rfl (hb hby at_23) rfl k) ?_
  show Ends _ _ _ _ (T3.setTop (mkF m 24 #[.val (.int p1), .val (.int p2), .val (.int p3), .val (.ref b1), .unset, .unset, .unset, .unset, .unset, .unset, .unset, .unset, .unset, .unset, .unset, .unset, .unset, .unset] [(.int ((((p1.toUInt32 >>> ((8 : Int32) &&& 31).toUInt32).toInt32) &&& (255 : Int32)).toUInt32.toUInt16.toUInt32.toInt32)), (.int (1 : Int32)), (.ref b1)]))
  obtain ⟨cl4, Ar4, q4, S4, M4, H4, Gx4⟩ := V3
  obtain ⟨T5, h5, X5, e5, W5, st5⟩ := stC X3 hx hZ e3 Ar4 (j := (1 : Int32)) (inb_of S4 ⟨by decide, by decide⟩) (g := (mkF m 24 #[.val (.int p1), .val (.int p2), .val (.int p3), .val (.ref b1), .unset, .unset, .unset, .unset, .unset, .unset, .unset, .unset, .unset, .unset, .unset, .unset, .unset, .unset] [(.int ((((p1.toUInt32 >>> ((8 : Int32) &&& 31).toUInt32).toInt32) &&& (255 : Int32)).toUInt32.toUInt16.toUInt32.toInt32)), (.int (1 : Int32)), (.ref b1)])) rfl rfl (hb hby at_24)
  have N5 := Fr.snoc X5 N3 (Nat.le_trans (Nat.le_trans Z0 (Nat.le_refl _)) (Nat.le_of_eq g1.symm))
  have V5 : Arv Z h5 b1 k1 .char (2 : Int32) [(.int (nar .char ((p1 &&& (255 : Int32)).toUInt32.toUInt16.toUInt32.toInt32))), (.int (nar .char ((((p1.toUInt32 >>> ((8 : Int32) &&& 31).toUInt32).toInt32) &&& (255 : Int32)).toUInt32.toUInt16.toUInt32.toInt32)))] (.int (0 : Int32)) := Arv.set Ar4 q4 S4 M4 H4 Gx4 (fits_nar_char _) W5 1 rfl (Nat.le_of_ble_eq_true rfl)
  refine Ends.step st5 ?_
  show Ends _ _ _ _ (T5.setTop (mkF m 25 #[.val (.int p1), .val (.int p2), .val (.int p3), .val (.ref b1), .unset, .unset, .unset, .unset, .unset, .unset, .unset, .unset, .unset, .unset, .unset, .unset, .unset, .unset] []))
  obtain ⟨T6, h6, X6, e6, E6, A6, D6, -, st6⟩ := newO X5 hx hZ hown (hw _ (List.mem_of_getElem? (i := 1) rfl)) (hw _ (List.mem_of_getElem? (i := 2) rfl)) (hw _ (List.mem_of_getElem? (i := 3) rfl)) e5 (g := (mkF m 25 #[.val (.int p1), .val (.int p2), .val (.int p3), .val (.ref b1), .unset, .unset, .unset, .unset, .unset, .unset, .unset, .unset, .unset, .unset, .unset, .unset, .unset, .unset] [])) rfl (hb hby at_25) (by decide) (by decide)
  obtain ⟨b6, g6⟩ : ∃ z, z = h5.size := ⟨_, rfl⟩
  rw [← g6] at A6 D6 st6
  refine Ends.step st6 ?_
  show Ends _ _ _ _ (T6.setTop (mkF m 28 #[.val (.int p1), .val (.int p2), .val (.int p3), .val (.ref b1), .unset, .unset, .unset, .unset, .unset, .unset, .unset, .unset, .unset, .unset, .unset, .unset, .unset, .unset] [(.ref b6)]))
  refine Ends.step (fun t k => XS.dup X6.here hx rfl (hb hby at_28) rfl rfl k) ?_
  show Ends _ _ _ _ (T6.setTop (mkF m 29 #[.val (.int p1), .val (.int p2), .val (.int p3), .val (.ref b1), .unset, .unset, .unset, .unset, .unset, .unset, .unset, .unset, .unset, .unset, .unset, .unset, .unset, .unset] [(.ref b6), (.ref b6)]))
  refine Ends.step (fun t k => XS.aloadN X6.here hx rfl (hb hby at_29) rfl rfl k) ?_
  show Ends _ _ _ _ (T6.setTop (mkF m 30 #[.val (.int p1), .val (.int p2), .val (.int p3), .val (.ref b1), .unset, .unset, .unset, .unset, .unset, .unset, .unset, .unset, .unset, .unset, .unset, .unset, .unset, .unset] [(.ref b1), (.ref b6), (.ref b6)]))
  have F7 : Arv Z h6 b1 k1 .char (2 : Int32) [(.int (nar .char ((p1 &&& (255 : Int32)).toUInt32.toUInt16.toUInt32.toInt32))), (.int (nar .char ((((p1.toUInt32 >>> ((8 : Int32) &&& 31).toUInt32).toInt32) &&& (255 : Int32)).toUInt32.toUInt16.toUInt32.toInt32)))] (.int (0 : Int32)) := (V5.ext E6)
  have F8 : Old Z n0 h6 := ((((X00.ext E1).wr W3 (Nat.le_trans (Nat.le_trans Z0 (Nat.le_refl _)) (Nat.le_of_eq g1.symm))).wr W5 (Nat.le_trans (Nat.le_trans Z0 (Nat.le_refl _)) (Nat.le_of_eq g1.symm))).ext E6)
  have hp9 : ∀ c ∈ ([(nar .char ((p1 &&& (255 : Int32)).toUInt32.toUInt16.toUInt32.toInt32)), (nar .char ((((p1.toUInt32 >>> ((8 : Int32) &&& 31).toUInt32).toInt32) &&& (255 : Int32)).toUInt32.toUInt16.toUInt32.toInt32))] : List Int32), ¬ c < 0 ∧ ¬ (255 : Int32) < c := (List.forall_mem_cons.mpr ⟨(own_and255 _), (List.forall_mem_cons.mpr ⟨(own_and255 _), (fun _ q => nomatch q)⟩)⟩)
  obtain ⟨_, _, ⟨T10, L10, k10, n10⟩, -, X10, ⟨Lc10, hQ10, l10, y10, z10⟩, st10⟩ := X6.specialBack hx (y := (⟨"java/lang/String", "<init>", "([C)V"⟩ : MethodName)) rfl hown (mvT hZ (hw _ (List.mem_of_getElem? (i := 4) rfl))) (mvT hZ (hw _ (List.mem_of_getElem? (i := 5) rfl))) (mvT hZ (hw _ (List.mem_of_getElem? (i := 6) rfl))) (by decide) (StrChars.Road.backV (W := 1) hZ (own_hws hw) (kI := 4) (hw _ (List.mem_of_getElem? (i := 2) rfl)) (cs := ([(nar .char ((p1 &&& (255 : Int32)).toUInt32.toUInt16.toUInt32.toInt32)), (nar .char ((((p1.toUInt32 >>> ((8 : Int32) &&& 31).toUInt32).toInt32) &&& (255 : Int32)).toUInt32.toUInt16.toUInt32.toInt32))] : List Int32)) (bs := ([(nar .char ((p1 &&& (255 : Int32)).toUInt32.toUInt16.toUInt32.toInt32)), (nar .char ((((p1.toUInt32 >>> ((8 : Int32) &&& 31).toUInt32).toInt32) &&& (255 : Int32)).toUInt32.toUInt16.toUInt32.toInt32))] : List Int32).map (fun c => c.toInt8.toInt32)) (n := 2) (Nat.le_trans (Nat.le_trans Z0 (Nat.le_trans (Nat.le_trans E1.1 (Nat.le_of_eq W3.size.symm)) (Nat.le_of_eq W5.size.symm))) (Nat.le_of_eq g6.symm)) (Nat.le_trans Z0 (Nat.le_trans (Nat.le_trans (Nat.le_trans E1.1 (Nat.le_of_eq W3.size.symm)) (Nat.le_of_eq W5.size.symm)) E6.1)) A6 (D6 (Or.inr (hw _ (List.mem_of_getElem? (i := 29) rfl))) (ty := (.array .byte)) (by decide)) (D6 (Or.inr (hw _ (List.mem_of_getElem? (i := 27) rfl))) (ty := .byte) (by decide)) F7 (O2.ext F8.2) P5 rfl rfl (by decide) (by decide) hp9 rfl (by decide) (by decide)) (g := (mkF m 30 #[.val (.int p1), .val (.int p2), .val (.int p3), .val (.ref b1), .unset, .unset, .unset, .unset, .unset, .unset, .unset, .unset, .unset, .unset, .unset, .unset, .unset, .unset] [(.ref b1), (.ref b6), (.ref b6)])) rfl (by rw [hml]; rfl) (Steps.refl _) (a := b6) (argsL := [(.ref b1)]) (rest := [(.ref b6)]) (lenOf pd_10 rfl) rfl (by show 2 * 0 + _ ≤ _; exact Nat.le_of_eq rfl) (hb hby at_30) (fun _ _ => ⟨rfl, e6, (by decide : 2 + 1 ≤ _), (by decide : 6 + 2 ≤ _)⟩)
  dsimp only [Pt.U, Pt.locs, Pt.cells, Pt.slots] at X10 l10 y10 z10 st10 hQ10
  subst l10 y10 z10
  obtain ⟨rfl, Nq10, K10, E10, C10, t10, kb10, u10, ut10, un10, Vv10, Av10⟩ := hQ10
  have N10 := Fr.app N5 Nq10
  refine Ends.go st10 ?_
  have K11 : Keep h0 T10.heap [] := ((((((Keep.refl h0 []).ext E1).wr W3 (Or.inr (Nat.le_trans (Nat.le_refl _) (Nat.le_of_eq g1.symm)))).wr W5 (Or.inr (Nat.le_trans (Nat.le_refl _) (Nat.le_of_eq g1.symm)))).ext E6).trans K10 (allS (Or.inr (Nat.le_trans (Nat.le_trans (Nat.le_trans E1.1 (Nat.le_of_eq W3.size.symm)) (Nat.le_of_eq W5.size.symm)) (Nat.le_of_eq g6.symm))) all0))
  show Ends _ _ _ _ (T10.setTop (mkF m 33 #[.val (.int p1), .val (.int p2), .val (.int p3), .val (.ref b1), .unset, .unset, .unset, .unset, .unset, .unset, .unset, .unset, .unset, .unset, .unset, .unset, .unset, .unset] [(.ref b6)]))
  refine Ends.step (fun t k => XS.astore X10.here hx rfl (hb hby at_33) rfl rfl (l' := #[.val (.int p1), .val (.int p2), .val (.int p3), .val (.ref b1), .val (.ref b6), .unset, .unset, .unset, .unset, .unset, .unset, .unset, .unset, .unset, .unset, .unset, .unset, .unset]) rfl k) ?_
  show Ends _ _ _ _ (T10.setTop (mkF m 35 #[.val (.int p1), .val (.int p2), .val (.int p3), .val (.ref b1), .val (.ref b6), .unset, .unset, .unset, .unset, .unset, .unset, .unset, .unset, .unset, .unset, .unset, .unset, .unset] []))
  refine Ends.step (fun t k => XS.iconst X10.here hx rfl (hb hby at_35) k) ?_
  show Ends _ _ _ _ (T10.setTop (mkF m 36 #[.val (.int p1), .val (.int p2), .val (.int p3), .val (.ref b1), .val (.ref b6), .unset, .unset, .unset, .unset, .unset, .unset, .unset, .unset, .unset, .unset, .unset, .unset, .unset] [(.int (2 : Int32))]))
  obtain ⟨T12, h12, k12, X12, e12, E12, A12, st12⟩ := newP X10 hx hZ (hw _ (List.mem_of_getElem? (i := 0) rfl)) rfl (g := (mkF m 36 #[.val (.int p1), .val (.int p2), .val (.int p3), .val (.ref b1), .val (.ref b6), .unset, .unset, .unset, .unset, .unset, .unset, .unset, .unset, .unset, .unset, .unset, .unset, .unset] [(.int (2 : Int32))])) rfl (hb hby at_36) rfl (by decide : ¬ ((2 : Int32) < (0 : Int32))) (cap := 2) (by decide) (by decide) (by decide) (by decide)
  obtain ⟨b12, g12⟩ : ∃ z, z = T10.heap.size := ⟨_, rfl⟩
  rw [← g12] at A12 st12
  have V12 : Arv Z h12 b12 k12 .char (2 : Int32) [(.int (0 : Int32)), (.int (0 : Int32))] (.int (0 : Int32)) := (Arv.new A12 (by decide : ¬ ((2 : Int32) < (0 : Int32)))).pad (pad_rep [] (.int (0 : Int32)) 2)
  refine Ends.step st12 ?_
  show Ends _ _ _ _ (T12.setTop (mkF m 38 #[.val (.int p1), .val (.int p2), .val (.int p3), .val (.ref b1), .val (.ref b6), .unset, .unset, .unset, .unset, .unset, .unset, .unset, .unset, .unset, .unset, .unset, .unset, .unset] [(.ref b12)]))
  refine Ends.step (fun t k => XS.astore X12.here hx rfl (hb hby at_38) rfl rfl (l' := #[.val (.int p1), .val (.int p2), .val (.int p3), .val (.ref b1), .val (.ref b6), .val (.ref b12), .unset, .unset, .unset, .unset, .unset, .unset, .unset, .unset, .unset, .unset, .unset, .unset]) rfl k) ?_
  show Ends _ _ _ _ (T12.setTop (mkF m 40 #[.val (.int p1), .val (.int p2), .val (.int p3), .val (.ref b1), .val (.ref b6), .val (.ref b12), .unset, .unset, .unset, .unset, .unset, .unset, .unset, .unset, .unset, .unset, .unset, .unset] []))
  refine Ends.step (fun t k => XS.aload X12.here hx rfl (hb hby at_40) rfl rfl k) ?_
  show Ends _ _ _ _ (T12.setTop (mkF m 42 #[.val (.int p1), .val (.int p2), .val (.int p3), .val (.ref b1), .val (.ref b6), .val (.ref b12), .unset, .unset, .unset, .unset, .unset, .unset, .unset, .unset, .unset, .unset, .unset, .unset] [(.ref b12)]))
  refine Ends.step (fun t k => XS.iconst X12.here hx rfl (hb hby at_42) k) ?_
  show Ends _ _ _ _ (T12.setTop (mkF m 43 #[.val (.int p1), .val (.int p2), .val (.int p3), .val (.ref b1), .val (.ref b6), .val (.ref b12), .unset, .unset, .unset, .unset, .unset, .unset, .unset, .unset, .unset, .unset, .unset, .unset] [(.int (0 : Int32)), (.ref b12)]))
  refine Ends.step (fun t k => XS.iloadN X12.here hx rfl (hb hby at_43) rfl k) ?_
  show Ends _ _ _ _ (T12.setTop (mkF m 44 #[.val (.int p1), .val (.int p2), .val (.int p3), .val (.ref b1), .val (.ref b6), .val (.ref b12), .unset, .unset, .unset, .unset, .unset, .unset, .unset, .unset, .unset, .unset, .unset, .unset] [(.int p2), (.int (0 : Int32)), (.ref b12)]))
  refine Ends.step (fun t k => XS.sipush X12.here hx rfl (hb hby at_44) k) ?_
  show Ends _ _ _ _ (T12.setTop (mkF m 47 #[.val (.int p1), .val (.int p2), .val (.int p3), .val (.ref b1), .val (.ref b6), .val (.ref b12), .unset, .unset, .unset, .unset, .unset, .unset, .unset, .unset, .unset, .unset, .unset, .unset] [(.int (255 : Int32)), (.int p2), (.int (0 : Int32)), (.ref b12)]))
  refine Ends.step (fun t k => XS.iand X12.here hx rfl (hb hby at_47) rfl k) ?_
  show Ends _ _ _ _ (T12.setTop (mkF m 48 #[.val (.int p1), .val (.int p2), .val (.int p3), .val (.ref b1), .val (.ref b6), .val (.ref b12), .unset, .unset, .unset, .unset, .unset, .unset, .unset, .unset, .unset, .unset, .unset, .unset] [(.int (p2 &&& (255 : Int32))), (.int (0 : Int32)), (.ref b12)]))
  refine Ends.step (fun t k => XS.i2c X12.here hx rfl (hb hby at_48) rfl k) ?_
  show Ends _ _ _ _ (T12.setTop (mkF m 49 #[.val (.int p1), .val (.int p2), .val (.int p3), .val (.ref b1), .val (.ref b6), .val (.ref b12), .unset, .unset, .unset, .unset, .unset, .unset, .unset, .unset, .unset, .unset, .unset, .unset] [(.int ((p2 &&& (255 : Int32)).toUInt32.toUInt16.toUInt32.toInt32)), (.int (0 : Int32)), (.ref b12)]))
  obtain ⟨cl13, Ar13, q13, S13, M13, H13, Gx13⟩ := V12
  obtain ⟨T14, h14, X14, e14, W14, st14⟩ := stC X12 hx hZ e12 Ar13 (j := (0 : Int32)) (inb_of S13 ⟨by decide, by decide⟩) (g := (mkF m 49 #[.val (.int p1), .val (.int p2), .val (.int p3), .val (.ref b1), .val (.ref b6), .val (.ref b12), .unset, .unset, .unset, .unset, .unset, .unset, .unset, .unset, .unset, .unset, .unset, .unset] [(.int ((p2 &&& (255 : Int32)).toUInt32.toUInt16.toUInt32.toInt32)), (.int (0 : Int32)), (.ref b12)])) rfl rfl (hb hby at_49)
  have N14 := Fr.snoc X14 N10 (Nat.le_trans (Nat.le_trans Z0 K11.1) (Nat.le_of_eq g12.symm))
  have V14 : Arv Z h14 b12 k12 .char (2 : Int32) [(.int (nar .char ((p2 &&& (255 : Int32)).toUInt32.toUInt16.toUInt32.toInt32))), (.int (0 : Int32))] (.int (0 : Int32)) := Arv.set Ar13 q13 S13 M13 H13 Gx13 (fits_nar_char _) W14 0 rfl (Nat.le_of_ble_eq_true rfl)
  refine Ends.step st14 ?_
  show Ends _ _ _ _ (T14.setTop (mkF m 50 #[.val (.int p1), .val (.int p2), .val (.int p3), .val (.ref b1), .val (.ref b6), .val (.ref b12), .unset, .unset, .unset, .unset, .unset, .unset, .unset, .unset, .unset, .unset, .unset, .unset] []))
  refine Ends.step (fun t k => XS.aload X14.here hx rfl (hb hby at_50) rfl rfl k) ?_
  show Ends _ _ _ _ (T14.setTop (mkF m 52 #[.val (.int p1), .val (.int p2), .val (.int p3), .val (.ref b1), .val (.ref b6), .val (.ref b12), .unset, .unset, .unset, .unset, .unset, .unset, .unset, .unset, .unset, .unset, .unset, .unset] [(.ref b12)]))
  refine Ends.step (fun t k => XS.iconst X14.here hx rfl (hb hby at_52) k) ?_
  show Ends _ _ _ _ (T14.setTop (mkF m 53 #[.val (.int p1), .val (.int p2), .val (.int p3), .val (.ref b1), .val (.ref b6), .val (.ref b12), .unset, .unset, .unset, .unset, .unset, .unset, .unset, .unset, .unset, .unset, .unset, .unset] [(.int (1 : Int32)), (.ref b12)]))
  refine Ends.step (fun t k => XS.iloadN X14.here hx rfl (hb hby at_53) rfl k) ?_
  show Ends _ _ _ _ (T14.setTop (mkF m 54 #[.val (.int p1), .val (.int p2), .val (.int p3), .val (.ref b1), .val (.ref b6), .val (.ref b12), .unset, .unset, .unset, .unset, .unset, .unset, .unset, .unset, .unset, .unset, .unset, .unset] [(.int p2), (.int (1 : Int32)), (.ref b12)]))
  refine Ends.step (fun t k => XS.bipush X14.here hx rfl (hb hby at_54) k) ?_
  show Ends _ _ _ _ (T14.setTop (mkF m 56 #[.val (.int p1), .val (.int p2), .val (.int p3), .val (.ref b1), .val (.ref b6), .val (.ref b12), .unset, .unset, .unset, .unset, .unset, .unset, .unset, .unset, .unset, .unset, .unset, .unset] [(.int (8 : Int32)), (.int p2), (.int (1 : Int32)), (.ref b12)]))
  refine Ends.step (fun t k => XS.iushr X14.here hx rfl (hb hby at_56) rfl k) ?_
  show Ends _ _ _ _ (T14.setTop (mkF m 57 #[.val (.int p1), .val (.int p2), .val (.int p3), .val (.ref b1), .val (.ref b6), .val (.ref b12), .unset, .unset, .unset, .unset, .unset, .unset, .unset, .unset, .unset, .unset, .unset, .unset] [(.int ((p2.toUInt32 >>> ((8 : Int32) &&& 31).toUInt32).toInt32)), (.int (1 : Int32)), (.ref b12)]))
  refine Ends.step (fun t k => XS.sipush X14.here hx rfl (hb hby at_57) k) ?_
  show Ends _ _ _ _ (T14.setTop (mkF m 60 #[.val (.int p1), .val (.int p2), .val (.int p3), .val (.ref b1), .val (.ref b6), .val (.ref b12), .unset, .unset, .unset, .unset, .unset, .unset, .unset, .unset, .unset, .unset, .unset, .unset] [(.int (255 : Int32)), (.int ((p2.toUInt32 >>> ((8 : Int32) &&& 31).toUInt32).toInt32)), (.int (1 : Int32)), (.ref b12)]))
  refine Ends.step (fun t k => XS.iand X14.here hx rfl (hb hby at_60) rfl k) ?_
  show Ends _ _ _ _ (T14.setTop (mkF m 61 #[.val (.int p1), .val (.int p2), .val (.int p3), .val (.ref b1), .val (.ref b6), .val (.ref b12), .unset, .unset, .unset, .unset, .unset, .unset, .unset, .unset, .unset, .unset, .unset, .unset] [(.int (((p2.toUInt32 >>> ((8 : Int32) &&& 31).toUInt32).toInt32) &&& (255 : Int32))), (.int (1 : Int32)), (.ref b12)]))
  refine Ends.step (fun t k => XS.i2c X14.here hx rfl (hb hby at_61) rfl k) ?_
  show Ends _ _ _ _ (T14.setTop (mkF m 62 #[.val (.int p1), .val (.int p2), .val (.int p3), .val (.ref b1), .val (.ref b6), .val (.ref b12), .unset, .unset, .unset, .unset, .unset, .unset, .unset, .unset, .unset, .unset, .unset, .unset] [(.int ((((p2.toUInt32 >>> ((8 : Int32) &&& 31).toUInt32).toInt32) &&& (255 : Int32)).toUInt32.toUInt16.toUInt32.toInt32)), (.int (1 : Int32)), (.ref b12)]))
  obtain ⟨cl15, Ar15, q15, S15, M15, H15, Gx15⟩ := V14
  obtain ⟨T16, h16, X16, e16, W16, st16⟩ := stC X14 hx hZ e14 Ar15 (j := (1 : Int32)) (inb_of S15 ⟨by decide, by decide⟩) (g := (mkF m 62 #[.val (.int p1), .val (.int p2), .val (.int p3), .val (.ref b1), .val (.ref b6), .val (.ref b12), .unset, .unset, .unset, .unset, .unset, .unset, .unset, .unset, .unset, .unset, .unset, .unset] [(.int ((((p2.toUInt32 >>> ((8 : Int32) &&& 31).toUInt32).toInt32) &&& (255 : Int32)).toUInt32.toUInt16.toUInt32.toInt32)), (.int (1 : Int32)), (.ref b12)])) rfl rfl (hb hby at_62)
  have N16 := Fr.snoc X16 N14 (Nat.le_trans (Nat.le_trans Z0 K11.1) (Nat.le_of_eq g12.symm))
  have V16 : Arv Z h16 b12 k12 .char (2 : Int32) [(.int (nar .char ((p2 &&& (255 : Int32)).toUInt32.toUInt16.toUInt32.toInt32))), (.int (nar .char ((((p2.toUInt32 >>> ((8 : Int32) &&& 31).toUInt32).toInt32) &&& (255 : Int32)).toUInt32.toUInt16.toUInt32.toInt32)))] (.int (0 : Int32)) := Arv.set Ar15 q15 S15 M15 H15 Gx15 (fits_nar_char _) W16 1 rfl (Nat.le_of_ble_eq_true rfl)
  refine Ends.step st16 ?_
  show Ends _ _ _ _ (T16.setTop (mkF m 63 #[.val (.int p1), .val (.int p2), .val (.int p3), .val (.ref b1), .val (.ref b6), .val (.ref b12), .unset, .unset, .unset, .unset, .unset, .unset, .unset, .unset, .unset, .unset, .unset, .unset] []))
  obtain ⟨T17, h17, X17, e17, E17, A17, D17, -, st17⟩ := newO X16 hx hZ hown (hw _ (List.mem_of_getElem? (i := 1) rfl)) (hw _ (List.mem_of_getElem? (i := 2) rfl)) (hw _ (List.mem_of_getElem? (i := 3) rfl)) e16 (g := (mkF m 63 #[.val (.int p1), .val (.int p2), .val (.int p3), .val (.ref b1), .val (.ref b6), .val (.ref b12), .unset, .unset, .unset, .unset, .unset, .unset, .unset, .unset, .unset, .unset, .unset, .unset] [])) rfl (hb hby at_63) (by decide) (by decide)
  obtain ⟨b17, g17⟩ : ∃ z, z = h16.size := ⟨_, rfl⟩
  rw [← g17] at A17 D17 st17
  refine Ends.step st17 ?_
  show Ends _ _ _ _ (T17.setTop (mkF m 66 #[.val (.int p1), .val (.int p2), .val (.int p3), .val (.ref b1), .val (.ref b6), .val (.ref b12), .unset, .unset, .unset, .unset, .unset, .unset, .unset, .unset, .unset, .unset, .unset, .unset] [(.ref b17)]))
  refine Ends.step (fun t k => XS.dup X17.here hx rfl (hb hby at_66) rfl rfl k) ?_
  show Ends _ _ _ _ (T17.setTop (mkF m 67 #[.val (.int p1), .val (.int p2), .val (.int p3), .val (.ref b1), .val (.ref b6), .val (.ref b12), .unset, .unset, .unset, .unset, .unset, .unset, .unset, .unset, .unset, .unset, .unset, .unset] [(.ref b17), (.ref b17)]))
  refine Ends.step (fun t k => XS.aload X17.here hx rfl (hb hby at_67) rfl rfl k) ?_
  show Ends _ _ _ _ (T17.setTop (mkF m 69 #[.val (.int p1), .val (.int p2), .val (.int p3), .val (.ref b1), .val (.ref b6), .val (.ref b12), .unset, .unset, .unset, .unset, .unset, .unset, .unset, .unset, .unset, .unset, .unset, .unset] [(.ref b12), (.ref b17), (.ref b17)]))
  have F18 : Arv Z h17 b12 k12 .char (2 : Int32) [(.int (nar .char ((p2 &&& (255 : Int32)).toUInt32.toUInt16.toUInt32.toInt32))), (.int (nar .char ((((p2.toUInt32 >>> ((8 : Int32) &&& 31).toUInt32).toInt32) &&& (255 : Int32)).toUInt32.toUInt16.toUInt32.toInt32)))] (.int (0 : Int32)) := (V16.ext E17)
  have F19 : Old Z n0 h17 := (((((F8.keep K10 (allS (Nat.le_trans (Nat.le_trans Z0 (Nat.le_trans (Nat.le_trans E1.1 (Nat.le_of_eq W3.size.symm)) (Nat.le_of_eq W5.size.symm))) (Nat.le_of_eq g6.symm)) all0)).ext E12).wr W14 (Nat.le_trans (Nat.le_trans Z0 K11.1) (Nat.le_of_eq g12.symm))).wr W16 (Nat.le_trans (Nat.le_trans Z0 K11.1) (Nat.le_of_eq g12.symm))).ext E17)
  have hp20 : ∀ c ∈ ([(nar .char ((p2 &&& (255 : Int32)).toUInt32.toUInt16.toUInt32.toInt32)), (nar .char ((((p2.toUInt32 >>> ((8 : Int32) &&& 31).toUInt32).toInt32) &&& (255 : Int32)).toUInt32.toUInt16.toUInt32.toInt32))] : List Int32), ¬ c < 0 ∧ ¬ (255 : Int32) < c := (List.forall_mem_cons.mpr ⟨(own_and255 _), (List.forall_mem_cons.mpr ⟨(own_and255 _), (fun _ q => nomatch q)⟩)⟩)
  obtain ⟨_, _, ⟨T21, L21, k21, n21⟩, -, X21, ⟨Lc21, hQ21, l21, y21, z21⟩, st21⟩ := X17.specialBack hx (y := (⟨"java/lang/String", "<init>", "([C)V"⟩ : MethodName)) rfl hown (mvT hZ (hw _ (List.mem_of_getElem? (i := 4) rfl))) (mvT hZ (hw _ (List.mem_of_getElem? (i := 5) rfl))) (mvT hZ (hw _ (List.mem_of_getElem? (i := 6) rfl))) (by decide) (StrChars.Road.backV (W := 1) hZ (own_hws hw) (kI := 4) (hw _ (List.mem_of_getElem? (i := 2) rfl)) (cs := ([(nar .char ((p2 &&& (255 : Int32)).toUInt32.toUInt16.toUInt32.toInt32)), (nar .char ((((p2.toUInt32 >>> ((8 : Int32) &&& 31).toUInt32).toInt32) &&& (255 : Int32)).toUInt32.toUInt16.toUInt32.toInt32))] : List Int32)) (bs := ([(nar .char ((p2 &&& (255 : Int32)).toUInt32.toUInt16.toUInt32.toInt32)), (nar .char ((((p2.toUInt32 >>> ((8 : Int32) &&& 31).toUInt32).toInt32) &&& (255 : Int32)).toUInt32.toUInt16.toUInt32.toInt32))] : List Int32).map (fun c => c.toInt8.toInt32)) (n := 2) (Nat.le_trans (Nat.le_trans Z0 (Nat.le_trans (Nat.le_trans (Nat.le_trans K11.1 E12.1) (Nat.le_of_eq W14.size.symm)) (Nat.le_of_eq W16.size.symm))) (Nat.le_of_eq g17.symm)) (Nat.le_trans Z0 (Nat.le_trans (Nat.le_trans (Nat.le_trans (Nat.le_trans K11.1 E12.1) (Nat.le_of_eq W14.size.symm)) (Nat.le_of_eq W16.size.symm)) E17.1)) A17 (D17 (Or.inr (hw _ (List.mem_of_getElem? (i := 29) rfl))) (ty := (.array .byte)) (by decide)) (D17 (Or.inr (hw _ (List.mem_of_getElem? (i := 27) rfl))) (ty := .byte) (by decide)) F18 (O2.ext F19.2) P5 rfl rfl (by decide) (by decide) hp20 rfl (by decide) (by decide)) (g := (mkF m 69 #[.val (.int p1), .val (.int p2), .val (.int p3), .val (.ref b1), .val (.ref b6), .val (.ref b12), .unset, .unset, .unset, .unset, .unset, .unset, .unset, .unset, .unset, .unset, .unset, .unset] [(.ref b12), (.ref b17), (.ref b17)])) rfl (by rw [hml]; rfl) (Steps.refl _) (a := b17) (argsL := [(.ref b12)]) (rest := [(.ref b17)]) (lenOf pd_10 rfl) rfl (by show 2 * 0 + _ ≤ _; exact Nat.le_of_eq rfl) (hb hby at_69) (fun _ _ => ⟨rfl, e17, (by decide : 5 + 1 ≤ _), (by decide : 14 + 2 ≤ _)⟩)
  dsimp only [Pt.U, Pt.locs, Pt.cells, Pt.slots] at X21 l21 y21 z21 st21 hQ21
  subst l21 y21 z21
  obtain ⟨rfl, Nq21, K21, E21, C21, t21, kb21, u21, ut21, un21, Vv21, Av21⟩ := hQ21
  have N21 := Fr.app N16 Nq21
  refine Ends.go st21 ?_
  have K22 : Keep T10.heap T21.heap [] := ((((((Keep.refl T10.heap []).ext E12).wr W14 (Or.inr (Nat.le_trans (Nat.le_refl _) (Nat.le_of_eq g12.symm)))).wr W16 (Or.inr (Nat.le_trans (Nat.le_refl _) (Nat.le_of_eq g12.symm)))).ext E17).trans K21 (allS (Or.inr (Nat.le_trans (Nat.le_trans (Nat.le_trans E12.1 (Nat.le_of_eq W14.size.symm)) (Nat.le_of_eq W16.size.symm)) (Nat.le_of_eq g17.symm))) all0))
  show Ends _ _ _ _ (T21.setTop (mkF m 72 #[.val (.int p1), .val (.int p2), .val (.int p3), .val (.ref b1), .val (.ref b6), .val (.ref b12), .unset, .unset, .unset, .unset, .unset, .unset, .unset, .unset, .unset, .unset, .unset, .unset] [(.ref b17)]))
  refine Ends.step (fun t k => XS.astore X21.here hx rfl (hb hby at_72) rfl rfl (l' := #[.val (.int p1), .val (.int p2), .val (.int p3), .val (.ref b1), .val (.ref b6), .val (.ref b12), .val (.ref b17), .unset, .unset, .unset, .unset, .unset, .unset, .unset, .unset, .unset, .unset, .unset]) rfl k) ?_
  show Ends _ _ _ _ (T21.setTop (mkF m 74 #[.val (.int p1), .val (.int p2), .val (.int p3), .val (.ref b1), .val (.ref b6), .val (.ref b12), .val (.ref b17), .unset, .unset, .unset, .unset, .unset, .unset, .unset, .unset, .unset, .unset, .unset] []))
  refine Ends.step (fun t k => XS.iloadN X21.here hx rfl (hb hby at_74) rfl k) ?_
  show Ends _ _ _ _ (T21.setTop (mkF m 75 #[.val (.int p1), .val (.int p2), .val (.int p3), .val (.ref b1), .val (.ref b6), .val (.ref b12), .val (.ref b17), .unset, .unset, .unset, .unset, .unset, .unset, .unset, .unset, .unset, .unset, .unset] [(.int p3)]))
  refine Ends.step (fun t k => XS.iconst X21.here hx rfl (hb hby at_75) k) ?_
  show Ends _ _ _ _ (T21.setTop (mkF m 76 #[.val (.int p1), .val (.int p2), .val (.int p3), .val (.ref b1), .val (.ref b6), .val (.ref b12), .val (.ref b17), .unset, .unset, .unset, .unset, .unset, .unset, .unset, .unset, .unset, .unset, .unset] [(.int (1 : Int32)), (.int p3)]))
  refine Ends.step (fun t k => XS.iand X21.here hx rfl (hb hby at_76) rfl k) ?_
  show Ends _ _ _ _ (T21.setTop (mkF m 77 #[.val (.int p1), .val (.int p2), .val (.int p3), .val (.ref b1), .val (.ref b6), .val (.ref b12), .val (.ref b17), .unset, .unset, .unset, .unset, .unset, .unset, .unset, .unset, .unset, .unset, .unset] [(.int (p3 &&& (1 : Int32)))]))
  by_cases c23 : (p3 &&& (1 : Int32)) = (0 : Int32)
  · refine Ends.step (fun t k => XS.ifYes X21.here hx rfl (pc0 := 77) (pc' := 84) rfl (hb hby at_77) rfl ((if0 _ _).trans (teq c23).1) (by decide) (by decide) k) ?_
    show Ends _ _ _ _ (T21.setTop (mkF m 84 #[.val (.int p1), .val (.int p2), .val (.int p3), .val (.ref b1), .val (.ref b6), .val (.ref b12), .val (.ref b17), .unset, .unset, .unset, .unset, .unset, .unset, .unset, .unset, .unset, .unset, .unset] []))
    refine Ends.step (fun t k => XS.iconst X21.here hx rfl (hb hby at_84) k) ?_
    show Ends _ _ _ _ (T21.setTop (mkF m 85 #[.val (.int p1), .val (.int p2), .val (.int p3), .val (.ref b1), .val (.ref b6), .val (.ref b12), .val (.ref b17), .unset, .unset, .unset, .unset, .unset, .unset, .unset, .unset, .unset, .unset, .unset] [(.int (0 : Int32))]))
    refine Ends.step (fun t k => XS.istore X21.here hx rfl (hb hby at_85) rfl (l' := #[.val (.int p1), .val (.int p2), .val (.int p3), .val (.ref b1), .val (.ref b6), .val (.ref b12), .val (.ref b17), .val (.int (0 : Int32)), .unset, .unset, .unset, .unset, .unset, .unset, .unset, .unset, .unset, .unset]) rfl k) ?_
    show Ends _ _ _ _ (T21.setTop (mkF m 87 #[.val (.int p1), .val (.int p2), .val (.int p3), .val (.ref b1), .val (.ref b6), .val (.ref b12), .val (.ref b17), .val (.int (0 : Int32)), .unset, .unset, .unset, .unset, .unset, .unset, .unset, .unset, .unset, .unset] []))
    refine Ends.step (fun t k => XS.iloadN X21.here hx rfl (hb hby at_87) rfl k) ?_
    show Ends _ _ _ _ (T21.setTop (mkF m 88 #[.val (.int p1), .val (.int p2), .val (.int p3), .val (.ref b1), .val (.ref b6), .val (.ref b12), .val (.ref b17), .val (.int (0 : Int32)), .unset, .unset, .unset, .unset, .unset, .unset, .unset, .unset, .unset, .unset] [(.int p3)]))
    refine Ends.step (fun t k => XS.iconst X21.here hx rfl (hb hby at_88) k) ?_
    show Ends _ _ _ _ (T21.setTop (mkF m 89 #[.val (.int p1), .val (.int p2), .val (.int p3), .val (.ref b1), .val (.ref b6), .val (.ref b12), .val (.ref b17), .val (.int (0 : Int32)), .unset, .unset, .unset, .unset, .unset, .unset, .unset, .unset, .unset, .unset] [(.int (2 : Int32)), (.int p3)]))
    refine Ends.step (fun t k => XS.iand X21.here hx rfl (hb hby at_89) rfl k) ?_
    show Ends _ _ _ _ (T21.setTop (mkF m 90 #[.val (.int p1), .val (.int p2), .val (.int p3), .val (.ref b1), .val (.ref b6), .val (.ref b12), .val (.ref b17), .val (.int (0 : Int32)), .unset, .unset, .unset, .unset, .unset, .unset, .unset, .unset, .unset, .unset] [(.int (p3 &&& (2 : Int32)))]))
    by_cases c24 : (p3 &&& (2 : Int32)) = (0 : Int32)
    · refine Ends.step (fun t k => XS.ifYes X21.here hx rfl (pc0 := 90) (pc' := 97) rfl (hb hby at_90) rfl ((if0 _ _).trans (teq c24).1) (by decide) (by decide) k) ?_
      show Ends _ _ _ _ (T21.setTop (mkF m 97 #[.val (.int p1), .val (.int p2), .val (.int p3), .val (.ref b1), .val (.ref b6), .val (.ref b12), .val (.ref b17), .val (.int (0 : Int32)), .unset, .unset, .unset, .unset, .unset, .unset, .unset, .unset, .unset, .unset] []))
      refine Ends.step (fun t k => XS.iconst X21.here hx rfl (hb hby at_97) k) ?_
      show Ends _ _ _ _ (T21.setTop (mkF m 98 #[.val (.int p1), .val (.int p2), .val (.int p3), .val (.ref b1), .val (.ref b6), .val (.ref b12), .val (.ref b17), .val (.int (0 : Int32)), .unset, .unset, .unset, .unset, .unset, .unset, .unset, .unset, .unset, .unset] [(.int (0 : Int32))]))
      refine Ends.step (fun t k => XS.istore X21.here hx rfl (hb hby at_98) rfl (l' := #[.val (.int p1), .val (.int p2), .val (.int p3), .val (.ref b1), .val (.ref b6), .val (.ref b12), .val (.ref b17), .val (.int (0 : Int32)), .val (.int (0 : Int32)), .unset, .unset, .unset, .unset, .unset, .unset, .unset, .unset, .unset]) rfl k) ?_
      show Ends _ _ _ _ (T21.setTop (mkF m 100 #[.val (.int p1), .val (.int p2), .val (.int p3), .val (.ref b1), .val (.ref b6), .val (.ref b12), .val (.ref b17), .val (.int (0 : Int32)), .val (.int (0 : Int32)), .unset, .unset, .unset, .unset, .unset, .unset, .unset, .unset, .unset] []))
      refine Ends.step (fun t k => XS.iloadN X21.here hx rfl (hb hby at_100) rfl k) ?_
      show Ends _ _ _ _ (T21.setTop (mkF m 101 #[.val (.int p1), .val (.int p2), .val (.int p3), .val (.ref b1), .val (.ref b6), .val (.ref b12), .val (.ref b17), .val (.int (0 : Int32)), .val (.int (0 : Int32)), .unset, .unset, .unset, .unset, .unset, .unset, .unset, .unset, .unset] [(.int p3)]))
      refine Ends.step (fun t k => XS.iconst X21.here hx rfl (hb hby at_101) k) ?_
      show Ends _ _ _ _ (T21.setTop (mkF m 102 #[.val (.int p1), .val (.int p2), .val (.int p3), .val (.ref b1), .val (.ref b6), .val (.ref b12), .val (.ref b17), .val (.int (0 : Int32)), .val (.int (0 : Int32)), .unset, .unset, .unset, .unset, .unset, .unset, .unset, .unset, .unset] [(.int (4 : Int32)), (.int p3)]))
      refine Ends.step (fun t k => XS.iand X21.here hx rfl (hb hby at_102) rfl k) ?_
      show Ends _ _ _ _ (T21.setTop (mkF m 103 #[.val (.int p1), .val (.int p2), .val (.int p3), .val (.ref b1), .val (.ref b6), .val (.ref b12), .val (.ref b17), .val (.int (0 : Int32)), .val (.int (0 : Int32)), .unset, .unset, .unset, .unset, .unset, .unset, .unset, .unset, .unset] [(.int (p3 &&& (4 : Int32)))]))
      have J30 : ∀ (a29 : Addr) (T31 : State) (h31 : Heap) (L31 : List Loc) (X31 : Stand p l e room_1 s m #[(.int p1), (.int p2), (.int p3)] below meth c T31 L31 7 19) (e31 : T31.heap = h31) (N31 : Fr n0 L31) (K31 : Keep T21.heap h31 []) (jf32 : Exa Z h31 a29 "com/example/miki_basin/mikibasin/Figure"), Ends p.tables e below (fun o U' => ∃ v L, o = .returned v ∧ Qrm0 Z p1 p2 p3 h0 n0 v U'.heap L ∧ FrameEnd s o U' L 40 192) (T31.setTop (mkF m 115 #[.val (.int p1), .val (.int p2), .val (.int p3), .val (.ref b1), .val (.ref b6), .val (.ref b12), .val (.ref b17), .val (.int (0 : Int32)), .val (.int (0 : Int32)), .unset, .unset, .unset, .unset, .unset, .unset, .unset, .unset, .unset] [(.ref a29)])) := by
        intro a29 T31 h31 L31 X31 e31 N31 K31 jf32
        show Ends _ _ _ _ (T31.setTop (mkF m 115 #[.val (.int p1), .val (.int p2), .val (.int p3), .val (.ref b1), .val (.ref b6), .val (.ref b12), .val (.ref b17), .val (.int (0 : Int32)), .val (.int (0 : Int32)), .unset, .unset, .unset, .unset, .unset, .unset, .unset, .unset, .unset] [(.ref a29)]))
        refine Ends.step (fun t k => XS.astore X31.here hx rfl (hb hby at_115) rfl rfl (l' := #[.val (.int p1), .val (.int p2), .val (.int p3), .val (.ref b1), .val (.ref b6), .val (.ref b12), .val (.ref b17), .val (.int (0 : Int32)), .val (.int (0 : Int32)), .val (.ref a29), .unset, .unset, .unset, .unset, .unset, .unset, .unset, .unset]) rfl k) ?_
        show Ends _ _ _ _ (T31.setTop (mkF m 117 #[.val (.int p1), .val (.int p2), .val (.int p3), .val (.ref b1), .val (.ref b6), .val (.ref b12), .val (.ref b17), .val (.int (0 : Int32)), .val (.int (0 : Int32)), .val (.ref a29), .unset, .unset, .unset, .unset, .unset, .unset, .unset, .unset] []))
        refine Ends.step (fun t k => XS.iloadN X31.here hx rfl (hb hby at_117) rfl k) ?_
        show Ends _ _ _ _ (T31.setTop (mkF m 118 #[.val (.int p1), .val (.int p2), .val (.int p3), .val (.ref b1), .val (.ref b6), .val (.ref b12), .val (.ref b17), .val (.int (0 : Int32)), .val (.int (0 : Int32)), .val (.ref a29), .unset, .unset, .unset, .unset, .unset, .unset, .unset, .unset] [(.int p3)]))
        refine Ends.step (fun t k => XS.bipush X31.here hx rfl (hb hby at_118) k) ?_
        show Ends _ _ _ _ (T31.setTop (mkF m 120 #[.val (.int p1), .val (.int p2), .val (.int p3), .val (.ref b1), .val (.ref b6), .val (.ref b12), .val (.ref b17), .val (.int (0 : Int32)), .val (.int (0 : Int32)), .val (.ref a29), .unset, .unset, .unset, .unset, .unset, .unset, .unset, .unset] [(.int (8 : Int32)), (.int p3)]))
        refine Ends.step (fun t k => XS.iand X31.here hx rfl (hb hby at_120) rfl k) ?_
        show Ends _ _ _ _ (T31.setTop (mkF m 121 #[.val (.int p1), .val (.int p2), .val (.int p3), .val (.ref b1), .val (.ref b6), .val (.ref b12), .val (.ref b17), .val (.int (0 : Int32)), .val (.int (0 : Int32)), .val (.ref a29), .unset, .unset, .unset, .unset, .unset, .unset, .unset, .unset] [(.int (p3 &&& (8 : Int32)))]))
        have J38 : ∀ (a37 : Addr) (T39 : State) (h39 : Heap) (L39 : List Loc) (X39 : Stand p l e room_1 s m #[(.int p1), (.int p2), (.int p3)] below meth c T39 L39 8 22) (e39 : T39.heap = h39) (N39 : Fr n0 L39) (K39 : Keep h31 h39 []) (jf40 : Exa Z h39 a37 "com/example/miki_basin/mikibasin/Figure"), Ends p.tables e below (fun o U' => ∃ v L, o = .returned v ∧ Qrm0 Z p1 p2 p3 h0 n0 v U'.heap L ∧ FrameEnd s o U' L 40 192) (T39.setTop (mkF m 133 #[.val (.int p1), .val (.int p2), .val (.int p3), .val (.ref b1), .val (.ref b6), .val (.ref b12), .val (.ref b17), .val (.int (0 : Int32)), .val (.int (0 : Int32)), .val (.ref a29), .unset, .unset, .unset, .unset, .unset, .unset, .unset, .unset] [(.ref a37)])) := by
          intro a37 T39 h39 L39 X39 e39 N39 K39 jf40
          show Ends _ _ _ _ (T39.setTop (mkF m 133 #[.val (.int p1), .val (.int p2), .val (.int p3), .val (.ref b1), .val (.ref b6), .val (.ref b12), .val (.ref b17), .val (.int (0 : Int32)), .val (.int (0 : Int32)), .val (.ref a29), .unset, .unset, .unset, .unset, .unset, .unset, .unset, .unset] [(.ref a37)]))
          refine Ends.step (fun t k => XS.astore X39.here hx rfl (hb hby at_133) rfl rfl (l' := #[.val (.int p1), .val (.int p2), .val (.int p3), .val (.ref b1), .val (.ref b6), .val (.ref b12), .val (.ref b17), .val (.int (0 : Int32)), .val (.int (0 : Int32)), .val (.ref a29), .val (.ref a37), .unset, .unset, .unset, .unset, .unset, .unset, .unset]) rfl k) ?_
          show Ends _ _ _ _ (T39.setTop (mkF m 135 #[.val (.int p1), .val (.int p2), .val (.int p3), .val (.ref b1), .val (.ref b6), .val (.ref b12), .val (.ref b17), .val (.int (0 : Int32)), .val (.int (0 : Int32)), .val (.ref a29), .val (.ref a37), .unset, .unset, .unset, .unset, .unset, .unset, .unset] []))
          refine Ends.step (fun t k => XS.iload X39.here hx rfl (hb hby at_135) rfl k) ?_
          show Ends _ _ _ _ (T39.setTop (mkF m 137 #[.val (.int p1), .val (.int p2), .val (.int p3), .val (.ref b1), .val (.ref b6), .val (.ref b12), .val (.ref b17), .val (.int (0 : Int32)), .val (.int (0 : Int32)), .val (.ref a29), .val (.ref a37), .unset, .unset, .unset, .unset, .unset, .unset, .unset] [(.int (0 : Int32))]))
          refine Ends.step (fun t k => XS.ifYes X39.here hx rfl (pc0 := 137) (pc' := 148) rfl (hb hby at_137) rfl ((if0 _ _).trans (teq (by decide : ((0 : Int32) = (0 : Int32)))).1) (by decide) (by decide) k) ?_
          show Ends _ _ _ _ (T39.setTop (mkF m 148 #[.val (.int p1), .val (.int p2), .val (.int p3), .val (.ref b1), .val (.ref b6), .val (.ref b12), .val (.ref b17), .val (.int (0 : Int32)), .val (.int (0 : Int32)), .val (.ref a29), .val (.ref a37), .unset, .unset, .unset, .unset, .unset, .unset, .unset] []))
          have F41 : Old Z n0 h39 := (((F19.keep K21 (allS (Nat.le_trans (Nat.le_trans Z0 (Nat.le_trans (Nat.le_trans (Nat.le_trans K11.1 E12.1) (Nat.le_of_eq W14.size.symm)) (Nat.le_of_eq W16.size.symm))) (Nat.le_of_eq g17.symm)) all0)).keep K31 all0).keep K39 all0)
          obtain ⟨_, _, ⟨T42, L42, k42, n42⟩, -, X42, ⟨Lc42, hQ42, l42, y42, z42⟩, st42⟩ := Jvm.LawKit.callS X39 hx (y := (⟨"java/util/Optional", "empty", "()Ljava/util/Optional;"⟩ : MethodName)) hown (mvT hZ (hw _ (List.mem_of_getElem? (i := 46) rfl))) (mvT hZ (hw _ (List.mem_of_getElem? (i := 47) rfl))) (mvT hZ (hw _ (List.mem_of_getElem? (i := 48) rfl))) (mvT hZ (hw _ (List.mem_of_getElem? (i := 49) rfl))) (by decide) (backOf (W := 0) (rmOpE l Z a0 hw []  h39 n0 (Nat.le_trans Z0 (Nat.le_trans (Nat.le_trans (Nat.le_trans K11.1 K22.1) K31.1) K39.1)) G1 O2 P5 eA SE XE FE rZ SZ F41 ) hZ (hw _ (List.mem_of_getElem? (i := 49) rfl)) (hw _ (List.mem_of_getElem? (i := 48) rfl)) (by decide) (by decide)) (g := (mkF m 148 #[.val (.int p1), .val (.int p2), .val (.int p3), .val (.ref b1), .val (.ref b6), .val (.ref b12), .val (.ref b17), .val (.int (0 : Int32)), .val (.int (0 : Int32)), .val (.ref a29), .val (.ref a37), .unset, .unset, .unset, .unset, .unset, .unset, .unset] [])) rfl (by rw [hml]; rfl) (argsL := []) (rest := []) (lenOf pd_5 rfl) rfl (by show 2 * 0 + _ ≤ _; exact Nat.le_of_eq rfl) (hb hby at_148) (fun _ _ => ⟨rfl, e39, (by decide : 8 + 0 ≤ _), (by decide : 22 + 0 ≤ _)⟩)
          dsimp only [Pt.U, Pt.locs, Pt.cells, Pt.slots] at X42 l42 y42 z42 st42 hQ42
          subst l42 y42 z42
          obtain ⟨rfl, Nq42, eh42⟩ := hQ42
          have N42 := Fr.app N39 Nq42
          refine Ends.step st42 ?_
          show Ends _ _ _ _ (T42.setTop (mkF m 151 #[.val (.int p1), .val (.int p2), .val (.int p3), .val (.ref b1), .val (.ref b6), .val (.ref b12), .val (.ref b17), .val (.int (0 : Int32)), .val (.int (0 : Int32)), .val (.ref a29), .val (.ref a37), .unset, .unset, .unset, .unset, .unset, .unset, .unset] [(.ref eA)]))
          refine Ends.step (fun t k => XS.astore X42.here hx rfl (hb hby at_151) rfl rfl (l' := #[.val (.int p1), .val (.int p2), .val (.int p3), .val (.ref b1), .val (.ref b6), .val (.ref b12), .val (.ref b17), .val (.int (0 : Int32)), .val (.int (0 : Int32)), .val (.ref a29), .val (.ref a37), .val (.ref eA), .unset, .unset, .unset, .unset, .unset, .unset]) rfl k) ?_
          show Ends _ _ _ _ (T42.setTop (mkF m 153 #[.val (.int p1), .val (.int p2), .val (.int p3), .val (.ref b1), .val (.ref b6), .val (.ref b12), .val (.ref b17), .val (.int (0 : Int32)), .val (.int (0 : Int32)), .val (.ref a29), .val (.ref a37), .val (.ref eA), .unset, .unset, .unset, .unset, .unset, .unset] []))
          refine Ends.step (fun t k => XS.iload X42.here hx rfl (hb hby at_153) rfl k) ?_
          show Ends _ _ _ _ (T42.setTop (mkF m 155 #[.val (.int p1), .val (.int p2), .val (.int p3), .val (.ref b1), .val (.ref b6), .val (.ref b12), .val (.ref b17), .val (.int (0 : Int32)), .val (.int (0 : Int32)), .val (.ref a29), .val (.ref a37), .val (.ref eA), .unset, .unset, .unset, .unset, .unset, .unset] [(.int (0 : Int32))]))
          refine Ends.step (fun t k => XS.ifYes X42.here hx rfl (pc0 := 155) (pc' := 166) rfl (hb hby at_155) rfl ((if0 _ _).trans (teq (by decide : ((0 : Int32) = (0 : Int32)))).1) (by decide) (by decide) k) ?_
          show Ends _ _ _ _ (T42.setTop (mkF m 166 #[.val (.int p1), .val (.int p2), .val (.int p3), .val (.ref b1), .val (.ref b6), .val (.ref b12), .val (.ref b17), .val (.int (0 : Int32)), .val (.int (0 : Int32)), .val (.ref a29), .val (.ref a37), .val (.ref eA), .unset, .unset, .unset, .unset, .unset, .unset] []))
          obtain ⟨_, _, ⟨T43, L43, k43, n43⟩, -, X43, ⟨Lc43, hQ43, l43, y43, z43⟩, st43⟩ := Jvm.LawKit.callS X42 hx (y := (⟨"java/util/Optional", "empty", "()Ljava/util/Optional;"⟩ : MethodName)) hown (mvT hZ (hw _ (List.mem_of_getElem? (i := 46) rfl))) (mvT hZ (hw _ (List.mem_of_getElem? (i := 47) rfl))) (mvT hZ (hw _ (List.mem_of_getElem? (i := 48) rfl))) (mvT hZ (hw _ (List.mem_of_getElem? (i := 49) rfl))) (by decide) (backOf (W := 0) (rmOpE l Z a0 hw []  h39 n0 (Nat.le_trans Z0 (Nat.le_trans (Nat.le_trans (Nat.le_trans K11.1 K22.1) K31.1) K39.1)) G1 O2 P5 eA SE XE FE rZ SZ F41 ) hZ (hw _ (List.mem_of_getElem? (i := 49) rfl)) (hw _ (List.mem_of_getElem? (i := 48) rfl)) (by decide) (by decide)) (g := (mkF m 166 #[.val (.int p1), .val (.int p2), .val (.int p3), .val (.ref b1), .val (.ref b6), .val (.ref b12), .val (.ref b17), .val (.int (0 : Int32)), .val (.int (0 : Int32)), .val (.ref a29), .val (.ref a37), .val (.ref eA), .unset, .unset, .unset, .unset, .unset, .unset] [])) rfl (by rw [hml]; rfl) (argsL := []) (rest := []) (lenOf pd_5 rfl) rfl (by show 2 * 0 + _ ≤ _; exact Nat.le_of_eq rfl) (hb hby at_166) (fun _ _ => ⟨rfl, eh42, (by decide : 8 + 0 ≤ _), (by decide : 22 + 0 ≤ _)⟩)
          dsimp only [Pt.U, Pt.locs, Pt.cells, Pt.slots] at X43 l43 y43 z43 st43 hQ43
          subst l43 y43 z43
          obtain ⟨rfl, Nq43, eh43⟩ := hQ43
          have N43 := Fr.app N42 Nq43
          refine Ends.step st43 ?_
          show Ends _ _ _ _ (T43.setTop (mkF m 169 #[.val (.int p1), .val (.int p2), .val (.int p3), .val (.ref b1), .val (.ref b6), .val (.ref b12), .val (.ref b17), .val (.int (0 : Int32)), .val (.int (0 : Int32)), .val (.ref a29), .val (.ref a37), .val (.ref eA), .unset, .unset, .unset, .unset, .unset, .unset] [(.ref eA)]))
          refine Ends.step (fun t k => XS.astore X43.here hx rfl (hb hby at_169) rfl rfl (l' := #[.val (.int p1), .val (.int p2), .val (.int p3), .val (.ref b1), .val (.ref b6), .val (.ref b12), .val (.ref b17), .val (.int (0 : Int32)), .val (.int (0 : Int32)), .val (.ref a29), .val (.ref a37), .val (.ref eA), .val (.ref eA), .unset, .unset, .unset, .unset, .unset]) rfl k) ?_
          show Ends _ _ _ _ (T43.setTop (mkF m 171 #[.val (.int p1), .val (.int p2), .val (.int p3), .val (.ref b1), .val (.ref b6), .val (.ref b12), .val (.ref b17), .val (.int (0 : Int32)), .val (.int (0 : Int32)), .val (.ref a29), .val (.ref a37), .val (.ref eA), .val (.ref eA), .unset, .unset, .unset, .unset, .unset] []))
          obtain ⟨T44, h44, X44, e44, E44, A44, D44, -, st44⟩ := newO X43 hx hZ hown (hw _ (List.mem_of_getElem? (i := 67) rfl)) (hw _ (List.mem_of_getElem? (i := 68) rfl)) (hw _ (List.mem_of_getElem? (i := 69) rfl)) eh43 (g := (mkF m 171 #[.val (.int p1), .val (.int p2), .val (.int p3), .val (.ref b1), .val (.ref b6), .val (.ref b12), .val (.ref b17), .val (.int (0 : Int32)), .val (.int (0 : Int32)), .val (.ref a29), .val (.ref a37), .val (.ref eA), .val (.ref eA), .unset, .unset, .unset, .unset, .unset] [])) rfl (hb hby at_171) (by decide) (by decide)
          obtain ⟨b44, g44⟩ : ∃ z, z = h39.size := ⟨_, rfl⟩
          rw [← g44] at A44 D44 st44
          refine Ends.step st44 ?_
          show Ends _ _ _ _ (T44.setTop (mkF m 174 #[.val (.int p1), .val (.int p2), .val (.int p3), .val (.ref b1), .val (.ref b6), .val (.ref b12), .val (.ref b17), .val (.int (0 : Int32)), .val (.int (0 : Int32)), .val (.ref a29), .val (.ref a37), .val (.ref eA), .val (.ref eA), .unset, .unset, .unset, .unset, .unset] [(.ref b44)]))
          refine Ends.step (fun t k => XS.dup X44.here hx rfl (hb hby at_174) rfl rfl k) ?_
          show Ends _ _ _ _ (T44.setTop (mkF m 175 #[.val (.int p1), .val (.int p2), .val (.int p3), .val (.ref b1), .val (.ref b6), .val (.ref b12), .val (.ref b17), .val (.int (0 : Int32)), .val (.int (0 : Int32)), .val (.ref a29), .val (.ref a37), .val (.ref eA), .val (.ref eA), .unset, .unset, .unset, .unset, .unset] [(.ref b44), (.ref b44)]))
          refine Ends.step (fun t k => XS.aload X44.here hx rfl (hb hby at_175) rfl rfl k) ?_
          show Ends _ _ _ _ (T44.setTop (mkF m 177 #[.val (.int p1), .val (.int p2), .val (.int p3), .val (.ref b1), .val (.ref b6), .val (.ref b12), .val (.ref b17), .val (.int (0 : Int32)), .val (.int (0 : Int32)), .val (.ref a29), .val (.ref a37), .val (.ref eA), .val (.ref eA), .unset, .unset, .unset, .unset, .unset] [(.ref b6), (.ref b44), (.ref b44)]))
          refine Ends.step (fun t k => XS.aload X44.here hx rfl (hb hby at_177) rfl rfl k) ?_
          show Ends _ _ _ _ (T44.setTop (mkF m 179 #[.val (.int p1), .val (.int p2), .val (.int p3), .val (.ref b1), .val (.ref b6), .val (.ref b12), .val (.ref b17), .val (.int (0 : Int32)), .val (.int (0 : Int32)), .val (.ref a29), .val (.ref a37), .val (.ref eA), .val (.ref eA), .unset, .unset, .unset, .unset, .unset] [(.ref eA), (.ref b6), (.ref b44), (.ref b44)]))
          refine Ends.step (fun t k => XS.aload X44.here hx rfl (hb hby at_179) rfl rfl k) ?_
          show Ends _ _ _ _ (T44.setTop (mkF m 181 #[.val (.int p1), .val (.int p2), .val (.int p3), .val (.ref b1), .val (.ref b6), .val (.ref b12), .val (.ref b17), .val (.int (0 : Int32)), .val (.int (0 : Int32)), .val (.ref a29), .val (.ref a37), .val (.ref eA), .val (.ref eA), .unset, .unset, .unset, .unset, .unset] [(.ref b17), (.ref eA), (.ref b6), (.ref b44), (.ref b44)]))
          refine Ends.step (fun t k => XS.aload X44.here hx rfl (hb hby at_181) rfl rfl k) ?_
          show Ends _ _ _ _ (T44.setTop (mkF m 183 #[.val (.int p1), .val (.int p2), .val (.int p3), .val (.ref b1), .val (.ref b6), .val (.ref b12), .val (.ref b17), .val (.int (0 : Int32)), .val (.int (0 : Int32)), .val (.ref a29), .val (.ref a37), .val (.ref eA), .val (.ref eA), .unset, .unset, .unset, .unset, .unset] [(.ref eA), (.ref b17), (.ref eA), (.ref b6), (.ref b44), (.ref b44)]))
          have F45 : Old Z n0 h44 := (F41.ext E44)
          obtain ⟨_, _, ⟨T46, L46, k46, n46⟩, -, X46, ⟨Lc46, hQ46, l46, y46, z46⟩, st46⟩ := X44.specialBack hx (y := (⟨"com/example/miki_basin/mikibasin/Copy$Held", "<init>", "(Ljava/lang/String;Ljava/util/Optional;Ljava/lang/String;Ljava/util/Optional;)V"⟩ : MethodName)) rfl hown (mvT hZ (hw _ (List.mem_of_getElem? (i := 70) rfl))) (mvT hZ (hw _ (List.mem_of_getElem? (i := 71) rfl))) (mvT hZ (hw _ (List.mem_of_getElem? (i := 72) rfl))) (by decide) (backOf (W := 1) (rmHeldI l Z a0 hw [] b44 (.ref b6) (.ref eA) (.ref b17) (.ref eA) h44 n0 (Nat.le_trans Z0 (Nat.le_trans (Nat.le_trans (Nat.le_trans (Nat.le_trans K11.1 K22.1) K31.1) K39.1) E44.1)) G1 O2 P5 eA SE XE FE rZ SZ F45 rfl rfl rfl rfl A44 (D44 (Or.inr (hw _ (List.mem_of_getElem? (i := 80) rfl))) (ty := (.object "java/lang/String")) (by decide)) (D44 (Or.inr (hw _ (List.mem_of_getElem? (i := 82) rfl))) (ty := (.object "java/util/Optional")) (by decide)) (D44 (Or.inr (hw _ (List.mem_of_getElem? (i := 84) rfl))) (ty := (.object "java/lang/String")) (by decide)) (D44 (Or.inr (hw _ (List.mem_of_getElem? (i := 86) rfl))) (ty := (.object "java/util/Optional")) (by decide)) (Nat.le_trans (Nat.le_trans Z0 (Nat.le_trans (Nat.le_trans (Nat.le_trans K11.1 K22.1) K31.1) K39.1)) (Nat.le_of_eq g44.symm))) hZ (hw _ (List.mem_of_getElem? (i := 72) rfl)) (hw _ (List.mem_of_getElem? (i := 69) rfl)) (by decide) (by decide)) (g := (mkF m 183 #[.val (.int p1), .val (.int p2), .val (.int p3), .val (.ref b1), .val (.ref b6), .val (.ref b12), .val (.ref b17), .val (.int (0 : Int32)), .val (.int (0 : Int32)), .val (.ref a29), .val (.ref a37), .val (.ref eA), .val (.ref eA), .unset, .unset, .unset, .unset, .unset] [(.ref eA), (.ref b17), (.ref eA), (.ref b6), (.ref b44), (.ref b44)])) rfl (by rw [hml]; rfl) (Steps.refl _) (a := b44) (argsL := [(.ref b6), (.ref eA), (.ref b17), (.ref eA)]) (rest := [(.ref b44)]) (lenOf pd_12 rfl) rfl (by show 2 * 0 + _ ≤ _; exact Nat.le_of_eq rfl) (hb hby at_183) (fun _ _ => ⟨rfl, e44, (by decide : 9 + 0 ≤ _), (by decide : 26 + 0 ≤ _)⟩)
          dsimp only [Pt.U, Pt.locs, Pt.cells, Pt.slots] at X46 l46 y46 z46 st46 hQ46
          subst l46 y46 z46
          obtain ⟨rfl, Nq46, K46, f46_0, f46_1, f46_2, f46_3, f46_4⟩ := hQ46
          have N46 := Fr.app N43 Nq46
          refine Ends.go st46 ?_
          have K47 : Keep h39 T46.heap [] := (((Keep.refl h39 []).ext E44).trans K46 (allS (Or.inr (Nat.le_trans (Nat.le_refl _) (Nat.le_of_eq g44.symm))) all0))
          show Ends _ _ _ _ (T46.setTop (mkF m 186 #[.val (.int p1), .val (.int p2), .val (.int p3), .val (.ref b1), .val (.ref b6), .val (.ref b12), .val (.ref b17), .val (.int (0 : Int32)), .val (.int (0 : Int32)), .val (.ref a29), .val (.ref a37), .val (.ref eA), .val (.ref eA), .unset, .unset, .unset, .unset, .unset] [(.ref b44)]))
          refine Ends.step (fun t k => XS.astore X46.here hx rfl (hb hby at_186) rfl rfl (l' := #[.val (.int p1), .val (.int p2), .val (.int p3), .val (.ref b1), .val (.ref b6), .val (.ref b12), .val (.ref b17), .val (.int (0 : Int32)), .val (.int (0 : Int32)), .val (.ref a29), .val (.ref a37), .val (.ref eA), .val (.ref eA), .val (.ref b44), .unset, .unset, .unset, .unset]) rfl k) ?_
          show Ends _ _ _ _ (T46.setTop (mkF m 188 #[.val (.int p1), .val (.int p2), .val (.int p3), .val (.ref b1), .val (.ref b6), .val (.ref b12), .val (.ref b17), .val (.int (0 : Int32)), .val (.int (0 : Int32)), .val (.ref a29), .val (.ref a37), .val (.ref eA), .val (.ref eA), .val (.ref b44), .unset, .unset, .unset, .unset] []))
          refine Ends.step (fun t k => XS.aload X46.here hx rfl (hb hby at_188) rfl rfl k) ?_
          show Ends _ _ _ _ (T46.setTop (mkF m 190 #[.val (.int p1), .val (.int p2), .val (.int p3), .val (.ref b1), .val (.ref b6), .val (.ref b12), .val (.ref b17), .val (.int (0 : Int32)), .val (.int (0 : Int32)), .val (.ref a29), .val (.ref a37), .val (.ref eA), .val (.ref eA), .val (.ref b44), .unset, .unset, .unset, .unset] [(.ref b44)]))
          have F48 : Exa Z T46.heap eA "java/util/Optional" := ((((((XE.ext X00.2).keep K11).keep K22).keep K31).keep K39).keep K47)
          have F49 : Fld Z T46.heap eA "java/util/Optional" "value" "Ljava/lang/Object;" .null := ((((((FE.ext X00.2).keep K11 nin0).keep K22 nin0).keep K31 nin0).keep K39 nin0).keep K47 nin0)
          have F50 : Old Z n0 T46.heap := (F45.keep K46 (allS (Nat.le_trans (Nat.le_trans Z0 (Nat.le_trans (Nat.le_trans (Nat.le_trans K11.1 K22.1) K31.1) K39.1)) (Nat.le_of_eq g44.symm)) all0))
          obtain ⟨cq51, kq51, q51a, q51b, q51c⟩ := isOf hZ rfl f46_0
          obtain ⟨_, _, ⟨T51, L51, k51, n51⟩, -, X51, ⟨Lc51, hQ51, l51, y51, z51⟩, st51⟩ := X46.virtualBack hx (y := (⟨"com/example/miki_basin/mikibasin/Copy$Held", "pair", "()Ljava/util/Optional;"⟩ : MethodName)) (z := (⟨"com/example/miki_basin/mikibasin/Copy$Held", "pair", "()Ljava/util/Optional;"⟩ : MethodName)) hown (mvT hZ (hw _ (List.mem_of_getElem? (i := 87) rfl))) (mvT hZ (hw _ (List.mem_of_getElem? (i := 88) rfl))) (notFace_of_selects (args := #[]) (mvT hZ (hw _ (List.mem_of_getElem? (i := 90) rfl)))) (mvT hZ (hw _ (List.mem_of_getElem? (i := 90) rfl))) (mvT hZ (hw _ (List.mem_of_getElem? (i := 89) rfl))) (by decide) (backOf (W := 0) (rmPair_a l Z a0 hw [] b44 eA T46.heap n0 (Nat.le_trans Z0 (Nat.le_trans (Nat.le_trans (Nat.le_trans (Nat.le_trans K11.1 K22.1) K31.1) K39.1) K47.1)) G1 O2 P5 eA SE XE FE rZ SZ F50 f46_2 F48 F49) hZ (hw _ (List.mem_of_getElem? (i := 91) rfl)) (hw _ (List.mem_of_getElem? (i := 69) rfl)) (by decide) (by decide)) q51a q51c (g := (mkF m 190 #[.val (.int p1), .val (.int p2), .val (.int p3), .val (.ref b1), .val (.ref b6), .val (.ref b12), .val (.ref b17), .val (.int (0 : Int32)), .val (.int (0 : Int32)), .val (.ref a29), .val (.ref a37), .val (.ref eA), .val (.ref eA), .val (.ref b44), .unset, .unset, .unset, .unset] [(.ref b44)])) rfl (by rw [hml]; rfl) (Steps.refl _) (argsL := []) (rest := []) (lenOf pd_5 rfl) rfl (by show 2 * 0 + _ ≤ _; exact Nat.le_of_eq rfl) (hb hby at_190) (fun _ _ => ⟨rfl, rfl, (by decide : 9 + 0 ≤ _), (by decide : 26 + 0 ≤ _)⟩)
          dsimp only [Pt.U, Pt.locs, Pt.cells, Pt.slots] at X51 l51 y51 z51 st51 hQ51
          subst l51 y51 z51
          obtain ⟨rfl, Nq51, eh51⟩ := hQ51
          have N51 := Fr.app N46 Nq51
          refine Ends.go st51 ?_
          show Ends _ _ _ _ (T51.setTop (mkF m 193 #[.val (.int p1), .val (.int p2), .val (.int p3), .val (.ref b1), .val (.ref b6), .val (.ref b12), .val (.ref b17), .val (.int (0 : Int32)), .val (.int (0 : Int32)), .val (.ref a29), .val (.ref a37), .val (.ref eA), .val (.ref eA), .val (.ref b44), .unset, .unset, .unset, .unset] [(.ref eA)]))
          refine Ends.step (fun t k => XS.astore X51.here hx rfl (hb hby at_193) rfl rfl (l' := #[.val (.int p1), .val (.int p2), .val (.int p3), .val (.ref b1), .val (.ref b6), .val (.ref b12), .val (.ref b17), .val (.int (0 : Int32)), .val (.int (0 : Int32)), .val (.ref a29), .val (.ref a37), .val (.ref eA), .val (.ref eA), .val (.ref b44), .val (.ref eA), .unset, .unset, .unset]) rfl k) ?_
          show Ends _ _ _ _ (T51.setTop (mkF m 195 #[.val (.int p1), .val (.int p2), .val (.int p3), .val (.ref b1), .val (.ref b6), .val (.ref b12), .val (.ref b17), .val (.int (0 : Int32)), .val (.int (0 : Int32)), .val (.ref a29), .val (.ref a37), .val (.ref eA), .val (.ref eA), .val (.ref b44), .val (.ref eA), .unset, .unset, .unset] []))
          refine Ends.step (fun t k => XS.aload X51.here hx rfl (hb hby at_195) rfl rfl k) ?_
          show Ends _ _ _ _ (T51.setTop (mkF m 197 #[.val (.int p1), .val (.int p2), .val (.int p3), .val (.ref b1), .val (.ref b6), .val (.ref b12), .val (.ref b17), .val (.int (0 : Int32)), .val (.int (0 : Int32)), .val (.ref a29), .val (.ref a37), .val (.ref eA), .val (.ref eA), .val (.ref b44), .val (.ref eA), .unset, .unset, .unset] [(.ref eA)]))
          refine Ends.step (fun t k => XS.ifnonnullYes X51.here hx rfl (pc0 := 197) (pc' := 202) rfl (hb hby at_197) rfl (by decide) (by decide) k) ?_
          show Ends _ _ _ _ (T51.setTop (mkF m 202 #[.val (.int p1), .val (.int p2), .val (.int p3), .val (.ref b1), .val (.ref b6), .val (.ref b12), .val (.ref b17), .val (.int (0 : Int32)), .val (.int (0 : Int32)), .val (.ref a29), .val (.ref a37), .val (.ref eA), .val (.ref eA), .val (.ref b44), .val (.ref eA), .unset, .unset, .unset] []))
          refine Ends.step (fun t k => XS.iload X51.here hx rfl (hb hby at_202) rfl k) ?_
          show Ends _ _ _ _ (T51.setTop (mkF m 204 #[.val (.int p1), .val (.int p2), .val (.int p3), .val (.ref b1), .val (.ref b6), .val (.ref b12), .val (.ref b17), .val (.int (0 : Int32)), .val (.int (0 : Int32)), .val (.ref a29), .val (.ref a37), .val (.ref eA), .val (.ref eA), .val (.ref b44), .val (.ref eA), .unset, .unset, .unset] [(.int (0 : Int32))]))
          refine Ends.step (fun t k => XS.ifYes X51.here hx rfl (pc0 := 204) (pc' := 212) rfl (hb hby at_204) rfl ((if0 _ _).trans (teq (by decide : ((0 : Int32) = (0 : Int32)))).1) (by decide) (by decide) k) ?_
          show Ends _ _ _ _ (T51.setTop (mkF m 212 #[.val (.int p1), .val (.int p2), .val (.int p3), .val (.ref b1), .val (.ref b6), .val (.ref b12), .val (.ref b17), .val (.int (0 : Int32)), .val (.int (0 : Int32)), .val (.ref a29), .val (.ref a37), .val (.ref eA), .val (.ref eA), .val (.ref b44), .val (.ref eA), .unset, .unset, .unset] []))
          refine Ends.step (fun t k => XS.aload X51.here hx rfl (hb hby at_212) rfl rfl k) ?_
          show Ends _ _ _ _ (T51.setTop (mkF m 214 #[.val (.int p1), .val (.int p2), .val (.int p3), .val (.ref b1), .val (.ref b6), .val (.ref b12), .val (.ref b17), .val (.int (0 : Int32)), .val (.int (0 : Int32)), .val (.ref a29), .val (.ref a37), .val (.ref eA), .val (.ref eA), .val (.ref b44), .val (.ref eA), .unset, .unset, .unset] [(.ref eA)]))
          obtain ⟨cq52, kq52, q52a, q52b, q52c⟩ := isOf hZ eh51 F48
          obtain ⟨_, _, ⟨T52, L52, k52, n52⟩, -, X52, ⟨Lc52, hQ52, l52, y52, z52⟩, st52⟩ := X51.virtualBack hx (y := (⟨"java/util/Optional", "isPresent", "()Z"⟩ : MethodName)) (z := (⟨"java/util/Optional", "isPresent", "()Z"⟩ : MethodName)) hown (mvT hZ (hw _ (List.mem_of_getElem? (i := 98) rfl))) (mvT hZ (hw _ (List.mem_of_getElem? (i := 99) rfl))) (notFace_of_selects (args := #[]) (mvT hZ (hw _ (List.mem_of_getElem? (i := 101) rfl)))) (mvT hZ (hw _ (List.mem_of_getElem? (i := 101) rfl))) (mvT hZ (hw _ (List.mem_of_getElem? (i := 100) rfl))) (by decide) (backOf (W := 0) (rmOp_isPresent_n l Z a0 hw [] eA T46.heap n0 (Nat.le_trans Z0 (Nat.le_trans (Nat.le_trans (Nat.le_trans (Nat.le_trans K11.1 K22.1) K31.1) K39.1) K47.1)) G1 O2 P5 eA SE XE FE rZ SZ F50 F49) hZ (hw _ (List.mem_of_getElem? (i := 102) rfl)) (hw _ (List.mem_of_getElem? (i := 48) rfl)) (by decide) (by decide)) q52a q52c (g := (mkF m 214 #[.val (.int p1), .val (.int p2), .val (.int p3), .val (.ref b1), .val (.ref b6), .val (.ref b12), .val (.ref b17), .val (.int (0 : Int32)), .val (.int (0 : Int32)), .val (.ref a29), .val (.ref a37), .val (.ref eA), .val (.ref eA), .val (.ref b44), .val (.ref eA), .unset, .unset, .unset] [(.ref eA)])) rfl (by rw [hml]; rfl) (Steps.refl _) (argsL := []) (rest := []) (lenOf pd_4 rfl) rfl (by show 2 * 0 + _ ≤ _; exact Nat.le_of_eq rfl) (hb hby at_214) (fun _ _ => ⟨rfl, eh51, (by decide : 9 + 0 ≤ _), (by decide : 26 + 0 ≤ _)⟩)
          dsimp only [Pt.U, Pt.locs, Pt.cells, Pt.slots] at X52 l52 y52 z52 st52 hQ52
          subst l52 y52 z52
          obtain ⟨rfl, Nq52, eh52⟩ := hQ52
          have N52 := Fr.app N51 Nq52
          refine Ends.go st52 ?_
          show Ends _ _ _ _ (T52.setTop (mkF m 217 #[.val (.int p1), .val (.int p2), .val (.int p3), .val (.ref b1), .val (.ref b6), .val (.ref b12), .val (.ref b17), .val (.int (0 : Int32)), .val (.int (0 : Int32)), .val (.ref a29), .val (.ref a37), .val (.ref eA), .val (.ref eA), .val (.ref b44), .val (.ref eA), .unset, .unset, .unset] [(.int (0 : Int32))]))
          refine Ends.step (fun t k => XS.ifNo X52.here hx rfl (hb hby at_217) rfl ((if0 _ _).trans (teq (by decide : ((0 : Int32) = (0 : Int32)))).2) k) ?_
          show Ends _ _ _ _ (T52.setTop (mkF m 220 #[.val (.int p1), .val (.int p2), .val (.int p3), .val (.ref b1), .val (.ref b6), .val (.ref b12), .val (.ref b17), .val (.int (0 : Int32)), .val (.int (0 : Int32)), .val (.ref a29), .val (.ref a37), .val (.ref eA), .val (.ref eA), .val (.ref b44), .val (.ref eA), .unset, .unset, .unset] []))
          refine Ends.step (fun t k => XS.iconst X52.here hx rfl (hb hby at_220) k) ?_
          show Ends _ _ _ _ (T52.setTop (mkF m 221 #[.val (.int p1), .val (.int p2), .val (.int p3), .val (.ref b1), .val (.ref b6), .val (.ref b12), .val (.ref b17), .val (.int (0 : Int32)), .val (.int (0 : Int32)), .val (.ref a29), .val (.ref a37), .val (.ref eA), .val (.ref eA), .val (.ref b44), .val (.ref eA), .unset, .unset, .unset] [(.int (1 : Int32))]))
          refine Ends.step (fun t k => XS.goto X52.here hx rfl (pc0 := 221) (pc' := 225) rfl (hb hby at_221) (by decide) (by decide) k) ?_
          show Ends _ _ _ _ (T52.setTop (mkF m 225 #[.val (.int p1), .val (.int p2), .val (.int p3), .val (.ref b1), .val (.ref b6), .val (.ref b12), .val (.ref b17), .val (.int (0 : Int32)), .val (.int (0 : Int32)), .val (.ref a29), .val (.ref a37), .val (.ref eA), .val (.ref eA), .val (.ref b44), .val (.ref eA), .unset, .unset, .unset] [(.int (1 : Int32))]))
          exact own_finI X52 hx hlk (t := .boolean) Bd.returns (by simp) rfl (hb hby at_225) eh52 ⟨rfl, N52, ((((((Keep.refl h0 []).trans K11 all0).trans K22 all0).trans K31 all0).trans K39 all0).trans K47 all0)⟩ (by decide) (by decide)
        by_cases c53 : (p3 &&& (8 : Int32)) = (0 : Int32)
        · refine Ends.step (fun t k => XS.ifYes X31.here hx rfl (pc0 := 121) (pc' := 130) rfl (hb hby at_121) rfl ((if0 _ _).trans (teq c53).1) (by decide) (by decide) k) ?_
          show Ends _ _ _ _ (T31.setTop (mkF m 130 #[.val (.int p1), .val (.int p2), .val (.int p3), .val (.ref b1), .val (.ref b6), .val (.ref b12), .val (.ref b17), .val (.int (0 : Int32)), .val (.int (0 : Int32)), .val (.ref a29), .unset, .unset, .unset, .unset, .unset, .unset, .unset, .unset] []))
          have F54 : Old Z n0 h31 := ((F19.keep K21 (allS (Nat.le_trans (Nat.le_trans Z0 (Nat.le_trans (Nat.le_trans (Nat.le_trans K11.1 E12.1) (Nat.le_of_eq W14.size.symm)) (Nat.le_of_eq W16.size.symm))) (Nat.le_of_eq g17.symm)) all0)).keep K31 all0)
          obtain ⟨_, _, ⟨T55, L55, k55, n55⟩, -, X55, ⟨Lc55, hQ55, l55, y55, z55⟩, st55⟩ := Jvm.LawKit.callS X31 hx (y := (⟨"com/example/miki_basin/mikibasin/Figure", "notApplicable", "()Lcom/example/miki_basin/mikibasin/Figure;"⟩ : MethodName)) hown (mvT hZ (hw _ (List.mem_of_getElem? (i := 30) rfl))) (mvT hZ (hw _ (List.mem_of_getElem? (i := 31) rfl))) (mvT hZ (hw _ (List.mem_of_getElem? (i := 32) rfl))) (mvT hZ (hw _ (List.mem_of_getElem? (i := 33) rfl))) (by decide) (backOf (W := 0) (rm_notApplicable l Z a0 hw []  h31 n0 (Nat.le_trans Z0 (Nat.le_trans (Nat.le_trans K11.1 K22.1) K31.1)) G1 O2 P5 eA SE XE FE rZ SZ F54 ) hZ (hw _ (List.mem_of_getElem? (i := 33) rfl)) (hw _ (List.mem_of_getElem? (i := 32) rfl)) (by decide) (by decide)) (g := (mkF m 130 #[.val (.int p1), .val (.int p2), .val (.int p3), .val (.ref b1), .val (.ref b6), .val (.ref b12), .val (.ref b17), .val (.int (0 : Int32)), .val (.int (0 : Int32)), .val (.ref a29), .unset, .unset, .unset, .unset, .unset, .unset, .unset, .unset] [])) rfl (by rw [hml]; rfl) (argsL := []) (rest := []) (lenOf pd_11 rfl) rfl (by show 2 * 0 + _ ≤ _; exact Nat.le_of_eq rfl) (hb hby at_130) (fun _ _ => ⟨rfl, e31, (by decide : 7 + 1 ≤ _), (by decide : 19 + 3 ≤ _)⟩)
          dsimp only [Pt.U, Pt.locs, Pt.cells, Pt.slots] at X55 l55 y55 z55 st55 hQ55
          subst l55 y55 z55
          obtain ⟨x_55, rfl, Nq55, K55, f55_0, f55_1⟩ := hQ55
          have N55 := Fr.app N31 Nq55
          refine Ends.step st55 ?_
          exact J38 x_55 T55 T55.heap _ (own_mono X55 (by decide) (by decide)) rfl N55 ((Keep.refl h31 []).trans K55 all0) f55_1
        · refine Ends.step (fun t k => XS.ifNo X31.here hx rfl (hb hby at_121) rfl ((if0 _ _).trans (feq c53).1) k) ?_
          show Ends _ _ _ _ (T31.setTop (mkF m 124 #[.val (.int p1), .val (.int p2), .val (.int p3), .val (.ref b1), .val (.ref b6), .val (.ref b12), .val (.ref b17), .val (.int (0 : Int32)), .val (.int (0 : Int32)), .val (.ref a29), .unset, .unset, .unset, .unset, .unset, .unset, .unset, .unset] []))
          have F56 : Old Z n0 h31 := ((F19.keep K21 (allS (Nat.le_trans (Nat.le_trans Z0 (Nat.le_trans (Nat.le_trans (Nat.le_trans K11.1 E12.1) (Nat.le_of_eq W14.size.symm)) (Nat.le_of_eq W16.size.symm))) (Nat.le_of_eq g17.symm)) all0)).keep K31 all0)
          obtain ⟨_, _, ⟨T57, L57, k57, n57⟩, -, X57, ⟨Lc57, hQ57, l57, y57, z57⟩, st57⟩ := Jvm.LawKit.callS X31 hx (y := (⟨"com/example/miki_basin/mikibasin/Figure", "blank", "()Lcom/example/miki_basin/mikibasin/Figure;"⟩ : MethodName)) hown (mvT hZ (hw _ (List.mem_of_getElem? (i := 161) rfl))) (mvT hZ (hw _ (List.mem_of_getElem? (i := 162) rfl))) (mvT hZ (hw _ (List.mem_of_getElem? (i := 32) rfl))) (mvT hZ (hw _ (List.mem_of_getElem? (i := 163) rfl))) (by decide) (backOf (W := 0) (rm_blank l Z a0 hw []  h31 n0 (Nat.le_trans Z0 (Nat.le_trans (Nat.le_trans K11.1 K22.1) K31.1)) G1 O2 P5 eA SE XE FE rZ SZ F56 ) hZ (hw _ (List.mem_of_getElem? (i := 163) rfl)) (hw _ (List.mem_of_getElem? (i := 32) rfl)) (by decide) (by decide)) (g := (mkF m 124 #[.val (.int p1), .val (.int p2), .val (.int p3), .val (.ref b1), .val (.ref b6), .val (.ref b12), .val (.ref b17), .val (.int (0 : Int32)), .val (.int (0 : Int32)), .val (.ref a29), .unset, .unset, .unset, .unset, .unset, .unset, .unset, .unset] [])) rfl (by rw [hml]; rfl) (argsL := []) (rest := []) (lenOf pd_11 rfl) rfl (by show 2 * 0 + _ ≤ _; exact Nat.le_of_eq rfl) (hb hby at_124) (fun _ _ => ⟨rfl, e31, (by decide : 7 + 1 ≤ _), (by decide : 19 + 3 ≤ _)⟩)
          dsimp only [Pt.U, Pt.locs, Pt.cells, Pt.slots] at X57 l57 y57 z57 st57 hQ57
          subst l57 y57 z57
          obtain ⟨x_57, rfl, Nq57, K57, f57_0, f57_1⟩ := hQ57
          have N57 := Fr.app N31 Nq57
          refine Ends.step st57 ?_
          show Ends _ _ _ _ (T57.setTop (mkF m 127 #[.val (.int p1), .val (.int p2), .val (.int p3), .val (.ref b1), .val (.ref b6), .val (.ref b12), .val (.ref b17), .val (.int (0 : Int32)), .val (.int (0 : Int32)), .val (.ref a29), .unset, .unset, .unset, .unset, .unset, .unset, .unset, .unset] [(.ref x_57)]))
          refine Ends.step (fun t k => XS.goto X57.here hx rfl (pc0 := 127) (pc' := 133) rfl (hb hby at_127) (by decide) (by decide) k) ?_
          exact J38 x_57 T57 T57.heap _ (own_mono X57 (by decide) (by decide)) rfl N57 ((Keep.refl h31 []).trans K57 all0) f57_1
      by_cases c58 : (p3 &&& (4 : Int32)) = (0 : Int32)
      · refine Ends.step (fun t k => XS.ifYes X21.here hx rfl (pc0 := 103) (pc' := 112) rfl (hb hby at_103) rfl ((if0 _ _).trans (teq c58).1) (by decide) (by decide) k) ?_
        show Ends _ _ _ _ (T21.setTop (mkF m 112 #[.val (.int p1), .val (.int p2), .val (.int p3), .val (.ref b1), .val (.ref b6), .val (.ref b12), .val (.ref b17), .val (.int (0 : Int32)), .val (.int (0 : Int32)), .unset, .unset, .unset, .unset, .unset, .unset, .unset, .unset, .unset] []))
        have F59 : Old Z n0 T21.heap := (F19.keep K21 (allS (Nat.le_trans (Nat.le_trans Z0 (Nat.le_trans (Nat.le_trans (Nat.le_trans K11.1 E12.1) (Nat.le_of_eq W14.size.symm)) (Nat.le_of_eq W16.size.symm))) (Nat.le_of_eq g17.symm)) all0))
        obtain ⟨_, _, ⟨T60, L60, k60, n60⟩, -, X60, ⟨Lc60, hQ60, l60, y60, z60⟩, st60⟩ := Jvm.LawKit.callS X21 hx (y := (⟨"com/example/miki_basin/mikibasin/Figure", "notApplicable", "()Lcom/example/miki_basin/mikibasin/Figure;"⟩ : MethodName)) hown (mvT hZ (hw _ (List.mem_of_getElem? (i := 30) rfl))) (mvT hZ (hw _ (List.mem_of_getElem? (i := 31) rfl))) (mvT hZ (hw _ (List.mem_of_getElem? (i := 32) rfl))) (mvT hZ (hw _ (List.mem_of_getElem? (i := 33) rfl))) (by decide) (backOf (W := 0) (rm_notApplicable l Z a0 hw []  T21.heap n0 (Nat.le_trans Z0 (Nat.le_trans K11.1 K22.1)) G1 O2 P5 eA SE XE FE rZ SZ F59 ) hZ (hw _ (List.mem_of_getElem? (i := 33) rfl)) (hw _ (List.mem_of_getElem? (i := 32) rfl)) (by decide) (by decide)) (g := (mkF m 112 #[.val (.int p1), .val (.int p2), .val (.int p3), .val (.ref b1), .val (.ref b6), .val (.ref b12), .val (.ref b17), .val (.int (0 : Int32)), .val (.int (0 : Int32)), .unset, .unset, .unset, .unset, .unset, .unset, .unset, .unset, .unset] [])) rfl (by rw [hml]; rfl) (argsL := []) (rest := []) (lenOf pd_11 rfl) rfl (by show 2 * 0 + _ ≤ _; exact Nat.le_of_eq rfl) (hb hby at_112) (fun _ _ => ⟨rfl, rfl, (by decide : 6 + 1 ≤ _), (by decide : 16 + 3 ≤ _)⟩)
        dsimp only [Pt.U, Pt.locs, Pt.cells, Pt.slots] at X60 l60 y60 z60 st60 hQ60
        subst l60 y60 z60
        obtain ⟨x_60, rfl, Nq60, K60, f60_0, f60_1⟩ := hQ60
        have N60 := Fr.app N21 Nq60
        refine Ends.step st60 ?_
        exact J30 x_60 T60 T60.heap _ (own_mono X60 (by decide) (by decide)) rfl N60 ((Keep.refl T21.heap []).trans K60 all0) f60_1
      · refine Ends.step (fun t k => XS.ifNo X21.here hx rfl (hb hby at_103) rfl ((if0 _ _).trans (feq c58).1) k) ?_
        show Ends _ _ _ _ (T21.setTop (mkF m 106 #[.val (.int p1), .val (.int p2), .val (.int p3), .val (.ref b1), .val (.ref b6), .val (.ref b12), .val (.ref b17), .val (.int (0 : Int32)), .val (.int (0 : Int32)), .unset, .unset, .unset, .unset, .unset, .unset, .unset, .unset, .unset] []))
        have F61 : Old Z n0 T21.heap := (F19.keep K21 (allS (Nat.le_trans (Nat.le_trans Z0 (Nat.le_trans (Nat.le_trans (Nat.le_trans K11.1 E12.1) (Nat.le_of_eq W14.size.symm)) (Nat.le_of_eq W16.size.symm))) (Nat.le_of_eq g17.symm)) all0))
        obtain ⟨_, _, ⟨T62, L62, k62, n62⟩, -, X62, ⟨Lc62, hQ62, l62, y62, z62⟩, st62⟩ := Jvm.LawKit.callS X21 hx (y := (⟨"com/example/miki_basin/mikibasin/Figure", "blank", "()Lcom/example/miki_basin/mikibasin/Figure;"⟩ : MethodName)) hown (mvT hZ (hw _ (List.mem_of_getElem? (i := 161) rfl))) (mvT hZ (hw _ (List.mem_of_getElem? (i := 162) rfl))) (mvT hZ (hw _ (List.mem_of_getElem? (i := 32) rfl))) (mvT hZ (hw _ (List.mem_of_getElem? (i := 163) rfl))) (by decide) (backOf (W := 0) (rm_blank l Z a0 hw []  T21.heap n0 (Nat.le_trans Z0 (Nat.le_trans K11.1 K22.1)) G1 O2 P5 eA SE XE FE rZ SZ F61 ) hZ (hw _ (List.mem_of_getElem? (i := 163) rfl)) (hw _ (List.mem_of_getElem? (i := 32) rfl)) (by decide) (by decide)) (g := (mkF m 106 #[.val (.int p1), .val (.int p2), .val (.int p3), .val (.ref b1), .val (.ref b6), .val (.ref b12), .val (.ref b17), .val (.int (0 : Int32)), .val (.int (0 : Int32)), .unset, .unset, .unset, .unset, .unset, .unset, .unset, .unset, .unset] [])) rfl (by rw [hml]; rfl) (argsL := []) (rest := []) (lenOf pd_11 rfl) rfl (by show 2 * 0 + _ ≤ _; exact Nat.le_of_eq rfl) (hb hby at_106) (fun _ _ => ⟨rfl, rfl, (by decide : 6 + 1 ≤ _), (by decide : 16 + 3 ≤ _)⟩)
        dsimp only [Pt.U, Pt.locs, Pt.cells, Pt.slots] at X62 l62 y62 z62 st62 hQ62
        subst l62 y62 z62
        obtain ⟨x_62, rfl, Nq62, K62, f62_0, f62_1⟩ := hQ62
        have N62 := Fr.app N21 Nq62
        refine Ends.step st62 ?_
        show Ends _ _ _ _ (T62.setTop (mkF m 109 #[.val (.int p1), .val (.int p2), .val (.int p3), .val (.ref b1), .val (.ref b6), .val (.ref b12), .val (.ref b17), .val (.int (0 : Int32)), .val (.int (0 : Int32)), .unset, .unset, .unset, .unset, .unset, .unset, .unset, .unset, .unset] [(.ref x_62)]))
        refine Ends.step (fun t k => XS.goto X62.here hx rfl (pc0 := 109) (pc' := 115) rfl (hb hby at_109) (by decide) (by decide) k) ?_
        exact J30 x_62 T62 T62.heap _ (own_mono X62 (by decide) (by decide)) rfl N62 ((Keep.refl T21.heap []).trans K62 all0) f62_1
    · refine Ends.step (fun t k => XS.ifNo X21.here hx rfl (hb hby at_90) rfl ((if0 _ _).trans (feq c24).1) k) ?_
      show Ends _ _ _ _ (T21.setTop (mkF m 93 #[.val (.int p1), .val (.int p2), .val (.int p3), .val (.ref b1), .val (.ref b6), .val (.ref b12), .val (.ref b17), .val (.int (0 : Int32)), .unset, .unset, .unset, .unset, .unset, .unset, .unset, .unset, .unset, .unset] []))
      refine Ends.step (fun t k => XS.iconst X21.here hx rfl (hb hby at_93) k) ?_
      show Ends _ _ _ _ (T21.setTop (mkF m 94 #[.val (.int p1), .val (.int p2), .val (.int p3), .val (.ref b1), .val (.ref b6), .val (.ref b12), .val (.ref b17), .val (.int (0 : Int32)), .unset, .unset, .unset, .unset, .unset, .unset, .unset, .unset, .unset, .unset] [(.int (1 : Int32))]))
      refine Ends.step (fun t k => XS.goto X21.here hx rfl (pc0 := 94) (pc' := 98) rfl (hb hby at_94) (by decide) (by decide) k) ?_
      show Ends _ _ _ _ (T21.setTop (mkF m 98 #[.val (.int p1), .val (.int p2), .val (.int p3), .val (.ref b1), .val (.ref b6), .val (.ref b12), .val (.ref b17), .val (.int (0 : Int32)), .unset, .unset, .unset, .unset, .unset, .unset, .unset, .unset, .unset, .unset] [(.int (1 : Int32))]))
      refine Ends.step (fun t k => XS.istore X21.here hx rfl (hb hby at_98) rfl (l' := #[.val (.int p1), .val (.int p2), .val (.int p3), .val (.ref b1), .val (.ref b6), .val (.ref b12), .val (.ref b17), .val (.int (0 : Int32)), .val (.int (1 : Int32)), .unset, .unset, .unset, .unset, .unset, .unset, .unset, .unset, .unset]) rfl k) ?_
      show Ends _ _ _ _ (T21.setTop (mkF m 100 #[.val (.int p1), .val (.int p2), .val (.int p3), .val (.ref b1), .val (.ref b6), .val (.ref b12), .val (.ref b17), .val (.int (0 : Int32)), .val (.int (1 : Int32)), .unset, .unset, .unset, .unset, .unset, .unset, .unset, .unset, .unset] []))
      refine Ends.step (fun t k => XS.iloadN X21.here hx rfl (hb hby at_100) rfl k) ?_
      show Ends _ _ _ _ (T21.setTop (mkF m 101 #[.val (.int p1), .val (.int p2), .val (.int p3), .val (.ref b1), .val (.ref b6), .val (.ref b12), .val (.ref b17), .val (.int (0 : Int32)), .val (.int (1 : Int32)), .unset, .unset, .unset, .unset, .unset, .unset, .unset, .unset, .unset] [(.int p3)]))
      refine Ends.step (fun t k => XS.iconst X21.here hx rfl (hb hby at_101) k) ?_
      show Ends _ _ _ _ (T21.setTop (mkF m 102 #[.val (.int p1), .val (.int p2), .val (.int p3), .val (.ref b1), .val (.ref b6), .val (.ref b12), .val (.ref b17), .val (.int (0 : Int32)), .val (.int (1 : Int32)), .unset, .unset, .unset, .unset, .unset, .unset, .unset, .unset, .unset] [(.int (4 : Int32)), (.int p3)]))
      refine Ends.step (fun t k => XS.iand X21.here hx rfl (hb hby at_102) rfl k) ?_
      show Ends _ _ _ _ (T21.setTop (mkF m 103 #[.val (.int p1), .val (.int p2), .val (.int p3), .val (.ref b1), .val (.ref b6), .val (.ref b12), .val (.ref b17), .val (.int (0 : Int32)), .val (.int (1 : Int32)), .unset, .unset, .unset, .unset, .unset, .unset, .unset, .unset, .unset] [(.int (p3 &&& (4 : Int32)))]))
      have J68 : ∀ (a67 : Addr) (T69 : State) (h69 : Heap) (L69 : List Loc) (X69 : Stand p l e room_1 s m #[(.int p1), (.int p2), (.int p3)] below meth c T69 L69 7 19) (e69 : T69.heap = h69) (N69 : Fr n0 L69) (K69 : Keep T21.heap h69 []) (jf70 : Exa Z h69 a67 "com/example/miki_basin/mikibasin/Figure"), Ends p.tables e below (fun o U' => ∃ v L, o = .returned v ∧ Qrm0 Z p1 p2 p3 h0 n0 v U'.heap L ∧ FrameEnd s o U' L 40 192) (T69.setTop (mkF m 115 #[.val (.int p1), .val (.int p2), .val (.int p3), .val (.ref b1), .val (.ref b6), .val (.ref b12), .val (.ref b17), .val (.int (0 : Int32)), .val (.int (1 : Int32)), .unset, .unset, .unset, .unset, .unset, .unset, .unset, .unset, .unset] [(.ref a67)])) := by
        intro a67 T69 h69 L69 X69 e69 N69 K69 jf70
        show Ends _ _ _ _ (T69.setTop (mkF m 115 #[.val (.int p1), .val (.int p2), .val (.int p3), .val (.ref b1), .val (.ref b6), .val (.ref b12), .val (.ref b17), .val (.int (0 : Int32)), .val (.int (1 : Int32)), .unset, .unset, .unset, .unset, .unset, .unset, .unset, .unset, .unset] [(.ref a67)]))
        refine Ends.step (fun t k => XS.astore X69.here hx rfl (hb hby at_115) rfl rfl (l' := #[.val (.int p1), .val (.int p2), .val (.int p3), .val (.ref b1), .val (.ref b6), .val (.ref b12), .val (.ref b17), .val (.int (0 : Int32)), .val (.int (1 : Int32)), .val (.ref a67), .unset, .unset, .unset, .unset, .unset, .unset, .unset, .unset]) rfl k) ?_
        show Ends _ _ _ _ (T69.setTop (mkF m 117 #[.val (.int p1), .val (.int p2), .val (.int p3), .val (.ref b1), .val (.ref b6), .val (.ref b12), .val (.ref b17), .val (.int (0 : Int32)), .val (.int (1 : Int32)), .val (.ref a67), .unset, .unset, .unset, .unset, .unset, .unset, .unset, .unset] []))
        refine Ends.step (fun t k => XS.iloadN X69.here hx rfl (hb hby at_117) rfl k) ?_
        show Ends _ _ _ _ (T69.setTop (mkF m 118 #[.val (.int p1), .val (.int p2), .val (.int p3), .val (.ref b1), .val (.ref b6), .val (.ref b12), .val (.ref b17), .val (.int (0 : Int32)), .val (.int (1 : Int32)), .val (.ref a67), .unset, .unset, .unset, .unset, .unset, .unset, .unset, .unset] [(.int p3)]))
        refine Ends.step (fun t k => XS.bipush X69.here hx rfl (hb hby at_118) k) ?_
        show Ends _ _ _ _ (T69.setTop (mkF m 120 #[.val (.int p1), .val (.int p2), .val (.int p3), .val (.ref b1), .val (.ref b6), .val (.ref b12), .val (.ref b17), .val (.int (0 : Int32)), .val (.int (1 : Int32)), .val (.ref a67), .unset, .unset, .unset, .unset, .unset, .unset, .unset, .unset] [(.int (8 : Int32)), (.int p3)]))
        refine Ends.step (fun t k => XS.iand X69.here hx rfl (hb hby at_120) rfl k) ?_
        show Ends _ _ _ _ (T69.setTop (mkF m 121 #[.val (.int p1), .val (.int p2), .val (.int p3), .val (.ref b1), .val (.ref b6), .val (.ref b12), .val (.ref b17), .val (.int (0 : Int32)), .val (.int (1 : Int32)), .val (.ref a67), .unset, .unset, .unset, .unset, .unset, .unset, .unset, .unset] [(.int (p3 &&& (8 : Int32)))]))
        have J76 : ∀ (a75 : Addr) (T77 : State) (h77 : Heap) (L77 : List Loc) (X77 : Stand p l e room_1 s m #[(.int p1), (.int p2), (.int p3)] below meth c T77 L77 8 22) (e77 : T77.heap = h77) (N77 : Fr n0 L77) (K77 : Keep h69 h77 []) (jf78 : Exa Z h77 a75 "com/example/miki_basin/mikibasin/Figure"), Ends p.tables e below (fun o U' => ∃ v L, o = .returned v ∧ Qrm0 Z p1 p2 p3 h0 n0 v U'.heap L ∧ FrameEnd s o U' L 40 192) (T77.setTop (mkF m 133 #[.val (.int p1), .val (.int p2), .val (.int p3), .val (.ref b1), .val (.ref b6), .val (.ref b12), .val (.ref b17), .val (.int (0 : Int32)), .val (.int (1 : Int32)), .val (.ref a67), .unset, .unset, .unset, .unset, .unset, .unset, .unset, .unset] [(.ref a75)])) := by
          intro a75 T77 h77 L77 X77 e77 N77 K77 jf78
          show Ends _ _ _ _ (T77.setTop (mkF m 133 #[.val (.int p1), .val (.int p2), .val (.int p3), .val (.ref b1), .val (.ref b6), .val (.ref b12), .val (.ref b17), .val (.int (0 : Int32)), .val (.int (1 : Int32)), .val (.ref a67), .unset, .unset, .unset, .unset, .unset, .unset, .unset, .unset] [(.ref a75)]))
          refine Ends.step (fun t k => XS.astore X77.here hx rfl (hb hby at_133) rfl rfl (l' := #[.val (.int p1), .val (.int p2), .val (.int p3), .val (.ref b1), .val (.ref b6), .val (.ref b12), .val (.ref b17), .val (.int (0 : Int32)), .val (.int (1 : Int32)), .val (.ref a67), .val (.ref a75), .unset, .unset, .unset, .unset, .unset, .unset, .unset]) rfl k) ?_
          show Ends _ _ _ _ (T77.setTop (mkF m 135 #[.val (.int p1), .val (.int p2), .val (.int p3), .val (.ref b1), .val (.ref b6), .val (.ref b12), .val (.ref b17), .val (.int (0 : Int32)), .val (.int (1 : Int32)), .val (.ref a67), .val (.ref a75), .unset, .unset, .unset, .unset, .unset, .unset, .unset] []))
          refine Ends.step (fun t k => XS.iload X77.here hx rfl (hb hby at_135) rfl k) ?_
          show Ends _ _ _ _ (T77.setTop (mkF m 137 #[.val (.int p1), .val (.int p2), .val (.int p3), .val (.ref b1), .val (.ref b6), .val (.ref b12), .val (.ref b17), .val (.int (0 : Int32)), .val (.int (1 : Int32)), .val (.ref a67), .val (.ref a75), .unset, .unset, .unset, .unset, .unset, .unset, .unset] [(.int (0 : Int32))]))
          refine Ends.step (fun t k => XS.ifYes X77.here hx rfl (pc0 := 137) (pc' := 148) rfl (hb hby at_137) rfl ((if0 _ _).trans (teq (by decide : ((0 : Int32) = (0 : Int32)))).1) (by decide) (by decide) k) ?_
          show Ends _ _ _ _ (T77.setTop (mkF m 148 #[.val (.int p1), .val (.int p2), .val (.int p3), .val (.ref b1), .val (.ref b6), .val (.ref b12), .val (.ref b17), .val (.int (0 : Int32)), .val (.int (1 : Int32)), .val (.ref a67), .val (.ref a75), .unset, .unset, .unset, .unset, .unset, .unset, .unset] []))
          have F79 : Old Z n0 h77 := (((F19.keep K21 (allS (Nat.le_trans (Nat.le_trans Z0 (Nat.le_trans (Nat.le_trans (Nat.le_trans K11.1 E12.1) (Nat.le_of_eq W14.size.symm)) (Nat.le_of_eq W16.size.symm))) (Nat.le_of_eq g17.symm)) all0)).keep K69 all0).keep K77 all0)
          obtain ⟨_, _, ⟨T80, L80, k80, n80⟩, -, X80, ⟨Lc80, hQ80, l80, y80, z80⟩, st80⟩ := Jvm.LawKit.callS X77 hx (y := (⟨"java/util/Optional", "empty", "()Ljava/util/Optional;"⟩ : MethodName)) hown (mvT hZ (hw _ (List.mem_of_getElem? (i := 46) rfl))) (mvT hZ (hw _ (List.mem_of_getElem? (i := 47) rfl))) (mvT hZ (hw _ (List.mem_of_getElem? (i := 48) rfl))) (mvT hZ (hw _ (List.mem_of_getElem? (i := 49) rfl))) (by decide) (backOf (W := 0) (rmOpE l Z a0 hw []  h77 n0 (Nat.le_trans Z0 (Nat.le_trans (Nat.le_trans (Nat.le_trans K11.1 K22.1) K69.1) K77.1)) G1 O2 P5 eA SE XE FE rZ SZ F79 ) hZ (hw _ (List.mem_of_getElem? (i := 49) rfl)) (hw _ (List.mem_of_getElem? (i := 48) rfl)) (by decide) (by decide)) (g := (mkF m 148 #[.val (.int p1), .val (.int p2), .val (.int p3), .val (.ref b1), .val (.ref b6), .val (.ref b12), .val (.ref b17), .val (.int (0 : Int32)), .val (.int (1 : Int32)), .val (.ref a67), .val (.ref a75), .unset, .unset, .unset, .unset, .unset, .unset, .unset] [])) rfl (by rw [hml]; rfl) (argsL := []) (rest := []) (lenOf pd_5 rfl) rfl (by show 2 * 0 + _ ≤ _; exact Nat.le_of_eq rfl) (hb hby at_148) (fun _ _ => ⟨rfl, e77, (by decide : 8 + 0 ≤ _), (by decide : 22 + 0 ≤ _)⟩)
          dsimp only [Pt.U, Pt.locs, Pt.cells, Pt.slots] at X80 l80 y80 z80 st80 hQ80
          subst l80 y80 z80
          obtain ⟨rfl, Nq80, eh80⟩ := hQ80
          have N80 := Fr.app N77 Nq80
          refine Ends.step st80 ?_
          show Ends _ _ _ _ (T80.setTop (mkF m 151 #[.val (.int p1), .val (.int p2), .val (.int p3), .val (.ref b1), .val (.ref b6), .val (.ref b12), .val (.ref b17), .val (.int (0 : Int32)), .val (.int (1 : Int32)), .val (.ref a67), .val (.ref a75), .unset, .unset, .unset, .unset, .unset, .unset, .unset] [(.ref eA)]))
          refine Ends.step (fun t k => XS.astore X80.here hx rfl (hb hby at_151) rfl rfl (l' := #[.val (.int p1), .val (.int p2), .val (.int p3), .val (.ref b1), .val (.ref b6), .val (.ref b12), .val (.ref b17), .val (.int (0 : Int32)), .val (.int (1 : Int32)), .val (.ref a67), .val (.ref a75), .val (.ref eA), .unset, .unset, .unset, .unset, .unset, .unset]) rfl k) ?_
          show Ends _ _ _ _ (T80.setTop (mkF m 153 #[.val (.int p1), .val (.int p2), .val (.int p3), .val (.ref b1), .val (.ref b6), .val (.ref b12), .val (.ref b17), .val (.int (0 : Int32)), .val (.int (1 : Int32)), .val (.ref a67), .val (.ref a75), .val (.ref eA), .unset, .unset, .unset, .unset, .unset, .unset] []))
          refine Ends.step (fun t k => XS.iload X80.here hx rfl (hb hby at_153) rfl k) ?_
          show Ends _ _ _ _ (T80.setTop (mkF m 155 #[.val (.int p1), .val (.int p2), .val (.int p3), .val (.ref b1), .val (.ref b6), .val (.ref b12), .val (.ref b17), .val (.int (0 : Int32)), .val (.int (1 : Int32)), .val (.ref a67), .val (.ref a75), .val (.ref eA), .unset, .unset, .unset, .unset, .unset, .unset] [(.int (1 : Int32))]))
          refine Ends.step (fun t k => XS.ifNo X80.here hx rfl (hb hby at_155) rfl ((if0 _ _).trans (feq (by decide : ¬ ((1 : Int32) = (0 : Int32)))).1) k) ?_
          show Ends _ _ _ _ (T80.setTop (mkF m 158 #[.val (.int p1), .val (.int p2), .val (.int p3), .val (.ref b1), .val (.ref b6), .val (.ref b12), .val (.ref b17), .val (.int (0 : Int32)), .val (.int (1 : Int32)), .val (.ref a67), .val (.ref a75), .val (.ref eA), .unset, .unset, .unset, .unset, .unset, .unset] []))
          refine Ends.step (fun t k => XS.aload X80.here hx rfl (hb hby at_158) rfl rfl k) ?_
          show Ends _ _ _ _ (T80.setTop (mkF m 160 #[.val (.int p1), .val (.int p2), .val (.int p3), .val (.ref b1), .val (.ref b6), .val (.ref b12), .val (.ref b17), .val (.int (0 : Int32)), .val (.int (1 : Int32)), .val (.ref a67), .val (.ref a75), .val (.ref eA), .unset, .unset, .unset, .unset, .unset, .unset] [(.ref a75)]))
          obtain ⟨_, _, ⟨T81, L81, k81, n81⟩, -, X81, ⟨Lc81, hQ81, l81, y81, z81⟩, st81⟩ := Jvm.LawKit.callS X80 hx (y := (⟨"java/util/Optional", "of", "(Ljava/lang/Object;)Ljava/util/Optional;"⟩ : MethodName)) hown (mvT hZ (hw _ (List.mem_of_getElem? (i := 51) rfl))) (mvT hZ (hw _ (List.mem_of_getElem? (i := 52) rfl))) (mvT hZ (hw _ (List.mem_of_getElem? (i := 48) rfl))) (mvT hZ (hw _ (List.mem_of_getElem? (i := 53) rfl))) (by decide) (backOf (W := 0) (rmOpOf l Z a0 hw [] a75 h77 n0 (Nat.le_trans Z0 (Nat.le_trans (Nat.le_trans (Nat.le_trans K11.1 K22.1) K69.1) K77.1)) G1 O2 P5 eA SE XE FE rZ SZ F79 ) hZ (hw _ (List.mem_of_getElem? (i := 53) rfl)) (hw _ (List.mem_of_getElem? (i := 48) rfl)) (by decide) (by decide)) (g := (mkF m 160 #[.val (.int p1), .val (.int p2), .val (.int p3), .val (.ref b1), .val (.ref b6), .val (.ref b12), .val (.ref b17), .val (.int (0 : Int32)), .val (.int (1 : Int32)), .val (.ref a67), .val (.ref a75), .val (.ref eA), .unset, .unset, .unset, .unset, .unset, .unset] [(.ref a75)])) rfl (by rw [hml]; rfl) (argsL := [(.ref a75)]) (rest := []) (lenOf pd_9 rfl) rfl (by show 2 * 0 + _ ≤ _; exact Nat.le_of_eq rfl) (hb hby at_160) (fun _ _ => ⟨rfl, eh80, (by decide : 8 + 1 ≤ _), (by decide : 22 + 1 ≤ _)⟩)
          dsimp only [Pt.U, Pt.locs, Pt.cells, Pt.slots] at X81 l81 y81 z81 st81 hQ81
          subst l81 y81 z81
          obtain ⟨x_81, rfl, Nq81, K81, f81_0, f81_1, f81_2⟩ := hQ81
          have N81 := Fr.app N80 Nq81
          refine Ends.step st81 ?_
          show Ends _ _ _ _ (T81.setTop (mkF m 163 #[.val (.int p1), .val (.int p2), .val (.int p3), .val (.ref b1), .val (.ref b6), .val (.ref b12), .val (.ref b17), .val (.int (0 : Int32)), .val (.int (1 : Int32)), .val (.ref a67), .val (.ref a75), .val (.ref eA), .unset, .unset, .unset, .unset, .unset, .unset] [(.ref x_81)]))
          refine Ends.step (fun t k => XS.goto X81.here hx rfl (pc0 := 163) (pc' := 169) rfl (hb hby at_163) (by decide) (by decide) k) ?_
          show Ends _ _ _ _ (T81.setTop (mkF m 169 #[.val (.int p1), .val (.int p2), .val (.int p3), .val (.ref b1), .val (.ref b6), .val (.ref b12), .val (.ref b17), .val (.int (0 : Int32)), .val (.int (1 : Int32)), .val (.ref a67), .val (.ref a75), .val (.ref eA), .unset, .unset, .unset, .unset, .unset, .unset] [(.ref x_81)]))
          refine Ends.step (fun t k => XS.astore X81.here hx rfl (hb hby at_169) rfl rfl (l' := #[.val (.int p1), .val (.int p2), .val (.int p3), .val (.ref b1), .val (.ref b6), .val (.ref b12), .val (.ref b17), .val (.int (0 : Int32)), .val (.int (1 : Int32)), .val (.ref a67), .val (.ref a75), .val (.ref eA), .val (.ref x_81), .unset, .unset, .unset, .unset, .unset]) rfl k) ?_
          show Ends _ _ _ _ (T81.setTop (mkF m 171 #[.val (.int p1), .val (.int p2), .val (.int p3), .val (.ref b1), .val (.ref b6), .val (.ref b12), .val (.ref b17), .val (.int (0 : Int32)), .val (.int (1 : Int32)), .val (.ref a67), .val (.ref a75), .val (.ref eA), .val (.ref x_81), .unset, .unset, .unset, .unset, .unset] []))
          obtain ⟨T82, h82, X82, e82, E82, A82, D82, -, st82⟩ := newO X81 hx hZ hown (hw _ (List.mem_of_getElem? (i := 67) rfl)) (hw _ (List.mem_of_getElem? (i := 68) rfl)) (hw _ (List.mem_of_getElem? (i := 69) rfl)) rfl (g := (mkF m 171 #[.val (.int p1), .val (.int p2), .val (.int p3), .val (.ref b1), .val (.ref b6), .val (.ref b12), .val (.ref b17), .val (.int (0 : Int32)), .val (.int (1 : Int32)), .val (.ref a67), .val (.ref a75), .val (.ref eA), .val (.ref x_81), .unset, .unset, .unset, .unset, .unset] [])) rfl (hb hby at_171) (by decide) (by decide)
          obtain ⟨b82, g82⟩ : ∃ z, z = T81.heap.size := ⟨_, rfl⟩
          rw [← g82] at A82 D82 st82
          refine Ends.step st82 ?_
          show Ends _ _ _ _ (T82.setTop (mkF m 174 #[.val (.int p1), .val (.int p2), .val (.int p3), .val (.ref b1), .val (.ref b6), .val (.ref b12), .val (.ref b17), .val (.int (0 : Int32)), .val (.int (1 : Int32)), .val (.ref a67), .val (.ref a75), .val (.ref eA), .val (.ref x_81), .unset, .unset, .unset, .unset, .unset] [(.ref b82)]))
          refine Ends.step (fun t k => XS.dup X82.here hx rfl (hb hby at_174) rfl rfl k) ?_
          show Ends _ _ _ _ (T82.setTop (mkF m 175 #[.val (.int p1), .val (.int p2), .val (.int p3), .val (.ref b1), .val (.ref b6), .val (.ref b12), .val (.ref b17), .val (.int (0 : Int32)), .val (.int (1 : Int32)), .val (.ref a67), .val (.ref a75), .val (.ref eA), .val (.ref x_81), .unset, .unset, .unset, .unset, .unset] [(.ref b82), (.ref b82)]))
          refine Ends.step (fun t k => XS.aload X82.here hx rfl (hb hby at_175) rfl rfl k) ?_
          show Ends _ _ _ _ (T82.setTop (mkF m 177 #[.val (.int p1), .val (.int p2), .val (.int p3), .val (.ref b1), .val (.ref b6), .val (.ref b12), .val (.ref b17), .val (.int (0 : Int32)), .val (.int (1 : Int32)), .val (.ref a67), .val (.ref a75), .val (.ref eA), .val (.ref x_81), .unset, .unset, .unset, .unset, .unset] [(.ref b6), (.ref b82), (.ref b82)]))
          refine Ends.step (fun t k => XS.aload X82.here hx rfl (hb hby at_177) rfl rfl k) ?_
          show Ends _ _ _ _ (T82.setTop (mkF m 179 #[.val (.int p1), .val (.int p2), .val (.int p3), .val (.ref b1), .val (.ref b6), .val (.ref b12), .val (.ref b17), .val (.int (0 : Int32)), .val (.int (1 : Int32)), .val (.ref a67), .val (.ref a75), .val (.ref eA), .val (.ref x_81), .unset, .unset, .unset, .unset, .unset] [(.ref eA), (.ref b6), (.ref b82), (.ref b82)]))
          refine Ends.step (fun t k => XS.aload X82.here hx rfl (hb hby at_179) rfl rfl k) ?_
          show Ends _ _ _ _ (T82.setTop (mkF m 181 #[.val (.int p1), .val (.int p2), .val (.int p3), .val (.ref b1), .val (.ref b6), .val (.ref b12), .val (.ref b17), .val (.int (0 : Int32)), .val (.int (1 : Int32)), .val (.ref a67), .val (.ref a75), .val (.ref eA), .val (.ref x_81), .unset, .unset, .unset, .unset, .unset] [(.ref b17), (.ref eA), (.ref b6), (.ref b82), (.ref b82)]))
          refine Ends.step (fun t k => XS.aload X82.here hx rfl (hb hby at_181) rfl rfl k) ?_
          show Ends _ _ _ _ (T82.setTop (mkF m 183 #[.val (.int p1), .val (.int p2), .val (.int p3), .val (.ref b1), .val (.ref b6), .val (.ref b12), .val (.ref b17), .val (.int (0 : Int32)), .val (.int (1 : Int32)), .val (.ref a67), .val (.ref a75), .val (.ref eA), .val (.ref x_81), .unset, .unset, .unset, .unset, .unset] [(.ref x_81), (.ref b17), (.ref eA), (.ref b6), (.ref b82), (.ref b82)]))
          have F83 : Old Z n0 h82 := ((F79.keep K81 all0).ext E82)
          obtain ⟨_, _, ⟨T84, L84, k84, n84⟩, -, X84, ⟨Lc84, hQ84, l84, y84, z84⟩, st84⟩ := X82.specialBack hx (y := (⟨"com/example/miki_basin/mikibasin/Copy$Held", "<init>", "(Ljava/lang/String;Ljava/util/Optional;Ljava/lang/String;Ljava/util/Optional;)V"⟩ : MethodName)) rfl hown (mvT hZ (hw _ (List.mem_of_getElem? (i := 70) rfl))) (mvT hZ (hw _ (List.mem_of_getElem? (i := 71) rfl))) (mvT hZ (hw _ (List.mem_of_getElem? (i := 72) rfl))) (by decide) (backOf (W := 1) (rmHeldI l Z a0 hw [] b82 (.ref b6) (.ref eA) (.ref b17) (.ref x_81) h82 n0 (Nat.le_trans Z0 (Nat.le_trans (Nat.le_trans (Nat.le_trans (Nat.le_trans (Nat.le_trans K11.1 K22.1) K69.1) K77.1) K81.1) E82.1)) G1 O2 P5 eA SE XE FE rZ SZ F83 rfl rfl rfl rfl A82 (D82 (Or.inr (hw _ (List.mem_of_getElem? (i := 80) rfl))) (ty := (.object "java/lang/String")) (by decide)) (D82 (Or.inr (hw _ (List.mem_of_getElem? (i := 82) rfl))) (ty := (.object "java/util/Optional")) (by decide)) (D82 (Or.inr (hw _ (List.mem_of_getElem? (i := 84) rfl))) (ty := (.object "java/lang/String")) (by decide)) (D82 (Or.inr (hw _ (List.mem_of_getElem? (i := 86) rfl))) (ty := (.object "java/util/Optional")) (by decide)) (Nat.le_trans (Nat.le_trans Z0 (Nat.le_trans (Nat.le_trans (Nat.le_trans (Nat.le_trans K11.1 K22.1) K69.1) K77.1) K81.1)) (Nat.le_of_eq g82.symm))) hZ (hw _ (List.mem_of_getElem? (i := 72) rfl)) (hw _ (List.mem_of_getElem? (i := 69) rfl)) (by decide) (by decide)) (g := (mkF m 183 #[.val (.int p1), .val (.int p2), .val (.int p3), .val (.ref b1), .val (.ref b6), .val (.ref b12), .val (.ref b17), .val (.int (0 : Int32)), .val (.int (1 : Int32)), .val (.ref a67), .val (.ref a75), .val (.ref eA), .val (.ref x_81), .unset, .unset, .unset, .unset, .unset] [(.ref x_81), (.ref b17), (.ref eA), (.ref b6), (.ref b82), (.ref b82)])) rfl (by rw [hml]; rfl) (Steps.refl _) (a := b82) (argsL := [(.ref b6), (.ref eA), (.ref b17), (.ref x_81)]) (rest := [(.ref b82)]) (lenOf pd_12 rfl) rfl (by show 2 * 0 + _ ≤ _; exact Nat.le_of_eq rfl) (hb hby at_183) (fun _ _ => ⟨rfl, e82, (by decide : 10 + 0 ≤ _), (by decide : 27 + 0 ≤ _)⟩)
          dsimp only [Pt.U, Pt.locs, Pt.cells, Pt.slots] at X84 l84 y84 z84 st84 hQ84
          subst l84 y84 z84
          obtain ⟨rfl, Nq84, K84, f84_0, f84_1, f84_2, f84_3, f84_4⟩ := hQ84
          have N84 := Fr.app N81 Nq84
          refine Ends.go st84 ?_
          have K85 : Keep T81.heap T84.heap [] := (((Keep.refl T81.heap []).ext E82).trans K84 (allS (Or.inr (Nat.le_trans (Nat.le_refl _) (Nat.le_of_eq g82.symm))) all0))
          show Ends _ _ _ _ (T84.setTop (mkF m 186 #[.val (.int p1), .val (.int p2), .val (.int p3), .val (.ref b1), .val (.ref b6), .val (.ref b12), .val (.ref b17), .val (.int (0 : Int32)), .val (.int (1 : Int32)), .val (.ref a67), .val (.ref a75), .val (.ref eA), .val (.ref x_81), .unset, .unset, .unset, .unset, .unset] [(.ref b82)]))
          refine Ends.step (fun t k => XS.astore X84.here hx rfl (hb hby at_186) rfl rfl (l' := #[.val (.int p1), .val (.int p2), .val (.int p3), .val (.ref b1), .val (.ref b6), .val (.ref b12), .val (.ref b17), .val (.int (0 : Int32)), .val (.int (1 : Int32)), .val (.ref a67), .val (.ref a75), .val (.ref eA), .val (.ref x_81), .val (.ref b82), .unset, .unset, .unset, .unset]) rfl k) ?_
          show Ends _ _ _ _ (T84.setTop (mkF m 188 #[.val (.int p1), .val (.int p2), .val (.int p3), .val (.ref b1), .val (.ref b6), .val (.ref b12), .val (.ref b17), .val (.int (0 : Int32)), .val (.int (1 : Int32)), .val (.ref a67), .val (.ref a75), .val (.ref eA), .val (.ref x_81), .val (.ref b82), .unset, .unset, .unset, .unset] []))
          refine Ends.step (fun t k => XS.aload X84.here hx rfl (hb hby at_188) rfl rfl k) ?_
          show Ends _ _ _ _ (T84.setTop (mkF m 190 #[.val (.int p1), .val (.int p2), .val (.int p3), .val (.ref b1), .val (.ref b6), .val (.ref b12), .val (.ref b17), .val (.int (0 : Int32)), .val (.int (1 : Int32)), .val (.ref a67), .val (.ref a75), .val (.ref eA), .val (.ref x_81), .val (.ref b82), .unset, .unset, .unset, .unset] [(.ref b82)]))
          have F86 : Exa Z T84.heap eA "java/util/Optional" := (((((((XE.ext X00.2).keep K11).keep K22).keep K69).keep K77).keep K81).keep K85)
          have F87 : Fld Z T84.heap eA "java/util/Optional" "value" "Ljava/lang/Object;" .null := (((((((FE.ext X00.2).keep K11 nin0).keep K22 nin0).keep K69 nin0).keep K77 nin0).keep K81 nin0).keep K85 nin0)
          have F88 : Old Z n0 T84.heap := (F83.keep K84 (allS (Nat.le_trans (Nat.le_trans Z0 (Nat.le_trans (Nat.le_trans (Nat.le_trans (Nat.le_trans K11.1 K22.1) K69.1) K77.1) K81.1)) (Nat.le_of_eq g82.symm)) all0))
          obtain ⟨cq89, kq89, q89a, q89b, q89c⟩ := isOf hZ rfl f84_0
          obtain ⟨_, _, ⟨T89, L89, k89, n89⟩, -, X89, ⟨Lc89, hQ89, l89, y89, z89⟩, st89⟩ := X84.virtualBack hx (y := (⟨"com/example/miki_basin/mikibasin/Copy$Held", "pair", "()Ljava/util/Optional;"⟩ : MethodName)) (z := (⟨"com/example/miki_basin/mikibasin/Copy$Held", "pair", "()Ljava/util/Optional;"⟩ : MethodName)) hown (mvT hZ (hw _ (List.mem_of_getElem? (i := 87) rfl))) (mvT hZ (hw _ (List.mem_of_getElem? (i := 88) rfl))) (notFace_of_selects (args := #[]) (mvT hZ (hw _ (List.mem_of_getElem? (i := 90) rfl)))) (mvT hZ (hw _ (List.mem_of_getElem? (i := 90) rfl))) (mvT hZ (hw _ (List.mem_of_getElem? (i := 89) rfl))) (by decide) (backOf (W := 0) (rmPair_a l Z a0 hw [] b82 eA T84.heap n0 (Nat.le_trans Z0 (Nat.le_trans (Nat.le_trans (Nat.le_trans (Nat.le_trans (Nat.le_trans K11.1 K22.1) K69.1) K77.1) K81.1) K85.1)) G1 O2 P5 eA SE XE FE rZ SZ F88 f84_2 F86 F87) hZ (hw _ (List.mem_of_getElem? (i := 91) rfl)) (hw _ (List.mem_of_getElem? (i := 69) rfl)) (by decide) (by decide)) q89a q89c (g := (mkF m 190 #[.val (.int p1), .val (.int p2), .val (.int p3), .val (.ref b1), .val (.ref b6), .val (.ref b12), .val (.ref b17), .val (.int (0 : Int32)), .val (.int (1 : Int32)), .val (.ref a67), .val (.ref a75), .val (.ref eA), .val (.ref x_81), .val (.ref b82), .unset, .unset, .unset, .unset] [(.ref b82)])) rfl (by rw [hml]; rfl) (Steps.refl _) (argsL := []) (rest := []) (lenOf pd_5 rfl) rfl (by show 2 * 0 + _ ≤ _; exact Nat.le_of_eq rfl) (hb hby at_190) (fun _ _ => ⟨rfl, rfl, (by decide : 10 + 0 ≤ _), (by decide : 27 + 0 ≤ _)⟩)
          dsimp only [Pt.U, Pt.locs, Pt.cells, Pt.slots] at X89 l89 y89 z89 st89 hQ89
          subst l89 y89 z89
          obtain ⟨rfl, Nq89, eh89⟩ := hQ89
          have N89 := Fr.app N84 Nq89
          refine Ends.go st89 ?_
          show Ends _ _ _ _ (T89.setTop (mkF m 193 #[.val (.int p1), .val (.int p2), .val (.int p3), .val (.ref b1), .val (.ref b6), .val (.ref b12), .val (.ref b17), .val (.int (0 : Int32)), .val (.int (1 : Int32)), .val (.ref a67), .val (.ref a75), .val (.ref eA), .val (.ref x_81), .val (.ref b82), .unset, .unset, .unset, .unset] [(.ref eA)]))
          refine Ends.step (fun t k => XS.astore X89.here hx rfl (hb hby at_193) rfl rfl (l' := #[.val (.int p1), .val (.int p2), .val (.int p3), .val (.ref b1), .val (.ref b6), .val (.ref b12), .val (.ref b17), .val (.int (0 : Int32)), .val (.int (1 : Int32)), .val (.ref a67), .val (.ref a75), .val (.ref eA), .val (.ref x_81), .val (.ref b82), .val (.ref eA), .unset, .unset, .unset]) rfl k) ?_
          show Ends _ _ _ _ (T89.setTop (mkF m 195 #[.val (.int p1), .val (.int p2), .val (.int p3), .val (.ref b1), .val (.ref b6), .val (.ref b12), .val (.ref b17), .val (.int (0 : Int32)), .val (.int (1 : Int32)), .val (.ref a67), .val (.ref a75), .val (.ref eA), .val (.ref x_81), .val (.ref b82), .val (.ref eA), .unset, .unset, .unset] []))
          refine Ends.step (fun t k => XS.aload X89.here hx rfl (hb hby at_195) rfl rfl k) ?_
          show Ends _ _ _ _ (T89.setTop (mkF m 197 #[.val (.int p1), .val (.int p2), .val (.int p3), .val (.ref b1), .val (.ref b6), .val (.ref b12), .val (.ref b17), .val (.int (0 : Int32)), .val (.int (1 : Int32)), .val (.ref a67), .val (.ref a75), .val (.ref eA), .val (.ref x_81), .val (.ref b82), .val (.ref eA), .unset, .unset, .unset] [(.ref eA)]))
          refine Ends.step (fun t k => XS.ifnonnullYes X89.here hx rfl (pc0 := 197) (pc' := 202) rfl (hb hby at_197) rfl (by decide) (by decide) k) ?_
          show Ends _ _ _ _ (T89.setTop (mkF m 202 #[.val (.int p1), .val (.int p2), .val (.int p3), .val (.ref b1), .val (.ref b6), .val (.ref b12), .val (.ref b17), .val (.int (0 : Int32)), .val (.int (1 : Int32)), .val (.ref a67), .val (.ref a75), .val (.ref eA), .val (.ref x_81), .val (.ref b82), .val (.ref eA), .unset, .unset, .unset] []))
          refine Ends.step (fun t k => XS.iload X89.here hx rfl (hb hby at_202) rfl k) ?_
          show Ends _ _ _ _ (T89.setTop (mkF m 204 #[.val (.int p1), .val (.int p2), .val (.int p3), .val (.ref b1), .val (.ref b6), .val (.ref b12), .val (.ref b17), .val (.int (0 : Int32)), .val (.int (1 : Int32)), .val (.ref a67), .val (.ref a75), .val (.ref eA), .val (.ref x_81), .val (.ref b82), .val (.ref eA), .unset, .unset, .unset] [(.int (0 : Int32))]))
          refine Ends.step (fun t k => XS.ifYes X89.here hx rfl (pc0 := 204) (pc' := 212) rfl (hb hby at_204) rfl ((if0 _ _).trans (teq (by decide : ((0 : Int32) = (0 : Int32)))).1) (by decide) (by decide) k) ?_
          show Ends _ _ _ _ (T89.setTop (mkF m 212 #[.val (.int p1), .val (.int p2), .val (.int p3), .val (.ref b1), .val (.ref b6), .val (.ref b12), .val (.ref b17), .val (.int (0 : Int32)), .val (.int (1 : Int32)), .val (.ref a67), .val (.ref a75), .val (.ref eA), .val (.ref x_81), .val (.ref b82), .val (.ref eA), .unset, .unset, .unset] []))
          refine Ends.step (fun t k => XS.aload X89.here hx rfl (hb hby at_212) rfl rfl k) ?_
          show Ends _ _ _ _ (T89.setTop (mkF m 214 #[.val (.int p1), .val (.int p2), .val (.int p3), .val (.ref b1), .val (.ref b6), .val (.ref b12), .val (.ref b17), .val (.int (0 : Int32)), .val (.int (1 : Int32)), .val (.ref a67), .val (.ref a75), .val (.ref eA), .val (.ref x_81), .val (.ref b82), .val (.ref eA), .unset, .unset, .unset] [(.ref eA)]))
          obtain ⟨cq90, kq90, q90a, q90b, q90c⟩ := isOf hZ eh89 F86
          obtain ⟨_, _, ⟨T90, L90, k90, n90⟩, -, X90, ⟨Lc90, hQ90, l90, y90, z90⟩, st90⟩ := X89.virtualBack hx (y := (⟨"java/util/Optional", "isPresent", "()Z"⟩ : MethodName)) (z := (⟨"java/util/Optional", "isPresent", "()Z"⟩ : MethodName)) hown (mvT hZ (hw _ (List.mem_of_getElem? (i := 98) rfl))) (mvT hZ (hw _ (List.mem_of_getElem? (i := 99) rfl))) (notFace_of_selects (args := #[]) (mvT hZ (hw _ (List.mem_of_getElem? (i := 101) rfl)))) (mvT hZ (hw _ (List.mem_of_getElem? (i := 101) rfl))) (mvT hZ (hw _ (List.mem_of_getElem? (i := 100) rfl))) (by decide) (backOf (W := 0) (rmOp_isPresent_n l Z a0 hw [] eA T84.heap n0 (Nat.le_trans Z0 (Nat.le_trans (Nat.le_trans (Nat.le_trans (Nat.le_trans (Nat.le_trans K11.1 K22.1) K69.1) K77.1) K81.1) K85.1)) G1 O2 P5 eA SE XE FE rZ SZ F88 F87) hZ (hw _ (List.mem_of_getElem? (i := 102) rfl)) (hw _ (List.mem_of_getElem? (i := 48) rfl)) (by decide) (by decide)) q90a q90c (g := (mkF m 214 #[.val (.int p1), .val (.int p2), .val (.int p3), .val (.ref b1), .val (.ref b6), .val (.ref b12), .val (.ref b17), .val (.int (0 : Int32)), .val (.int (1 : Int32)), .val (.ref a67), .val (.ref a75), .val (.ref eA), .val (.ref x_81), .val (.ref b82), .val (.ref eA), .unset, .unset, .unset] [(.ref eA)])) rfl (by rw [hml]; rfl) (Steps.refl _) (argsL := []) (rest := []) (lenOf pd_4 rfl) rfl (by show 2 * 0 + _ ≤ _; exact Nat.le_of_eq rfl) (hb hby at_214) (fun _ _ => ⟨rfl, eh89, (by decide : 10 + 0 ≤ _), (by decide : 27 + 0 ≤ _)⟩)
          dsimp only [Pt.U, Pt.locs, Pt.cells, Pt.slots] at X90 l90 y90 z90 st90 hQ90
          subst l90 y90 z90
          obtain ⟨rfl, Nq90, eh90⟩ := hQ90
          have N90 := Fr.app N89 Nq90
          refine Ends.go st90 ?_
          show Ends _ _ _ _ (T90.setTop (mkF m 217 #[.val (.int p1), .val (.int p2), .val (.int p3), .val (.ref b1), .val (.ref b6), .val (.ref b12), .val (.ref b17), .val (.int (0 : Int32)), .val (.int (1 : Int32)), .val (.ref a67), .val (.ref a75), .val (.ref eA), .val (.ref x_81), .val (.ref b82), .val (.ref eA), .unset, .unset, .unset] [(.int (0 : Int32))]))
          refine Ends.step (fun t k => XS.ifNo X90.here hx rfl (hb hby at_217) rfl ((if0 _ _).trans (teq (by decide : ((0 : Int32) = (0 : Int32)))).2) k) ?_
          show Ends _ _ _ _ (T90.setTop (mkF m 220 #[.val (.int p1), .val (.int p2), .val (.int p3), .val (.ref b1), .val (.ref b6), .val (.ref b12), .val (.ref b17), .val (.int (0 : Int32)), .val (.int (1 : Int32)), .val (.ref a67), .val (.ref a75), .val (.ref eA), .val (.ref x_81), .val (.ref b82), .val (.ref eA), .unset, .unset, .unset] []))
          refine Ends.step (fun t k => XS.iconst X90.here hx rfl (hb hby at_220) k) ?_
          show Ends _ _ _ _ (T90.setTop (mkF m 221 #[.val (.int p1), .val (.int p2), .val (.int p3), .val (.ref b1), .val (.ref b6), .val (.ref b12), .val (.ref b17), .val (.int (0 : Int32)), .val (.int (1 : Int32)), .val (.ref a67), .val (.ref a75), .val (.ref eA), .val (.ref x_81), .val (.ref b82), .val (.ref eA), .unset, .unset, .unset] [(.int (1 : Int32))]))
          refine Ends.step (fun t k => XS.goto X90.here hx rfl (pc0 := 221) (pc' := 225) rfl (hb hby at_221) (by decide) (by decide) k) ?_
          show Ends _ _ _ _ (T90.setTop (mkF m 225 #[.val (.int p1), .val (.int p2), .val (.int p3), .val (.ref b1), .val (.ref b6), .val (.ref b12), .val (.ref b17), .val (.int (0 : Int32)), .val (.int (1 : Int32)), .val (.ref a67), .val (.ref a75), .val (.ref eA), .val (.ref x_81), .val (.ref b82), .val (.ref eA), .unset, .unset, .unset] [(.int (1 : Int32))]))
          exact own_finI X90 hx hlk (t := .boolean) Bd.returns (by simp) rfl (hb hby at_225) eh90 ⟨rfl, N90, (((((((Keep.refl h0 []).trans K11 all0).trans K22 all0).trans K69 all0).trans K77 all0).trans K81 all0).trans K85 all0)⟩ (by decide) (by decide)
        by_cases c91 : (p3 &&& (8 : Int32)) = (0 : Int32)
        · refine Ends.step (fun t k => XS.ifYes X69.here hx rfl (pc0 := 121) (pc' := 130) rfl (hb hby at_121) rfl ((if0 _ _).trans (teq c91).1) (by decide) (by decide) k) ?_
          show Ends _ _ _ _ (T69.setTop (mkF m 130 #[.val (.int p1), .val (.int p2), .val (.int p3), .val (.ref b1), .val (.ref b6), .val (.ref b12), .val (.ref b17), .val (.int (0 : Int32)), .val (.int (1 : Int32)), .val (.ref a67), .unset, .unset, .unset, .unset, .unset, .unset, .unset, .unset] []))
          have F92 : Old Z n0 h69 := ((F19.keep K21 (allS (Nat.le_trans (Nat.le_trans Z0 (Nat.le_trans (Nat.le_trans (Nat.le_trans K11.1 E12.1) (Nat.le_of_eq W14.size.symm)) (Nat.le_of_eq W16.size.symm))) (Nat.le_of_eq g17.symm)) all0)).keep K69 all0)
          obtain ⟨_, _, ⟨T93, L93, k93, n93⟩, -, X93, ⟨Lc93, hQ93, l93, y93, z93⟩, st93⟩ := Jvm.LawKit.callS X69 hx (y := (⟨"com/example/miki_basin/mikibasin/Figure", "notApplicable", "()Lcom/example/miki_basin/mikibasin/Figure;"⟩ : MethodName)) hown (mvT hZ (hw _ (List.mem_of_getElem? (i := 30) rfl))) (mvT hZ (hw _ (List.mem_of_getElem? (i := 31) rfl))) (mvT hZ (hw _ (List.mem_of_getElem? (i := 32) rfl))) (mvT hZ (hw _ (List.mem_of_getElem? (i := 33) rfl))) (by decide) (backOf (W := 0) (rm_notApplicable l Z a0 hw []  h69 n0 (Nat.le_trans Z0 (Nat.le_trans (Nat.le_trans K11.1 K22.1) K69.1)) G1 O2 P5 eA SE XE FE rZ SZ F92 ) hZ (hw _ (List.mem_of_getElem? (i := 33) rfl)) (hw _ (List.mem_of_getElem? (i := 32) rfl)) (by decide) (by decide)) (g := (mkF m 130 #[.val (.int p1), .val (.int p2), .val (.int p3), .val (.ref b1), .val (.ref b6), .val (.ref b12), .val (.ref b17), .val (.int (0 : Int32)), .val (.int (1 : Int32)), .val (.ref a67), .unset, .unset, .unset, .unset, .unset, .unset, .unset, .unset] [])) rfl (by rw [hml]; rfl) (argsL := []) (rest := []) (lenOf pd_11 rfl) rfl (by show 2 * 0 + _ ≤ _; exact Nat.le_of_eq rfl) (hb hby at_130) (fun _ _ => ⟨rfl, e69, (by decide : 7 + 1 ≤ _), (by decide : 19 + 3 ≤ _)⟩)
          dsimp only [Pt.U, Pt.locs, Pt.cells, Pt.slots] at X93 l93 y93 z93 st93 hQ93
          subst l93 y93 z93
          obtain ⟨x_93, rfl, Nq93, K93, f93_0, f93_1⟩ := hQ93
          have N93 := Fr.app N69 Nq93
          refine Ends.step st93 ?_
          exact J76 x_93 T93 T93.heap _ (own_mono X93 (by decide) (by decide)) rfl N93 ((Keep.refl h69 []).trans K93 all0) f93_1
        · refine Ends.step (fun t k => XS.ifNo X69.here hx rfl (hb hby at_121) rfl ((if0 _ _).trans (feq c91).1) k) ?_
          show Ends _ _ _ _ (T69.setTop (mkF m 124 #[.val (.int p1), .val (.int p2), .val (.int p3), .val (.ref b1), .val (.ref b6), .val (.ref b12), .val (.ref b17), .val (.int (0 : Int32)), .val (.int (1 : Int32)), .val (.ref a67), .unset, .unset, .unset, .unset, .unset, .unset, .unset, .unset] []))
          have F94 : Old Z n0 h69 := ((F19.keep K21 (allS (Nat.le_trans (Nat.le_trans Z0 (Nat.le_trans (Nat.le_trans (Nat.le_trans K11.1 E12.1) (Nat.le_of_eq W14.size.symm)) (Nat.le_of_eq W16.size.symm))) (Nat.le_of_eq g17.symm)) all0)).keep K69 all0)
          obtain ⟨_, _, ⟨T95, L95, k95, n95⟩, -, X95, ⟨Lc95, hQ95, l95, y95, z95⟩, st95⟩ := Jvm.LawKit.callS X69 hx (y := (⟨"com/example/miki_basin/mikibasin/Figure", "blank", "()Lcom/example/miki_basin/mikibasin/Figure;"⟩ : MethodName)) hown (mvT hZ (hw _ (List.mem_of_getElem? (i := 161) rfl))) (mvT hZ (hw _ (List.mem_of_getElem? (i := 162) rfl))) (mvT hZ (hw _ (List.mem_of_getElem? (i := 32) rfl))) (mvT hZ (hw _ (List.mem_of_getElem? (i := 163) rfl))) (by decide) (backOf (W := 0) (rm_blank l Z a0 hw []  h69 n0 (Nat.le_trans Z0 (Nat.le_trans (Nat.le_trans K11.1 K22.1) K69.1)) G1 O2 P5 eA SE XE FE rZ SZ F94 ) hZ (hw _ (List.mem_of_getElem? (i := 163) rfl)) (hw _ (List.mem_of_getElem? (i := 32) rfl)) (by decide) (by decide)) (g := (mkF m 124 #[.val (.int p1), .val (.int p2), .val (.int p3), .val (.ref b1), .val (.ref b6), .val (.ref b12), .val (.ref b17), .val (.int (0 : Int32)), .val (.int (1 : Int32)), .val (.ref a67), .unset, .unset, .unset, .unset, .unset, .unset, .unset, .unset] [])) rfl (by rw [hml]; rfl) (argsL := []) (rest := []) (lenOf pd_11 rfl) rfl (by show 2 * 0 + _ ≤ _; exact Nat.le_of_eq rfl) (hb hby at_124) (fun _ _ => ⟨rfl, e69, (by decide : 7 + 1 ≤ _), (by decide : 19 + 3 ≤ _)⟩)
          dsimp only [Pt.U, Pt.locs, Pt.cells, Pt.slots] at X95 l95 y95 z95 st95 hQ95
          subst l95 y95 z95
          obtain ⟨x_95, rfl, Nq95, K95, f95_0, f95_1⟩ := hQ95
          have N95 := Fr.app N69 Nq95
          refine Ends.step st95 ?_
          show Ends _ _ _ _ (T95.setTop (mkF m 127 #[.val (.int p1), .val (.int p2), .val (.int p3), .val (.ref b1), .val (.ref b6), .val (.ref b12), .val (.ref b17), .val (.int (0 : Int32)), .val (.int (1 : Int32)), .val (.ref a67), .unset, .unset, .unset, .unset, .unset, .unset, .unset, .unset] [(.ref x_95)]))
          refine Ends.step (fun t k => XS.goto X95.here hx rfl (pc0 := 127) (pc' := 133) rfl (hb hby at_127) (by decide) (by decide) k) ?_
          exact J76 x_95 T95 T95.heap _ (own_mono X95 (by decide) (by decide)) rfl N95 ((Keep.refl h69 []).trans K95 all0) f95_1
      by_cases c96 : (p3 &&& (4 : Int32)) = (0 : Int32)
      · refine Ends.step (fun t k => XS.ifYes X21.here hx rfl (pc0 := 103) (pc' := 112) rfl (hb hby at_103) rfl ((if0 _ _).trans (teq c96).1) (by decide) (by decide) k) ?_
        show Ends _ _ _ _ (T21.setTop (mkF m 112 #[.val (.int p1), .val (.int p2), .val (.int p3), .val (.ref b1), .val (.ref b6), .val (.ref b12), .val (.ref b17), .val (.int (0 : Int32)), .val (.int (1 : Int32)), .unset, .unset, .unset, .unset, .unset, .unset, .unset, .unset, .unset] []))
        have F97 : Old Z n0 T21.heap := (F19.keep K21 (allS (Nat.le_trans (Nat.le_trans Z0 (Nat.le_trans (Nat.le_trans (Nat.le_trans K11.1 E12.1) (Nat.le_of_eq W14.size.symm)) (Nat.le_of_eq W16.size.symm))) (Nat.le_of_eq g17.symm)) all0))
        obtain ⟨_, _, ⟨T98, L98, k98, n98⟩, -, X98, ⟨Lc98, hQ98, l98, y98, z98⟩, st98⟩ := Jvm.LawKit.callS X21 hx (y := (⟨"com/example/miki_basin/mikibasin/Figure", "notApplicable", "()Lcom/example/miki_basin/mikibasin/Figure;"⟩ : MethodName)) hown (mvT hZ (hw _ (List.mem_of_getElem? (i := 30) rfl))) (mvT hZ (hw _ (List.mem_of_getElem? (i := 31) rfl))) (mvT hZ (hw _ (List.mem_of_getElem? (i := 32) rfl))) (mvT hZ (hw _ (List.mem_of_getElem? (i := 33) rfl))) (by decide) (backOf (W := 0) (rm_notApplicable l Z a0 hw []  T21.heap n0 (Nat.le_trans Z0 (Nat.le_trans K11.1 K22.1)) G1 O2 P5 eA SE XE FE rZ SZ F97 ) hZ (hw _ (List.mem_of_getElem? (i := 33) rfl)) (hw _ (List.mem_of_getElem? (i := 32) rfl)) (by decide) (by decide)) (g := (mkF m 112 #[.val (.int p1), .val (.int p2), .val (.int p3), .val (.ref b1), .val (.ref b6), .val (.ref b12), .val (.ref b17), .val (.int (0 : Int32)), .val (.int (1 : Int32)), .unset, .unset, .unset, .unset, .unset, .unset, .unset, .unset, .unset] [])) rfl (by rw [hml]; rfl) (argsL := []) (rest := []) (lenOf pd_11 rfl) rfl (by show 2 * 0 + _ ≤ _; exact Nat.le_of_eq rfl) (hb hby at_112) (fun _ _ => ⟨rfl, rfl, (by decide : 6 + 1 ≤ _), (by decide : 16 + 3 ≤ _)⟩)
        dsimp only [Pt.U, Pt.locs, Pt.cells, Pt.slots] at X98 l98 y98 z98 st98 hQ98
        subst l98 y98 z98
        obtain ⟨x_98, rfl, Nq98, K98, f98_0, f98_1⟩ := hQ98
        have N98 := Fr.app N21 Nq98
        refine Ends.step st98 ?_
        exact J68 x_98 T98 T98.heap _ (own_mono X98 (by decide) (by decide)) rfl N98 ((Keep.refl T21.heap []).trans K98 all0) f98_1
      · refine Ends.step (fun t k => XS.ifNo X21.here hx rfl (hb hby at_103) rfl ((if0 _ _).trans (feq c96).1) k) ?_
        show Ends _ _ _ _ (T21.setTop (mkF m 106 #[.val (.int p1), .val (.int p2), .val (.int p3), .val (.ref b1), .val (.ref b6), .val (.ref b12), .val (.ref b17), .val (.int (0 : Int32)), .val (.int (1 : Int32)), .unset, .unset, .unset, .unset, .unset, .unset, .unset, .unset, .unset] []))
        have F99 : Old Z n0 T21.heap := (F19.keep K21 (allS (Nat.le_trans (Nat.le_trans Z0 (Nat.le_trans (Nat.le_trans (Nat.le_trans K11.1 E12.1) (Nat.le_of_eq W14.size.symm)) (Nat.le_of_eq W16.size.symm))) (Nat.le_of_eq g17.symm)) all0))
        obtain ⟨_, _, ⟨T100, L100, k100, n100⟩, -, X100, ⟨Lc100, hQ100, l100, y100, z100⟩, st100⟩ := Jvm.LawKit.callS X21 hx (y := (⟨"com/example/miki_basin/mikibasin/Figure", "blank", "()Lcom/example/miki_basin/mikibasin/Figure;"⟩ : MethodName)) hown (mvT hZ (hw _ (List.mem_of_getElem? (i := 161) rfl))) (mvT hZ (hw _ (List.mem_of_getElem? (i := 162) rfl))) (mvT hZ (hw _ (List.mem_of_getElem? (i := 32) rfl))) (mvT hZ (hw _ (List.mem_of_getElem? (i := 163) rfl))) (by decide) (backOf (W := 0) (rm_blank l Z a0 hw []  T21.heap n0 (Nat.le_trans Z0 (Nat.le_trans K11.1 K22.1)) G1 O2 P5 eA SE XE FE rZ SZ F99 ) hZ (hw _ (List.mem_of_getElem? (i := 163) rfl)) (hw _ (List.mem_of_getElem? (i := 32) rfl)) (by decide) (by decide)) (g := (mkF m 106 #[.val (.int p1), .val (.int p2), .val (.int p3), .val (.ref b1), .val (.ref b6), .val (.ref b12), .val (.ref b17), .val (.int (0 : Int32)), .val (.int (1 : Int32)), .unset, .unset, .unset, .unset, .unset, .unset, .unset, .unset, .unset] [])) rfl (by rw [hml]; rfl) (argsL := []) (rest := []) (lenOf pd_11 rfl) rfl (by show 2 * 0 + _ ≤ _; exact Nat.le_of_eq rfl) (hb hby at_106) (fun _ _ => ⟨rfl, rfl, (by decide : 6 + 1 ≤ _), (by decide : 16 + 3 ≤ _)⟩)
        dsimp only [Pt.U, Pt.locs, Pt.cells, Pt.slots] at X100 l100 y100 z100 st100 hQ100
        subst l100 y100 z100
        obtain ⟨x_100, rfl, Nq100, K100, f100_0, f100_1⟩ := hQ100
        have N100 := Fr.app N21 Nq100
        refine Ends.step st100 ?_
        show Ends _ _ _ _ (T100.setTop (mkF m 109 #[.val (.int p1), .val (.int p2), .val (.int p3), .val (.ref b1), .val (.ref b6), .val (.ref b12), .val (.ref b17), .val (.int (0 : Int32)), .val (.int (1 : Int32)), .unset, .unset, .unset, .unset, .unset, .unset, .unset, .unset, .unset] [(.ref x_100)]))
        refine Ends.step (fun t k => XS.goto X100.here hx rfl (pc0 := 109) (pc' := 115) rfl (hb hby at_109) (by decide) (by decide) k) ?_
        exact J68 x_100 T100 T100.heap _ (own_mono X100 (by decide) (by decide)) rfl N100 ((Keep.refl T21.heap []).trans K100 all0) f100_1
  · refine Ends.step (fun t k => XS.ifNo X21.here hx rfl (hb hby at_77) rfl ((if0 _ _).trans (feq c23).1) k) ?_
    show Ends _ _ _ _ (T21.setTop (mkF m 80 #[.val (.int p1), .val (.int p2), .val (.int p3), .val (.ref b1), .val (.ref b6), .val (.ref b12), .val (.ref b17), .unset, .unset, .unset, .unset, .unset, .unset, .unset, .unset, .unset, .unset, .unset] []))
    refine Ends.step (fun t k => XS.iconst X21.here hx rfl (hb hby at_80) k) ?_
    show Ends _ _ _ _ (T21.setTop (mkF m 81 #[.val (.int p1), .val (.int p2), .val (.int p3), .val (.ref b1), .val (.ref b6), .val (.ref b12), .val (.ref b17), .unset, .unset, .unset, .unset, .unset, .unset, .unset, .unset, .unset, .unset, .unset] [(.int (1 : Int32))]))
    refine Ends.step (fun t k => XS.goto X21.here hx rfl (pc0 := 81) (pc' := 85) rfl (hb hby at_81) (by decide) (by decide) k) ?_
    show Ends _ _ _ _ (T21.setTop (mkF m 85 #[.val (.int p1), .val (.int p2), .val (.int p3), .val (.ref b1), .val (.ref b6), .val (.ref b12), .val (.ref b17), .unset, .unset, .unset, .unset, .unset, .unset, .unset, .unset, .unset, .unset, .unset] [(.int (1 : Int32))]))
    refine Ends.step (fun t k => XS.istore X21.here hx rfl (hb hby at_85) rfl (l' := #[.val (.int p1), .val (.int p2), .val (.int p3), .val (.ref b1), .val (.ref b6), .val (.ref b12), .val (.ref b17), .val (.int (1 : Int32)), .unset, .unset, .unset, .unset, .unset, .unset, .unset, .unset, .unset, .unset]) rfl k) ?_
    show Ends _ _ _ _ (T21.setTop (mkF m 87 #[.val (.int p1), .val (.int p2), .val (.int p3), .val (.ref b1), .val (.ref b6), .val (.ref b12), .val (.ref b17), .val (.int (1 : Int32)), .unset, .unset, .unset, .unset, .unset, .unset, .unset, .unset, .unset, .unset] []))
    refine Ends.step (fun t k => XS.iloadN X21.here hx rfl (hb hby at_87) rfl k) ?_
    show Ends _ _ _ _ (T21.setTop (mkF m 88 #[.val (.int p1), .val (.int p2), .val (.int p3), .val (.ref b1), .val (.ref b6), .val (.ref b12), .val (.ref b17), .val (.int (1 : Int32)), .unset, .unset, .unset, .unset, .unset, .unset, .unset, .unset, .unset, .unset] [(.int p3)]))
    refine Ends.step (fun t k => XS.iconst X21.here hx rfl (hb hby at_88) k) ?_
    show Ends _ _ _ _ (T21.setTop (mkF m 89 #[.val (.int p1), .val (.int p2), .val (.int p3), .val (.ref b1), .val (.ref b6), .val (.ref b12), .val (.ref b17), .val (.int (1 : Int32)), .unset, .unset, .unset, .unset, .unset, .unset, .unset, .unset, .unset, .unset] [(.int (2 : Int32)), (.int p3)]))
    refine Ends.step (fun t k => XS.iand X21.here hx rfl (hb hby at_89) rfl k) ?_
    show Ends _ _ _ _ (T21.setTop (mkF m 90 #[.val (.int p1), .val (.int p2), .val (.int p3), .val (.ref b1), .val (.ref b6), .val (.ref b12), .val (.ref b17), .val (.int (1 : Int32)), .unset, .unset, .unset, .unset, .unset, .unset, .unset, .unset, .unset, .unset] [(.int (p3 &&& (2 : Int32)))]))
    by_cases c101 : (p3 &&& (2 : Int32)) = (0 : Int32)
    · refine Ends.step (fun t k => XS.ifYes X21.here hx rfl (pc0 := 90) (pc' := 97) rfl (hb hby at_90) rfl ((if0 _ _).trans (teq c101).1) (by decide) (by decide) k) ?_
      show Ends _ _ _ _ (T21.setTop (mkF m 97 #[.val (.int p1), .val (.int p2), .val (.int p3), .val (.ref b1), .val (.ref b6), .val (.ref b12), .val (.ref b17), .val (.int (1 : Int32)), .unset, .unset, .unset, .unset, .unset, .unset, .unset, .unset, .unset, .unset] []))
      refine Ends.step (fun t k => XS.iconst X21.here hx rfl (hb hby at_97) k) ?_
      show Ends _ _ _ _ (T21.setTop (mkF m 98 #[.val (.int p1), .val (.int p2), .val (.int p3), .val (.ref b1), .val (.ref b6), .val (.ref b12), .val (.ref b17), .val (.int (1 : Int32)), .unset, .unset, .unset, .unset, .unset, .unset, .unset, .unset, .unset, .unset] [(.int (0 : Int32))]))
      refine Ends.step (fun t k => XS.istore X21.here hx rfl (hb hby at_98) rfl (l' := #[.val (.int p1), .val (.int p2), .val (.int p3), .val (.ref b1), .val (.ref b6), .val (.ref b12), .val (.ref b17), .val (.int (1 : Int32)), .val (.int (0 : Int32)), .unset, .unset, .unset, .unset, .unset, .unset, .unset, .unset, .unset]) rfl k) ?_
      show Ends _ _ _ _ (T21.setTop (mkF m 100 #[.val (.int p1), .val (.int p2), .val (.int p3), .val (.ref b1), .val (.ref b6), .val (.ref b12), .val (.ref b17), .val (.int (1 : Int32)), .val (.int (0 : Int32)), .unset, .unset, .unset, .unset, .unset, .unset, .unset, .unset, .unset] []))
      refine Ends.step (fun t k => XS.iloadN X21.here hx rfl (hb hby at_100) rfl k) ?_
      show Ends _ _ _ _ (T21.setTop (mkF m 101 #[.val (.int p1), .val (.int p2), .val (.int p3), .val (.ref b1), .val (.ref b6), .val (.ref b12), .val (.ref b17), .val (.int (1 : Int32)), .val (.int (0 : Int32)), .unset, .unset, .unset, .unset, .unset, .unset, .unset, .unset, .unset] [(.int p3)]))
      refine Ends.step (fun t k => XS.iconst X21.here hx rfl (hb hby at_101) k) ?_
      show Ends _ _ _ _ (T21.setTop (mkF m 102 #[.val (.int p1), .val (.int p2), .val (.int p3), .val (.ref b1), .val (.ref b6), .val (.ref b12), .val (.ref b17), .val (.int (1 : Int32)), .val (.int (0 : Int32)), .unset, .unset, .unset, .unset, .unset, .unset, .unset, .unset, .unset] [(.int (4 : Int32)), (.int p3)]))
      refine Ends.step (fun t k => XS.iand X21.here hx rfl (hb hby at_102) rfl k) ?_
      show Ends _ _ _ _ (T21.setTop (mkF m 103 #[.val (.int p1), .val (.int p2), .val (.int p3), .val (.ref b1), .val (.ref b6), .val (.ref b12), .val (.ref b17), .val (.int (1 : Int32)), .val (.int (0 : Int32)), .unset, .unset, .unset, .unset, .unset, .unset, .unset, .unset, .unset] [(.int (p3 &&& (4 : Int32)))]))
      have J107 : ∀ (a106 : Addr) (T108 : State) (h108 : Heap) (L108 : List Loc) (X108 : Stand p l e room_1 s m #[(.int p1), (.int p2), (.int p3)] below meth c T108 L108 7 19) (e108 : T108.heap = h108) (N108 : Fr n0 L108) (K108 : Keep T21.heap h108 []) (jf109 : Exa Z h108 a106 "com/example/miki_basin/mikibasin/Figure"), Ends p.tables e below (fun o U' => ∃ v L, o = .returned v ∧ Qrm0 Z p1 p2 p3 h0 n0 v U'.heap L ∧ FrameEnd s o U' L 40 192) (T108.setTop (mkF m 115 #[.val (.int p1), .val (.int p2), .val (.int p3), .val (.ref b1), .val (.ref b6), .val (.ref b12), .val (.ref b17), .val (.int (1 : Int32)), .val (.int (0 : Int32)), .unset, .unset, .unset, .unset, .unset, .unset, .unset, .unset, .unset] [(.ref a106)])) := by
        intro a106 T108 h108 L108 X108 e108 N108 K108 jf109
        show Ends _ _ _ _ (T108.setTop (mkF m 115 #[.val (.int p1), .val (.int p2), .val (.int p3), .val (.ref b1), .val (.ref b6), .val (.ref b12), .val (.ref b17), .val (.int (1 : Int32)), .val (.int (0 : Int32)), .unset, .unset, .unset, .unset, .unset, .unset, .unset, .unset, .unset] [(.ref a106)]))
        refine Ends.step (fun t k => XS.astore X108.here hx rfl (hb hby at_115) rfl rfl (l' := #[.val (.int p1), .val (.int p2), .val (.int p3), .val (.ref b1), .val (.ref b6), .val (.ref b12), .val (.ref b17), .val (.int (1 : Int32)), .val (.int (0 : Int32)), .val (.ref a106), .unset, .unset, .unset, .unset, .unset, .unset, .unset, .unset]) rfl k) ?_
        show Ends _ _ _ _ (T108.setTop (mkF m 117 #[.val (.int p1), .val (.int p2), .val (.int p3), .val (.ref b1), .val (.ref b6), .val (.ref b12), .val (.ref b17), .val (.int (1 : Int32)), .val (.int (0 : Int32)), .val (.ref a106), .unset, .unset, .unset, .unset, .unset, .unset, .unset, .unset] []))
        refine Ends.step (fun t k => XS.iloadN X108.here hx rfl (hb hby at_117) rfl k) ?_
        show Ends _ _ _ _ (T108.setTop (mkF m 118 #[.val (.int p1), .val (.int p2), .val (.int p3), .val (.ref b1), .val (.ref b6), .val (.ref b12), .val (.ref b17), .val (.int (1 : Int32)), .val (.int (0 : Int32)), .val (.ref a106), .unset, .unset, .unset, .unset, .unset, .unset, .unset, .unset] [(.int p3)]))
        refine Ends.step (fun t k => XS.bipush X108.here hx rfl (hb hby at_118) k) ?_
        show Ends _ _ _ _ (T108.setTop (mkF m 120 #[.val (.int p1), .val (.int p2), .val (.int p3), .val (.ref b1), .val (.ref b6), .val (.ref b12), .val (.ref b17), .val (.int (1 : Int32)), .val (.int (0 : Int32)), .val (.ref a106), .unset, .unset, .unset, .unset, .unset, .unset, .unset, .unset] [(.int (8 : Int32)), (.int p3)]))
        refine Ends.step (fun t k => XS.iand X108.here hx rfl (hb hby at_120) rfl k) ?_
        show Ends _ _ _ _ (T108.setTop (mkF m 121 #[.val (.int p1), .val (.int p2), .val (.int p3), .val (.ref b1), .val (.ref b6), .val (.ref b12), .val (.ref b17), .val (.int (1 : Int32)), .val (.int (0 : Int32)), .val (.ref a106), .unset, .unset, .unset, .unset, .unset, .unset, .unset, .unset] [(.int (p3 &&& (8 : Int32)))]))
        have J115 : ∀ (a114 : Addr) (T116 : State) (h116 : Heap) (L116 : List Loc) (X116 : Stand p l e room_1 s m #[(.int p1), (.int p2), (.int p3)] below meth c T116 L116 8 22) (e116 : T116.heap = h116) (N116 : Fr n0 L116) (K116 : Keep h108 h116 []) (jf117 : Exa Z h116 a114 "com/example/miki_basin/mikibasin/Figure"), Ends p.tables e below (fun o U' => ∃ v L, o = .returned v ∧ Qrm0 Z p1 p2 p3 h0 n0 v U'.heap L ∧ FrameEnd s o U' L 40 192) (T116.setTop (mkF m 133 #[.val (.int p1), .val (.int p2), .val (.int p3), .val (.ref b1), .val (.ref b6), .val (.ref b12), .val (.ref b17), .val (.int (1 : Int32)), .val (.int (0 : Int32)), .val (.ref a106), .unset, .unset, .unset, .unset, .unset, .unset, .unset, .unset] [(.ref a114)])) := by
          intro a114 T116 h116 L116 X116 e116 N116 K116 jf117
          show Ends _ _ _ _ (T116.setTop (mkF m 133 #[.val (.int p1), .val (.int p2), .val (.int p3), .val (.ref b1), .val (.ref b6), .val (.ref b12), .val (.ref b17), .val (.int (1 : Int32)), .val (.int (0 : Int32)), .val (.ref a106), .unset, .unset, .unset, .unset, .unset, .unset, .unset, .unset] [(.ref a114)]))
          refine Ends.step (fun t k => XS.astore X116.here hx rfl (hb hby at_133) rfl rfl (l' := #[.val (.int p1), .val (.int p2), .val (.int p3), .val (.ref b1), .val (.ref b6), .val (.ref b12), .val (.ref b17), .val (.int (1 : Int32)), .val (.int (0 : Int32)), .val (.ref a106), .val (.ref a114), .unset, .unset, .unset, .unset, .unset, .unset, .unset]) rfl k) ?_
          show Ends _ _ _ _ (T116.setTop (mkF m 135 #[.val (.int p1), .val (.int p2), .val (.int p3), .val (.ref b1), .val (.ref b6), .val (.ref b12), .val (.ref b17), .val (.int (1 : Int32)), .val (.int (0 : Int32)), .val (.ref a106), .val (.ref a114), .unset, .unset, .unset, .unset, .unset, .unset, .unset] []))
          refine Ends.step (fun t k => XS.iload X116.here hx rfl (hb hby at_135) rfl k) ?_
          show Ends _ _ _ _ (T116.setTop (mkF m 137 #[.val (.int p1), .val (.int p2), .val (.int p3), .val (.ref b1), .val (.ref b6), .val (.ref b12), .val (.ref b17), .val (.int (1 : Int32)), .val (.int (0 : Int32)), .val (.ref a106), .val (.ref a114), .unset, .unset, .unset, .unset, .unset, .unset, .unset] [(.int (1 : Int32))]))
          refine Ends.step (fun t k => XS.ifNo X116.here hx rfl (hb hby at_137) rfl ((if0 _ _).trans (feq (by decide : ¬ ((1 : Int32) = (0 : Int32)))).1) k) ?_
          show Ends _ _ _ _ (T116.setTop (mkF m 140 #[.val (.int p1), .val (.int p2), .val (.int p3), .val (.ref b1), .val (.ref b6), .val (.ref b12), .val (.ref b17), .val (.int (1 : Int32)), .val (.int (0 : Int32)), .val (.ref a106), .val (.ref a114), .unset, .unset, .unset, .unset, .unset, .unset, .unset] []))
          refine Ends.step (fun t k => XS.aload X116.here hx rfl (hb hby at_140) rfl rfl k) ?_
          show Ends _ _ _ _ (T116.setTop (mkF m 142 #[.val (.int p1), .val (.int p2), .val (.int p3), .val (.ref b1), .val (.ref b6), .val (.ref b12), .val (.ref b17), .val (.int (1 : Int32)), .val (.int (0 : Int32)), .val (.ref a106), .val (.ref a114), .unset, .unset, .unset, .unset, .unset, .unset, .unset] [(.ref a106)]))
          have F118 : Old Z n0 h116 := (((F19.keep K21 (allS (Nat.le_trans (Nat.le_trans Z0 (Nat.le_trans (Nat.le_trans (Nat.le_trans K11.1 E12.1) (Nat.le_of_eq W14.size.symm)) (Nat.le_of_eq W16.size.symm))) (Nat.le_of_eq g17.symm)) all0)).keep K108 all0).keep K116 all0)
          obtain ⟨_, _, ⟨T119, L119, k119, n119⟩, -, X119, ⟨Lc119, hQ119, l119, y119, z119⟩, st119⟩ := Jvm.LawKit.callS X116 hx (y := (⟨"java/util/Optional", "of", "(Ljava/lang/Object;)Ljava/util/Optional;"⟩ : MethodName)) hown (mvT hZ (hw _ (List.mem_of_getElem? (i := 51) rfl))) (mvT hZ (hw _ (List.mem_of_getElem? (i := 52) rfl))) (mvT hZ (hw _ (List.mem_of_getElem? (i := 48) rfl))) (mvT hZ (hw _ (List.mem_of_getElem? (i := 53) rfl))) (by decide) (backOf (W := 0) (rmOpOf l Z a0 hw [] a106 h116 n0 (Nat.le_trans Z0 (Nat.le_trans (Nat.le_trans (Nat.le_trans K11.1 K22.1) K108.1) K116.1)) G1 O2 P5 eA SE XE FE rZ SZ F118 ) hZ (hw _ (List.mem_of_getElem? (i := 53) rfl)) (hw _ (List.mem_of_getElem? (i := 48) rfl)) (by decide) (by decide)) (g := (mkF m 142 #[.val (.int p1), .val (.int p2), .val (.int p3), .val (.ref b1), .val (.ref b6), .val (.ref b12), .val (.ref b17), .val (.int (1 : Int32)), .val (.int (0 : Int32)), .val (.ref a106), .val (.ref a114), .unset, .unset, .unset, .unset, .unset, .unset, .unset] [(.ref a106)])) rfl (by rw [hml]; rfl) (argsL := [(.ref a106)]) (rest := []) (lenOf pd_9 rfl) rfl (by show 2 * 0 + _ ≤ _; exact Nat.le_of_eq rfl) (hb hby at_142) (fun _ _ => ⟨rfl, e116, (by decide : 8 + 1 ≤ _), (by decide : 22 + 1 ≤ _)⟩)
          dsimp only [Pt.U, Pt.locs, Pt.cells, Pt.slots] at X119 l119 y119 z119 st119 hQ119
          subst l119 y119 z119
          obtain ⟨x_119, rfl, Nq119, K119, f119_0, f119_1, f119_2⟩ := hQ119
          have N119 := Fr.app N116 Nq119
          refine Ends.step st119 ?_
          show Ends _ _ _ _ (T119.setTop (mkF m 145 #[.val (.int p1), .val (.int p2), .val (.int p3), .val (.ref b1), .val (.ref b6), .val (.ref b12), .val (.ref b17), .val (.int (1 : Int32)), .val (.int (0 : Int32)), .val (.ref a106), .val (.ref a114), .unset, .unset, .unset, .unset, .unset, .unset, .unset] [(.ref x_119)]))
          refine Ends.step (fun t k => XS.goto X119.here hx rfl (pc0 := 145) (pc' := 151) rfl (hb hby at_145) (by decide) (by decide) k) ?_
          show Ends _ _ _ _ (T119.setTop (mkF m 151 #[.val (.int p1), .val (.int p2), .val (.int p3), .val (.ref b1), .val (.ref b6), .val (.ref b12), .val (.ref b17), .val (.int (1 : Int32)), .val (.int (0 : Int32)), .val (.ref a106), .val (.ref a114), .unset, .unset, .unset, .unset, .unset, .unset, .unset] [(.ref x_119)]))
          refine Ends.step (fun t k => XS.astore X119.here hx rfl (hb hby at_151) rfl rfl (l' := #[.val (.int p1), .val (.int p2), .val (.int p3), .val (.ref b1), .val (.ref b6), .val (.ref b12), .val (.ref b17), .val (.int (1 : Int32)), .val (.int (0 : Int32)), .val (.ref a106), .val (.ref a114), .val (.ref x_119), .unset, .unset, .unset, .unset, .unset, .unset]) rfl k) ?_
          show Ends _ _ _ _ (T119.setTop (mkF m 153 #[.val (.int p1), .val (.int p2), .val (.int p3), .val (.ref b1), .val (.ref b6), .val (.ref b12), .val (.ref b17), .val (.int (1 : Int32)), .val (.int (0 : Int32)), .val (.ref a106), .val (.ref a114), .val (.ref x_119), .unset, .unset, .unset, .unset, .unset, .unset] []))
          refine Ends.step (fun t k => XS.iload X119.here hx rfl (hb hby at_153) rfl k) ?_
          show Ends _ _ _ _ (T119.setTop (mkF m 155 #[.val (.int p1), .val (.int p2), .val (.int p3), .val (.ref b1), .val (.ref b6), .val (.ref b12), .val (.ref b17), .val (.int (1 : Int32)), .val (.int (0 : Int32)), .val (.ref a106), .val (.ref a114), .val (.ref x_119), .unset, .unset, .unset, .unset, .unset, .unset] [(.int (0 : Int32))]))
          refine Ends.step (fun t k => XS.ifYes X119.here hx rfl (pc0 := 155) (pc' := 166) rfl (hb hby at_155) rfl ((if0 _ _).trans (teq (by decide : ((0 : Int32) = (0 : Int32)))).1) (by decide) (by decide) k) ?_
          show Ends _ _ _ _ (T119.setTop (mkF m 166 #[.val (.int p1), .val (.int p2), .val (.int p3), .val (.ref b1), .val (.ref b6), .val (.ref b12), .val (.ref b17), .val (.int (1 : Int32)), .val (.int (0 : Int32)), .val (.ref a106), .val (.ref a114), .val (.ref x_119), .unset, .unset, .unset, .unset, .unset, .unset] []))
          have F120 : Old Z n0 T119.heap := (F118.keep K119 all0)
          obtain ⟨_, _, ⟨T121, L121, k121, n121⟩, -, X121, ⟨Lc121, hQ121, l121, y121, z121⟩, st121⟩ := Jvm.LawKit.callS X119 hx (y := (⟨"java/util/Optional", "empty", "()Ljava/util/Optional;"⟩ : MethodName)) hown (mvT hZ (hw _ (List.mem_of_getElem? (i := 46) rfl))) (mvT hZ (hw _ (List.mem_of_getElem? (i := 47) rfl))) (mvT hZ (hw _ (List.mem_of_getElem? (i := 48) rfl))) (mvT hZ (hw _ (List.mem_of_getElem? (i := 49) rfl))) (by decide) (backOf (W := 0) (rmOpE l Z a0 hw []  T119.heap n0 (Nat.le_trans Z0 (Nat.le_trans (Nat.le_trans (Nat.le_trans (Nat.le_trans K11.1 K22.1) K108.1) K116.1) K119.1)) G1 O2 P5 eA SE XE FE rZ SZ F120 ) hZ (hw _ (List.mem_of_getElem? (i := 49) rfl)) (hw _ (List.mem_of_getElem? (i := 48) rfl)) (by decide) (by decide)) (g := (mkF m 166 #[.val (.int p1), .val (.int p2), .val (.int p3), .val (.ref b1), .val (.ref b6), .val (.ref b12), .val (.ref b17), .val (.int (1 : Int32)), .val (.int (0 : Int32)), .val (.ref a106), .val (.ref a114), .val (.ref x_119), .unset, .unset, .unset, .unset, .unset, .unset] [])) rfl (by rw [hml]; rfl) (argsL := []) (rest := []) (lenOf pd_5 rfl) rfl (by show 2 * 0 + _ ≤ _; exact Nat.le_of_eq rfl) (hb hby at_166) (fun _ _ => ⟨rfl, rfl, (by decide : 9 + 0 ≤ _), (by decide : 23 + 0 ≤ _)⟩)
          dsimp only [Pt.U, Pt.locs, Pt.cells, Pt.slots] at X121 l121 y121 z121 st121 hQ121
          subst l121 y121 z121
          obtain ⟨rfl, Nq121, eh121⟩ := hQ121
          have N121 := Fr.app N119 Nq121
          refine Ends.step st121 ?_
          show Ends _ _ _ _ (T121.setTop (mkF m 169 #[.val (.int p1), .val (.int p2), .val (.int p3), .val (.ref b1), .val (.ref b6), .val (.ref b12), .val (.ref b17), .val (.int (1 : Int32)), .val (.int (0 : Int32)), .val (.ref a106), .val (.ref a114), .val (.ref x_119), .unset, .unset, .unset, .unset, .unset, .unset] [(.ref eA)]))
          refine Ends.step (fun t k => XS.astore X121.here hx rfl (hb hby at_169) rfl rfl (l' := #[.val (.int p1), .val (.int p2), .val (.int p3), .val (.ref b1), .val (.ref b6), .val (.ref b12), .val (.ref b17), .val (.int (1 : Int32)), .val (.int (0 : Int32)), .val (.ref a106), .val (.ref a114), .val (.ref x_119), .val (.ref eA), .unset, .unset, .unset, .unset, .unset]) rfl k) ?_
          show Ends _ _ _ _ (T121.setTop (mkF m 171 #[.val (.int p1), .val (.int p2), .val (.int p3), .val (.ref b1), .val (.ref b6), .val (.ref b12), .val (.ref b17), .val (.int (1 : Int32)), .val (.int (0 : Int32)), .val (.ref a106), .val (.ref a114), .val (.ref x_119), .val (.ref eA), .unset, .unset, .unset, .unset, .unset] []))
          obtain ⟨T122, h122, X122, e122, E122, A122, D122, -, st122⟩ := newO X121 hx hZ hown (hw _ (List.mem_of_getElem? (i := 67) rfl)) (hw _ (List.mem_of_getElem? (i := 68) rfl)) (hw _ (List.mem_of_getElem? (i := 69) rfl)) eh121 (g := (mkF m 171 #[.val (.int p1), .val (.int p2), .val (.int p3), .val (.ref b1), .val (.ref b6), .val (.ref b12), .val (.ref b17), .val (.int (1 : Int32)), .val (.int (0 : Int32)), .val (.ref a106), .val (.ref a114), .val (.ref x_119), .val (.ref eA), .unset, .unset, .unset, .unset, .unset] [])) rfl (hb hby at_171) (by decide) (by decide)
          obtain ⟨b122, g122⟩ : ∃ z, z = T119.heap.size := ⟨_, rfl⟩
          rw [← g122] at A122 D122 st122
          refine Ends.step st122 ?_
          show Ends _ _ _ _ (T122.setTop (mkF m 174 #[.val (.int p1), .val (.int p2), .val (.int p3), .val (.ref b1), .val (.ref b6), .val (.ref b12), .val (.ref b17), .val (.int (1 : Int32)), .val (.int (0 : Int32)), .val (.ref a106), .val (.ref a114), .val (.ref x_119), .val (.ref eA), .unset, .unset, .unset, .unset, .unset] [(.ref b122)]))
          refine Ends.step (fun t k => XS.dup X122.here hx rfl (hb hby at_174) rfl rfl k) ?_
          show Ends _ _ _ _ (T122.setTop (mkF m 175 #[.val (.int p1), .val (.int p2), .val (.int p3), .val (.ref b1), .val (.ref b6), .val (.ref b12), .val (.ref b17), .val (.int (1 : Int32)), .val (.int (0 : Int32)), .val (.ref a106), .val (.ref a114), .val (.ref x_119), .val (.ref eA), .unset, .unset, .unset, .unset, .unset] [(.ref b122), (.ref b122)]))
          refine Ends.step (fun t k => XS.aload X122.here hx rfl (hb hby at_175) rfl rfl k) ?_
          show Ends _ _ _ _ (T122.setTop (mkF m 177 #[.val (.int p1), .val (.int p2), .val (.int p3), .val (.ref b1), .val (.ref b6), .val (.ref b12), .val (.ref b17), .val (.int (1 : Int32)), .val (.int (0 : Int32)), .val (.ref a106), .val (.ref a114), .val (.ref x_119), .val (.ref eA), .unset, .unset, .unset, .unset, .unset] [(.ref b6), (.ref b122), (.ref b122)]))
          refine Ends.step (fun t k => XS.aload X122.here hx rfl (hb hby at_177) rfl rfl k) ?_
          show Ends _ _ _ _ (T122.setTop (mkF m 179 #[.val (.int p1), .val (.int p2), .val (.int p3), .val (.ref b1), .val (.ref b6), .val (.ref b12), .val (.ref b17), .val (.int (1 : Int32)), .val (.int (0 : Int32)), .val (.ref a106), .val (.ref a114), .val (.ref x_119), .val (.ref eA), .unset, .unset, .unset, .unset, .unset] [(.ref x_119), (.ref b6), (.ref b122), (.ref b122)]))
          refine Ends.step (fun t k => XS.aload X122.here hx rfl (hb hby at_179) rfl rfl k) ?_
          show Ends _ _ _ _ (T122.setTop (mkF m 181 #[.val (.int p1), .val (.int p2), .val (.int p3), .val (.ref b1), .val (.ref b6), .val (.ref b12), .val (.ref b17), .val (.int (1 : Int32)), .val (.int (0 : Int32)), .val (.ref a106), .val (.ref a114), .val (.ref x_119), .val (.ref eA), .unset, .unset, .unset, .unset, .unset] [(.ref b17), (.ref x_119), (.ref b6), (.ref b122), (.ref b122)]))
          refine Ends.step (fun t k => XS.aload X122.here hx rfl (hb hby at_181) rfl rfl k) ?_
          show Ends _ _ _ _ (T122.setTop (mkF m 183 #[.val (.int p1), .val (.int p2), .val (.int p3), .val (.ref b1), .val (.ref b6), .val (.ref b12), .val (.ref b17), .val (.int (1 : Int32)), .val (.int (0 : Int32)), .val (.ref a106), .val (.ref a114), .val (.ref x_119), .val (.ref eA), .unset, .unset, .unset, .unset, .unset] [(.ref eA), (.ref b17), (.ref x_119), (.ref b6), (.ref b122), (.ref b122)]))
          have F123 : Old Z n0 h122 := (F120.ext E122)
          obtain ⟨_, _, ⟨T124, L124, k124, n124⟩, -, X124, ⟨Lc124, hQ124, l124, y124, z124⟩, st124⟩ := X122.specialBack hx (y := (⟨"com/example/miki_basin/mikibasin/Copy$Held", "<init>", "(Ljava/lang/String;Ljava/util/Optional;Ljava/lang/String;Ljava/util/Optional;)V"⟩ : MethodName)) rfl hown (mvT hZ (hw _ (List.mem_of_getElem? (i := 70) rfl))) (mvT hZ (hw _ (List.mem_of_getElem? (i := 71) rfl))) (mvT hZ (hw _ (List.mem_of_getElem? (i := 72) rfl))) (by decide) (backOf (W := 1) (rmHeldI l Z a0 hw [] b122 (.ref b6) (.ref x_119) (.ref b17) (.ref eA) h122 n0 (Nat.le_trans Z0 (Nat.le_trans (Nat.le_trans (Nat.le_trans (Nat.le_trans (Nat.le_trans K11.1 K22.1) K108.1) K116.1) K119.1) E122.1)) G1 O2 P5 eA SE XE FE rZ SZ F123 rfl rfl rfl rfl A122 (D122 (Or.inr (hw _ (List.mem_of_getElem? (i := 80) rfl))) (ty := (.object "java/lang/String")) (by decide)) (D122 (Or.inr (hw _ (List.mem_of_getElem? (i := 82) rfl))) (ty := (.object "java/util/Optional")) (by decide)) (D122 (Or.inr (hw _ (List.mem_of_getElem? (i := 84) rfl))) (ty := (.object "java/lang/String")) (by decide)) (D122 (Or.inr (hw _ (List.mem_of_getElem? (i := 86) rfl))) (ty := (.object "java/util/Optional")) (by decide)) (Nat.le_trans (Nat.le_trans Z0 (Nat.le_trans (Nat.le_trans (Nat.le_trans (Nat.le_trans K11.1 K22.1) K108.1) K116.1) K119.1)) (Nat.le_of_eq g122.symm))) hZ (hw _ (List.mem_of_getElem? (i := 72) rfl)) (hw _ (List.mem_of_getElem? (i := 69) rfl)) (by decide) (by decide)) (g := (mkF m 183 #[.val (.int p1), .val (.int p2), .val (.int p3), .val (.ref b1), .val (.ref b6), .val (.ref b12), .val (.ref b17), .val (.int (1 : Int32)), .val (.int (0 : Int32)), .val (.ref a106), .val (.ref a114), .val (.ref x_119), .val (.ref eA), .unset, .unset, .unset, .unset, .unset] [(.ref eA), (.ref b17), (.ref x_119), (.ref b6), (.ref b122), (.ref b122)])) rfl (by rw [hml]; rfl) (Steps.refl _) (a := b122) (argsL := [(.ref b6), (.ref x_119), (.ref b17), (.ref eA)]) (rest := [(.ref b122)]) (lenOf pd_12 rfl) rfl (by show 2 * 0 + _ ≤ _; exact Nat.le_of_eq rfl) (hb hby at_183) (fun _ _ => ⟨rfl, e122, (by decide : 10 + 0 ≤ _), (by decide : 27 + 0 ≤ _)⟩)
          dsimp only [Pt.U, Pt.locs, Pt.cells, Pt.slots] at X124 l124 y124 z124 st124 hQ124
          subst l124 y124 z124
          obtain ⟨rfl, Nq124, K124, f124_0, f124_1, f124_2, f124_3, f124_4⟩ := hQ124
          have N124 := Fr.app N121 Nq124
          refine Ends.go st124 ?_
          have K125 : Keep T119.heap T124.heap [] := (((Keep.refl T119.heap []).ext E122).trans K124 (allS (Or.inr (Nat.le_trans (Nat.le_refl _) (Nat.le_of_eq g122.symm))) all0))
          show Ends _ _ _ _ (T124.setTop (mkF m 186 #[.val (.int p1), .val (.int p2), .val (.int p3), .val (.ref b1), .val (.ref b6), .val (.ref b12), .val (.ref b17), .val (.int (1 : Int32)), .val (.int (0 : Int32)), .val (.ref a106), .val (.ref a114), .val (.ref x_119), .val (.ref eA), .unset, .unset, .unset, .unset, .unset] [(.ref b122)]))
          refine Ends.step (fun t k => XS.astore X124.here hx rfl (hb hby at_186) rfl rfl (l' := #[.val (.int p1), .val (.int p2), .val (.int p3), .val (.ref b1), .val (.ref b6), .val (.ref b12), .val (.ref b17), .val (.int (1 : Int32)), .val (.int (0 : Int32)), .val (.ref a106), .val (.ref a114), .val (.ref x_119), .val (.ref eA), .val (.ref b122), .unset, .unset, .unset, .unset]) rfl k) ?_
          show Ends _ _ _ _ (T124.setTop (mkF m 188 #[.val (.int p1), .val (.int p2), .val (.int p3), .val (.ref b1), .val (.ref b6), .val (.ref b12), .val (.ref b17), .val (.int (1 : Int32)), .val (.int (0 : Int32)), .val (.ref a106), .val (.ref a114), .val (.ref x_119), .val (.ref eA), .val (.ref b122), .unset, .unset, .unset, .unset] []))
          refine Ends.step (fun t k => XS.aload X124.here hx rfl (hb hby at_188) rfl rfl k) ?_
          show Ends _ _ _ _ (T124.setTop (mkF m 190 #[.val (.int p1), .val (.int p2), .val (.int p3), .val (.ref b1), .val (.ref b6), .val (.ref b12), .val (.ref b17), .val (.int (1 : Int32)), .val (.int (0 : Int32)), .val (.ref a106), .val (.ref a114), .val (.ref x_119), .val (.ref eA), .val (.ref b122), .unset, .unset, .unset, .unset] [(.ref b122)]))
          have F126 : Exa Z T124.heap x_119 "java/util/Optional" := (f119_1.keep K125)
          have F127 : Fld Z T124.heap x_119 "java/util/Optional" "value" "Ljava/lang/Object;" (.ref a106) := (f119_2.keep K125 nin0)
          have F128 : Exa Z T124.heap eA "java/util/Optional" := (((((((XE.ext X00.2).keep K11).keep K22).keep K108).keep K116).keep K119).keep K125)
          have F129 : Fld Z T124.heap eA "java/util/Optional" "value" "Ljava/lang/Object;" .null := (((((((FE.ext X00.2).keep K11 nin0).keep K22 nin0).keep K108 nin0).keep K116 nin0).keep K119 nin0).keep K125 nin0)
          have F130 : Old Z n0 T124.heap := (F123.keep K124 (allS (Nat.le_trans (Nat.le_trans Z0 (Nat.le_trans (Nat.le_trans (Nat.le_trans (Nat.le_trans K11.1 K22.1) K108.1) K116.1) K119.1)) (Nat.le_of_eq g122.symm)) all0))
          obtain ⟨cq131, kq131, q131a, q131b, q131c⟩ := isOf hZ rfl f124_0
          obtain ⟨_, _, ⟨T131, L131, k131, n131⟩, -, X131, ⟨Lc131, hQ131, l131, y131, z131⟩, st131⟩ := X124.virtualBack hx (y := (⟨"com/example/miki_basin/mikibasin/Copy$Held", "pair", "()Ljava/util/Optional;"⟩ : MethodName)) (z := (⟨"com/example/miki_basin/mikibasin/Copy$Held", "pair", "()Ljava/util/Optional;"⟩ : MethodName)) hown (mvT hZ (hw _ (List.mem_of_getElem? (i := 87) rfl))) (mvT hZ (hw _ (List.mem_of_getElem? (i := 88) rfl))) (notFace_of_selects (args := #[]) (mvT hZ (hw _ (List.mem_of_getElem? (i := 90) rfl)))) (mvT hZ (hw _ (List.mem_of_getElem? (i := 90) rfl))) (mvT hZ (hw _ (List.mem_of_getElem? (i := 89) rfl))) (by decide) (backOf (W := 0) (rmPair_b l Z a0 hw [] b122 x_119 eA a106 T124.heap n0 (Nat.le_trans Z0 (Nat.le_trans (Nat.le_trans (Nat.le_trans (Nat.le_trans (Nat.le_trans K11.1 K22.1) K108.1) K116.1) K119.1) K125.1)) G1 O2 P5 eA SE XE FE rZ SZ F130 f124_2 f124_4 F126 F127 F128 F129) hZ (hw _ (List.mem_of_getElem? (i := 91) rfl)) (hw _ (List.mem_of_getElem? (i := 69) rfl)) (by decide) (by decide)) q131a q131c (g := (mkF m 190 #[.val (.int p1), .val (.int p2), .val (.int p3), .val (.ref b1), .val (.ref b6), .val (.ref b12), .val (.ref b17), .val (.int (1 : Int32)), .val (.int (0 : Int32)), .val (.ref a106), .val (.ref a114), .val (.ref x_119), .val (.ref eA), .val (.ref b122), .unset, .unset, .unset, .unset] [(.ref b122)])) rfl (by rw [hml]; rfl) (Steps.refl _) (argsL := []) (rest := []) (lenOf pd_5 rfl) rfl (by show 2 * 0 + _ ≤ _; exact Nat.le_of_eq rfl) (hb hby at_190) (fun _ _ => ⟨rfl, rfl, (by decide : 10 + 0 ≤ _), (by decide : 27 + 0 ≤ _)⟩)
          dsimp only [Pt.U, Pt.locs, Pt.cells, Pt.slots] at X131 l131 y131 z131 st131 hQ131
          subst l131 y131 z131
          obtain ⟨rfl, Nq131, eh131⟩ := hQ131
          have N131 := Fr.app N124 Nq131
          refine Ends.go st131 ?_
          show Ends _ _ _ _ (T131.setTop (mkF m 193 #[.val (.int p1), .val (.int p2), .val (.int p3), .val (.ref b1), .val (.ref b6), .val (.ref b12), .val (.ref b17), .val (.int (1 : Int32)), .val (.int (0 : Int32)), .val (.ref a106), .val (.ref a114), .val (.ref x_119), .val (.ref eA), .val (.ref b122), .unset, .unset, .unset, .unset] [(.ref eA)]))
          refine Ends.step (fun t k => XS.astore X131.here hx rfl (hb hby at_193) rfl rfl (l' := #[.val (.int p1), .val (.int p2), .val (.int p3), .val (.ref b1), .val (.ref b6), .val (.ref b12), .val (.ref b17), .val (.int (1 : Int32)), .val (.int (0 : Int32)), .val (.ref a106), .val (.ref a114), .val (.ref x_119), .val (.ref eA), .val (.ref b122), .val (.ref eA), .unset, .unset, .unset]) rfl k) ?_
          show Ends _ _ _ _ (T131.setTop (mkF m 195 #[.val (.int p1), .val (.int p2), .val (.int p3), .val (.ref b1), .val (.ref b6), .val (.ref b12), .val (.ref b17), .val (.int (1 : Int32)), .val (.int (0 : Int32)), .val (.ref a106), .val (.ref a114), .val (.ref x_119), .val (.ref eA), .val (.ref b122), .val (.ref eA), .unset, .unset, .unset] []))
          refine Ends.step (fun t k => XS.aload X131.here hx rfl (hb hby at_195) rfl rfl k) ?_
          show Ends _ _ _ _ (T131.setTop (mkF m 197 #[.val (.int p1), .val (.int p2), .val (.int p3), .val (.ref b1), .val (.ref b6), .val (.ref b12), .val (.ref b17), .val (.int (1 : Int32)), .val (.int (0 : Int32)), .val (.ref a106), .val (.ref a114), .val (.ref x_119), .val (.ref eA), .val (.ref b122), .val (.ref eA), .unset, .unset, .unset] [(.ref eA)]))
          refine Ends.step (fun t k => XS.ifnonnullYes X131.here hx rfl (pc0 := 197) (pc' := 202) rfl (hb hby at_197) rfl (by decide) (by decide) k) ?_
          show Ends _ _ _ _ (T131.setTop (mkF m 202 #[.val (.int p1), .val (.int p2), .val (.int p3), .val (.ref b1), .val (.ref b6), .val (.ref b12), .val (.ref b17), .val (.int (1 : Int32)), .val (.int (0 : Int32)), .val (.ref a106), .val (.ref a114), .val (.ref x_119), .val (.ref eA), .val (.ref b122), .val (.ref eA), .unset, .unset, .unset] []))
          refine Ends.step (fun t k => XS.iload X131.here hx rfl (hb hby at_202) rfl k) ?_
          show Ends _ _ _ _ (T131.setTop (mkF m 204 #[.val (.int p1), .val (.int p2), .val (.int p3), .val (.ref b1), .val (.ref b6), .val (.ref b12), .val (.ref b17), .val (.int (1 : Int32)), .val (.int (0 : Int32)), .val (.ref a106), .val (.ref a114), .val (.ref x_119), .val (.ref eA), .val (.ref b122), .val (.ref eA), .unset, .unset, .unset] [(.int (1 : Int32))]))
          refine Ends.step (fun t k => XS.ifNo X131.here hx rfl (hb hby at_204) rfl ((if0 _ _).trans (feq (by decide : ¬ ((1 : Int32) = (0 : Int32)))).1) k) ?_
          show Ends _ _ _ _ (T131.setTop (mkF m 207 #[.val (.int p1), .val (.int p2), .val (.int p3), .val (.ref b1), .val (.ref b6), .val (.ref b12), .val (.ref b17), .val (.int (1 : Int32)), .val (.int (0 : Int32)), .val (.ref a106), .val (.ref a114), .val (.ref x_119), .val (.ref eA), .val (.ref b122), .val (.ref eA), .unset, .unset, .unset] []))
          refine Ends.step (fun t k => XS.iload X131.here hx rfl (hb hby at_207) rfl k) ?_
          show Ends _ _ _ _ (T131.setTop (mkF m 209 #[.val (.int p1), .val (.int p2), .val (.int p3), .val (.ref b1), .val (.ref b6), .val (.ref b12), .val (.ref b17), .val (.int (1 : Int32)), .val (.int (0 : Int32)), .val (.ref a106), .val (.ref a114), .val (.ref x_119), .val (.ref eA), .val (.ref b122), .val (.ref eA), .unset, .unset, .unset] [(.int (0 : Int32))]))
          refine Ends.step (fun t k => XS.ifNo X131.here hx rfl (hb hby at_209) rfl ((if0 _ _).trans (teq (by decide : ((0 : Int32) = (0 : Int32)))).2) k) ?_
          show Ends _ _ _ _ (T131.setTop (mkF m 212 #[.val (.int p1), .val (.int p2), .val (.int p3), .val (.ref b1), .val (.ref b6), .val (.ref b12), .val (.ref b17), .val (.int (1 : Int32)), .val (.int (0 : Int32)), .val (.ref a106), .val (.ref a114), .val (.ref x_119), .val (.ref eA), .val (.ref b122), .val (.ref eA), .unset, .unset, .unset] []))
          refine Ends.step (fun t k => XS.aload X131.here hx rfl (hb hby at_212) rfl rfl k) ?_
          show Ends _ _ _ _ (T131.setTop (mkF m 214 #[.val (.int p1), .val (.int p2), .val (.int p3), .val (.ref b1), .val (.ref b6), .val (.ref b12), .val (.ref b17), .val (.int (1 : Int32)), .val (.int (0 : Int32)), .val (.ref a106), .val (.ref a114), .val (.ref x_119), .val (.ref eA), .val (.ref b122), .val (.ref eA), .unset, .unset, .unset] [(.ref eA)]))
          obtain ⟨cq132, kq132, q132a, q132b, q132c⟩ := isOf hZ eh131 F128
          obtain ⟨_, _, ⟨T132, L132, k132, n132⟩, -, X132, ⟨Lc132, hQ132, l132, y132, z132⟩, st132⟩ := X131.virtualBack hx (y := (⟨"java/util/Optional", "isPresent", "()Z"⟩ : MethodName)) (z := (⟨"java/util/Optional", "isPresent", "()Z"⟩ : MethodName)) hown (mvT hZ (hw _ (List.mem_of_getElem? (i := 98) rfl))) (mvT hZ (hw _ (List.mem_of_getElem? (i := 99) rfl))) (notFace_of_selects (args := #[]) (mvT hZ (hw _ (List.mem_of_getElem? (i := 101) rfl)))) (mvT hZ (hw _ (List.mem_of_getElem? (i := 101) rfl))) (mvT hZ (hw _ (List.mem_of_getElem? (i := 100) rfl))) (by decide) (backOf (W := 0) (rmOp_isPresent_n l Z a0 hw [] eA T124.heap n0 (Nat.le_trans Z0 (Nat.le_trans (Nat.le_trans (Nat.le_trans (Nat.le_trans (Nat.le_trans K11.1 K22.1) K108.1) K116.1) K119.1) K125.1)) G1 O2 P5 eA SE XE FE rZ SZ F130 F129) hZ (hw _ (List.mem_of_getElem? (i := 102) rfl)) (hw _ (List.mem_of_getElem? (i := 48) rfl)) (by decide) (by decide)) q132a q132c (g := (mkF m 214 #[.val (.int p1), .val (.int p2), .val (.int p3), .val (.ref b1), .val (.ref b6), .val (.ref b12), .val (.ref b17), .val (.int (1 : Int32)), .val (.int (0 : Int32)), .val (.ref a106), .val (.ref a114), .val (.ref x_119), .val (.ref eA), .val (.ref b122), .val (.ref eA), .unset, .unset, .unset] [(.ref eA)])) rfl (by rw [hml]; rfl) (Steps.refl _) (argsL := []) (rest := []) (lenOf pd_4 rfl) rfl (by show 2 * 0 + _ ≤ _; exact Nat.le_of_eq rfl) (hb hby at_214) (fun _ _ => ⟨rfl, eh131, (by decide : 10 + 0 ≤ _), (by decide : 27 + 0 ≤ _)⟩)
          dsimp only [Pt.U, Pt.locs, Pt.cells, Pt.slots] at X132 l132 y132 z132 st132 hQ132
          subst l132 y132 z132
          obtain ⟨rfl, Nq132, eh132⟩ := hQ132
          have N132 := Fr.app N131 Nq132
          refine Ends.go st132 ?_
          show Ends _ _ _ _ (T132.setTop (mkF m 217 #[.val (.int p1), .val (.int p2), .val (.int p3), .val (.ref b1), .val (.ref b6), .val (.ref b12), .val (.ref b17), .val (.int (1 : Int32)), .val (.int (0 : Int32)), .val (.ref a106), .val (.ref a114), .val (.ref x_119), .val (.ref eA), .val (.ref b122), .val (.ref eA), .unset, .unset, .unset] [(.int (0 : Int32))]))
          refine Ends.step (fun t k => XS.ifNo X132.here hx rfl (hb hby at_217) rfl ((if0 _ _).trans (teq (by decide : ((0 : Int32) = (0 : Int32)))).2) k) ?_
          show Ends _ _ _ _ (T132.setTop (mkF m 220 #[.val (.int p1), .val (.int p2), .val (.int p3), .val (.ref b1), .val (.ref b6), .val (.ref b12), .val (.ref b17), .val (.int (1 : Int32)), .val (.int (0 : Int32)), .val (.ref a106), .val (.ref a114), .val (.ref x_119), .val (.ref eA), .val (.ref b122), .val (.ref eA), .unset, .unset, .unset] []))
          refine Ends.step (fun t k => XS.iconst X132.here hx rfl (hb hby at_220) k) ?_
          show Ends _ _ _ _ (T132.setTop (mkF m 221 #[.val (.int p1), .val (.int p2), .val (.int p3), .val (.ref b1), .val (.ref b6), .val (.ref b12), .val (.ref b17), .val (.int (1 : Int32)), .val (.int (0 : Int32)), .val (.ref a106), .val (.ref a114), .val (.ref x_119), .val (.ref eA), .val (.ref b122), .val (.ref eA), .unset, .unset, .unset] [(.int (1 : Int32))]))
          refine Ends.step (fun t k => XS.goto X132.here hx rfl (pc0 := 221) (pc' := 225) rfl (hb hby at_221) (by decide) (by decide) k) ?_
          show Ends _ _ _ _ (T132.setTop (mkF m 225 #[.val (.int p1), .val (.int p2), .val (.int p3), .val (.ref b1), .val (.ref b6), .val (.ref b12), .val (.ref b17), .val (.int (1 : Int32)), .val (.int (0 : Int32)), .val (.ref a106), .val (.ref a114), .val (.ref x_119), .val (.ref eA), .val (.ref b122), .val (.ref eA), .unset, .unset, .unset] [(.int (1 : Int32))]))
          exact own_finI X132 hx hlk (t := .boolean) Bd.returns (by simp) rfl (hb hby at_225) eh132 ⟨rfl, N132, (((((((Keep.refl h0 []).trans K11 all0).trans K22 all0).trans K108 all0).trans K116 all0).trans K119 all0).trans K125 all0)⟩ (by decide) (by decide)
        by_cases c133 : (p3 &&& (8 : Int32)) = (0 : Int32)
        · refine Ends.step (fun t k => XS.ifYes X108.here hx rfl (pc0 := 121) (pc' := 130) rfl (hb hby at_121) rfl ((if0 _ _).trans (teq c133).1) (by decide) (by decide) k) ?_
          show Ends _ _ _ _ (T108.setTop (mkF m 130 #[.val (.int p1), .val (.int p2), .val (.int p3), .val (.ref b1), .val (.ref b6), .val (.ref b12), .val (.ref b17), .val (.int (1 : Int32)), .val (.int (0 : Int32)), .val (.ref a106), .unset, .unset, .unset, .unset, .unset, .unset, .unset, .unset] []))
          have F134 : Old Z n0 h108 := ((F19.keep K21 (allS (Nat.le_trans (Nat.le_trans Z0 (Nat.le_trans (Nat.le_trans (Nat.le_trans K11.1 E12.1) (Nat.le_of_eq W14.size.symm)) (Nat.le_of_eq W16.size.symm))) (Nat.le_of_eq g17.symm)) all0)).keep K108 all0)
          obtain ⟨_, _, ⟨T135, L135, k135, n135⟩, -, X135, ⟨Lc135, hQ135, l135, y135, z135⟩, st135⟩ := Jvm.LawKit.callS X108 hx (y := (⟨"com/example/miki_basin/mikibasin/Figure", "notApplicable", "()Lcom/example/miki_basin/mikibasin/Figure;"⟩ : MethodName)) hown (mvT hZ (hw _ (List.mem_of_getElem? (i := 30) rfl))) (mvT hZ (hw _ (List.mem_of_getElem? (i := 31) rfl))) (mvT hZ (hw _ (List.mem_of_getElem? (i := 32) rfl))) (mvT hZ (hw _ (List.mem_of_getElem? (i := 33) rfl))) (by decide) (backOf (W := 0) (rm_notApplicable l Z a0 hw []  h108 n0 (Nat.le_trans Z0 (Nat.le_trans (Nat.le_trans K11.1 K22.1) K108.1)) G1 O2 P5 eA SE XE FE rZ SZ F134 ) hZ (hw _ (List.mem_of_getElem? (i := 33) rfl)) (hw _ (List.mem_of_getElem? (i := 32) rfl)) (by decide) (by decide)) (g := (mkF m 130 #[.val (.int p1), .val (.int p2), .val (.int p3), .val (.ref b1), .val (.ref b6), .val (.ref b12), .val (.ref b17), .val (.int (1 : Int32)), .val (.int (0 : Int32)), .val (.ref a106), .unset, .unset, .unset, .unset, .unset, .unset, .unset, .unset] [])) rfl (by rw [hml]; rfl) (argsL := []) (rest := []) (lenOf pd_11 rfl) rfl (by show 2 * 0 + _ ≤ _; exact Nat.le_of_eq rfl) (hb hby at_130) (fun _ _ => ⟨rfl, e108, (by decide : 7 + 1 ≤ _), (by decide : 19 + 3 ≤ _)⟩)
          dsimp only [Pt.U, Pt.locs, Pt.cells, Pt.slots] at X135 l135 y135 z135 st135 hQ135
          subst l135 y135 z135
          obtain ⟨x_135, rfl, Nq135, K135, f135_0, f135_1⟩ := hQ135
          have N135 := Fr.app N108 Nq135
          refine Ends.step st135 ?_
          exact J115 x_135 T135 T135.heap _ (own_mono X135 (by decide) (by decide)) rfl N135 ((Keep.refl h108 []).trans K135 all0) f135_1
        · refine Ends.step (fun t k => XS.ifNo X108.here hx rfl (hb hby at_121) rfl ((if0 _ _).trans (feq c133).1) k) ?_
          show Ends _ _ _ _ (T108.setTop (mkF m 124 #[.val (.int p1), .val (.int p2), .val (.int p3), .val (.ref b1), .val (.ref b6), .val (.ref b12), .val (.ref b17), .val (.int (1 : Int32)), .val (.int (0 : Int32)), .val (.ref a106), .unset, .unset, .unset, .unset, .unset, .unset, .unset, .unset] []))
          have F136 : Old Z n0 h108 := ((F19.keep K21 (allS (Nat.le_trans (Nat.le_trans Z0 (Nat.le_trans (Nat.le_trans (Nat.le_trans K11.1 E12.1) (Nat.le_of_eq W14.size.symm)) (Nat.le_of_eq W16.size.symm))) (Nat.le_of_eq g17.symm)) all0)).keep K108 all0)
          obtain ⟨_, _, ⟨T137, L137, k137, n137⟩, -, X137, ⟨Lc137, hQ137, l137, y137, z137⟩, st137⟩ := Jvm.LawKit.callS X108 hx (y := (⟨"com/example/miki_basin/mikibasin/Figure", "blank", "()Lcom/example/miki_basin/mikibasin/Figure;"⟩ : MethodName)) hown (mvT hZ (hw _ (List.mem_of_getElem? (i := 161) rfl))) (mvT hZ (hw _ (List.mem_of_getElem? (i := 162) rfl))) (mvT hZ (hw _ (List.mem_of_getElem? (i := 32) rfl))) (mvT hZ (hw _ (List.mem_of_getElem? (i := 163) rfl))) (by decide) (backOf (W := 0) (rm_blank l Z a0 hw []  h108 n0 (Nat.le_trans Z0 (Nat.le_trans (Nat.le_trans K11.1 K22.1) K108.1)) G1 O2 P5 eA SE XE FE rZ SZ F136 ) hZ (hw _ (List.mem_of_getElem? (i := 163) rfl)) (hw _ (List.mem_of_getElem? (i := 32) rfl)) (by decide) (by decide)) (g := (mkF m 124 #[.val (.int p1), .val (.int p2), .val (.int p3), .val (.ref b1), .val (.ref b6), .val (.ref b12), .val (.ref b17), .val (.int (1 : Int32)), .val (.int (0 : Int32)), .val (.ref a106), .unset, .unset, .unset, .unset, .unset, .unset, .unset, .unset] [])) rfl (by rw [hml]; rfl) (argsL := []) (rest := []) (lenOf pd_11 rfl) rfl (by show 2 * 0 + _ ≤ _; exact Nat.le_of_eq rfl) (hb hby at_124) (fun _ _ => ⟨rfl, e108, (by decide : 7 + 1 ≤ _), (by decide : 19 + 3 ≤ _)⟩)
          dsimp only [Pt.U, Pt.locs, Pt.cells, Pt.slots] at X137 l137 y137 z137 st137 hQ137
          subst l137 y137 z137
          obtain ⟨x_137, rfl, Nq137, K137, f137_0, f137_1⟩ := hQ137
          have N137 := Fr.app N108 Nq137
          refine Ends.step st137 ?_
          show Ends _ _ _ _ (T137.setTop (mkF m 127 #[.val (.int p1), .val (.int p2), .val (.int p3), .val (.ref b1), .val (.ref b6), .val (.ref b12), .val (.ref b17), .val (.int (1 : Int32)), .val (.int (0 : Int32)), .val (.ref a106), .unset, .unset, .unset, .unset, .unset, .unset, .unset, .unset] [(.ref x_137)]))
          refine Ends.step (fun t k => XS.goto X137.here hx rfl (pc0 := 127) (pc' := 133) rfl (hb hby at_127) (by decide) (by decide) k) ?_
          exact J115 x_137 T137 T137.heap _ (own_mono X137 (by decide) (by decide)) rfl N137 ((Keep.refl h108 []).trans K137 all0) f137_1
      by_cases c138 : (p3 &&& (4 : Int32)) = (0 : Int32)
      · refine Ends.step (fun t k => XS.ifYes X21.here hx rfl (pc0 := 103) (pc' := 112) rfl (hb hby at_103) rfl ((if0 _ _).trans (teq c138).1) (by decide) (by decide) k) ?_
        show Ends _ _ _ _ (T21.setTop (mkF m 112 #[.val (.int p1), .val (.int p2), .val (.int p3), .val (.ref b1), .val (.ref b6), .val (.ref b12), .val (.ref b17), .val (.int (1 : Int32)), .val (.int (0 : Int32)), .unset, .unset, .unset, .unset, .unset, .unset, .unset, .unset, .unset] []))
        have F139 : Old Z n0 T21.heap := (F19.keep K21 (allS (Nat.le_trans (Nat.le_trans Z0 (Nat.le_trans (Nat.le_trans (Nat.le_trans K11.1 E12.1) (Nat.le_of_eq W14.size.symm)) (Nat.le_of_eq W16.size.symm))) (Nat.le_of_eq g17.symm)) all0))
        obtain ⟨_, _, ⟨T140, L140, k140, n140⟩, -, X140, ⟨Lc140, hQ140, l140, y140, z140⟩, st140⟩ := Jvm.LawKit.callS X21 hx (y := (⟨"com/example/miki_basin/mikibasin/Figure", "notApplicable", "()Lcom/example/miki_basin/mikibasin/Figure;"⟩ : MethodName)) hown (mvT hZ (hw _ (List.mem_of_getElem? (i := 30) rfl))) (mvT hZ (hw _ (List.mem_of_getElem? (i := 31) rfl))) (mvT hZ (hw _ (List.mem_of_getElem? (i := 32) rfl))) (mvT hZ (hw _ (List.mem_of_getElem? (i := 33) rfl))) (by decide) (backOf (W := 0) (rm_notApplicable l Z a0 hw []  T21.heap n0 (Nat.le_trans Z0 (Nat.le_trans K11.1 K22.1)) G1 O2 P5 eA SE XE FE rZ SZ F139 ) hZ (hw _ (List.mem_of_getElem? (i := 33) rfl)) (hw _ (List.mem_of_getElem? (i := 32) rfl)) (by decide) (by decide)) (g := (mkF m 112 #[.val (.int p1), .val (.int p2), .val (.int p3), .val (.ref b1), .val (.ref b6), .val (.ref b12), .val (.ref b17), .val (.int (1 : Int32)), .val (.int (0 : Int32)), .unset, .unset, .unset, .unset, .unset, .unset, .unset, .unset, .unset] [])) rfl (by rw [hml]; rfl) (argsL := []) (rest := []) (lenOf pd_11 rfl) rfl (by show 2 * 0 + _ ≤ _; exact Nat.le_of_eq rfl) (hb hby at_112) (fun _ _ => ⟨rfl, rfl, (by decide : 6 + 1 ≤ _), (by decide : 16 + 3 ≤ _)⟩)
        dsimp only [Pt.U, Pt.locs, Pt.cells, Pt.slots] at X140 l140 y140 z140 st140 hQ140
        subst l140 y140 z140
        obtain ⟨x_140, rfl, Nq140, K140, f140_0, f140_1⟩ := hQ140
        have N140 := Fr.app N21 Nq140
        refine Ends.step st140 ?_
        exact J107 x_140 T140 T140.heap _ (own_mono X140 (by decide) (by decide)) rfl N140 ((Keep.refl T21.heap []).trans K140 all0) f140_1
      · refine Ends.step (fun t k => XS.ifNo X21.here hx rfl (hb hby at_103) rfl ((if0 _ _).trans (feq c138).1) k) ?_
        show Ends _ _ _ _ (T21.setTop (mkF m 106 #[.val (.int p1), .val (.int p2), .val (.int p3), .val (.ref b1), .val (.ref b6), .val (.ref b12), .val (.ref b17), .val (.int (1 : Int32)), .val (.int (0 : Int32)), .unset, .unset, .unset, .unset, .unset, .unset, .unset, .unset, .unset] []))
        have F141 : Old Z n0 T21.heap := (F19.keep K21 (allS (Nat.le_trans (Nat.le_trans Z0 (Nat.le_trans (Nat.le_trans (Nat.le_trans K11.1 E12.1) (Nat.le_of_eq W14.size.symm)) (Nat.le_of_eq W16.size.symm))) (Nat.le_of_eq g17.symm)) all0))
        obtain ⟨_, _, ⟨T142, L142, k142, n142⟩, -, X142, ⟨Lc142, hQ142, l142, y142, z142⟩, st142⟩ := Jvm.LawKit.callS X21 hx (y := (⟨"com/example/miki_basin/mikibasin/Figure", "blank", "()Lcom/example/miki_basin/mikibasin/Figure;"⟩ : MethodName)) hown (mvT hZ (hw _ (List.mem_of_getElem? (i := 161) rfl))) (mvT hZ (hw _ (List.mem_of_getElem? (i := 162) rfl))) (mvT hZ (hw _ (List.mem_of_getElem? (i := 32) rfl))) (mvT hZ (hw _ (List.mem_of_getElem? (i := 163) rfl))) (by decide) (backOf (W := 0) (rm_blank l Z a0 hw []  T21.heap n0 (Nat.le_trans Z0 (Nat.le_trans K11.1 K22.1)) G1 O2 P5 eA SE XE FE rZ SZ F141 ) hZ (hw _ (List.mem_of_getElem? (i := 163) rfl)) (hw _ (List.mem_of_getElem? (i := 32) rfl)) (by decide) (by decide)) (g := (mkF m 106 #[.val (.int p1), .val (.int p2), .val (.int p3), .val (.ref b1), .val (.ref b6), .val (.ref b12), .val (.ref b17), .val (.int (1 : Int32)), .val (.int (0 : Int32)), .unset, .unset, .unset, .unset, .unset, .unset, .unset, .unset, .unset] [])) rfl (by rw [hml]; rfl) (argsL := []) (rest := []) (lenOf pd_11 rfl) rfl (by show 2 * 0 + _ ≤ _; exact Nat.le_of_eq rfl) (hb hby at_106) (fun _ _ => ⟨rfl, rfl, (by decide : 6 + 1 ≤ _), (by decide : 16 + 3 ≤ _)⟩)
        dsimp only [Pt.U, Pt.locs, Pt.cells, Pt.slots] at X142 l142 y142 z142 st142 hQ142
        subst l142 y142 z142
        obtain ⟨x_142, rfl, Nq142, K142, f142_0, f142_1⟩ := hQ142
        have N142 := Fr.app N21 Nq142
        refine Ends.step st142 ?_
        show Ends _ _ _ _ (T142.setTop (mkF m 109 #[.val (.int p1), .val (.int p2), .val (.int p3), .val (.ref b1), .val (.ref b6), .val (.ref b12), .val (.ref b17), .val (.int (1 : Int32)), .val (.int (0 : Int32)), .unset, .unset, .unset, .unset, .unset, .unset, .unset, .unset, .unset] [(.ref x_142)]))
        refine Ends.step (fun t k => XS.goto X142.here hx rfl (pc0 := 109) (pc' := 115) rfl (hb hby at_109) (by decide) (by decide) k) ?_
        exact J107 x_142 T142 T142.heap _ (own_mono X142 (by decide) (by decide)) rfl N142 ((Keep.refl T21.heap []).trans K142 all0) f142_1
    · refine Ends.step (fun t k => XS.ifNo X21.here hx rfl (hb hby at_90) rfl ((if0 _ _).trans (feq c101).1) k) ?_
      show Ends _ _ _ _ (T21.setTop (mkF m 93 #[.val (.int p1), .val (.int p2), .val (.int p3), .val (.ref b1), .val (.ref b6), .val (.ref b12), .val (.ref b17), .val (.int (1 : Int32)), .unset, .unset, .unset, .unset, .unset, .unset, .unset, .unset, .unset, .unset] []))
      refine Ends.step (fun t k => XS.iconst X21.here hx rfl (hb hby at_93) k) ?_
      show Ends _ _ _ _ (T21.setTop (mkF m 94 #[.val (.int p1), .val (.int p2), .val (.int p3), .val (.ref b1), .val (.ref b6), .val (.ref b12), .val (.ref b17), .val (.int (1 : Int32)), .unset, .unset, .unset, .unset, .unset, .unset, .unset, .unset, .unset, .unset] [(.int (1 : Int32))]))
      refine Ends.step (fun t k => XS.goto X21.here hx rfl (pc0 := 94) (pc' := 98) rfl (hb hby at_94) (by decide) (by decide) k) ?_
      show Ends _ _ _ _ (T21.setTop (mkF m 98 #[.val (.int p1), .val (.int p2), .val (.int p3), .val (.ref b1), .val (.ref b6), .val (.ref b12), .val (.ref b17), .val (.int (1 : Int32)), .unset, .unset, .unset, .unset, .unset, .unset, .unset, .unset, .unset, .unset] [(.int (1 : Int32))]))
      refine Ends.step (fun t k => XS.istore X21.here hx rfl (hb hby at_98) rfl (l' := #[.val (.int p1), .val (.int p2), .val (.int p3), .val (.ref b1), .val (.ref b6), .val (.ref b12), .val (.ref b17), .val (.int (1 : Int32)), .val (.int (1 : Int32)), .unset, .unset, .unset, .unset, .unset, .unset, .unset, .unset, .unset]) rfl k) ?_
      show Ends _ _ _ _ (T21.setTop (mkF m 100 #[.val (.int p1), .val (.int p2), .val (.int p3), .val (.ref b1), .val (.ref b6), .val (.ref b12), .val (.ref b17), .val (.int (1 : Int32)), .val (.int (1 : Int32)), .unset, .unset, .unset, .unset, .unset, .unset, .unset, .unset, .unset] []))
      refine Ends.step (fun t k => XS.iloadN X21.here hx rfl (hb hby at_100) rfl k) ?_
      show Ends _ _ _ _ (T21.setTop (mkF m 101 #[.val (.int p1), .val (.int p2), .val (.int p3), .val (.ref b1), .val (.ref b6), .val (.ref b12), .val (.ref b17), .val (.int (1 : Int32)), .val (.int (1 : Int32)), .unset, .unset, .unset, .unset, .unset, .unset, .unset, .unset, .unset] [(.int p3)]))
      refine Ends.step (fun t k => XS.iconst X21.here hx rfl (hb hby at_101) k) ?_
      show Ends _ _ _ _ (T21.setTop (mkF m 102 #[.val (.int p1), .val (.int p2), .val (.int p3), .val (.ref b1), .val (.ref b6), .val (.ref b12), .val (.ref b17), .val (.int (1 : Int32)), .val (.int (1 : Int32)), .unset, .unset, .unset, .unset, .unset, .unset, .unset, .unset, .unset] [(.int (4 : Int32)), (.int p3)]))
      refine Ends.step (fun t k => XS.iand X21.here hx rfl (hb hby at_102) rfl k) ?_
      show Ends _ _ _ _ (T21.setTop (mkF m 103 #[.val (.int p1), .val (.int p2), .val (.int p3), .val (.ref b1), .val (.ref b6), .val (.ref b12), .val (.ref b17), .val (.int (1 : Int32)), .val (.int (1 : Int32)), .unset, .unset, .unset, .unset, .unset, .unset, .unset, .unset, .unset] [(.int (p3 &&& (4 : Int32)))]))
      have J148 : ∀ (a147 : Addr) (T149 : State) (h149 : Heap) (L149 : List Loc) (X149 : Stand p l e room_1 s m #[(.int p1), (.int p2), (.int p3)] below meth c T149 L149 7 19) (e149 : T149.heap = h149) (N149 : Fr n0 L149) (K149 : Keep T21.heap h149 []) (jf150 : Exa Z h149 a147 "com/example/miki_basin/mikibasin/Figure"), Ends p.tables e below (fun o U' => ∃ v L, o = .returned v ∧ Qrm0 Z p1 p2 p3 h0 n0 v U'.heap L ∧ FrameEnd s o U' L 40 192) (T149.setTop (mkF m 115 #[.val (.int p1), .val (.int p2), .val (.int p3), .val (.ref b1), .val (.ref b6), .val (.ref b12), .val (.ref b17), .val (.int (1 : Int32)), .val (.int (1 : Int32)), .unset, .unset, .unset, .unset, .unset, .unset, .unset, .unset, .unset] [(.ref a147)])) := by
        intro a147 T149 h149 L149 X149 e149 N149 K149 jf150
        show Ends _ _ _ _ (T149.setTop (mkF m 115 #[.val (.int p1), .val (.int p2), .val (.int p3), .val (.ref b1), .val (.ref b6), .val (.ref b12), .val (.ref b17), .val (.int (1 : Int32)), .val (.int (1 : Int32)), .unset, .unset, .unset, .unset, .unset, .unset, .unset, .unset, .unset] [(.ref a147)]))
        refine Ends.step (fun t k => XS.astore X149.here hx rfl (hb hby at_115) rfl rfl (l' := #[.val (.int p1), .val (.int p2), .val (.int p3), .val (.ref b1), .val (.ref b6), .val (.ref b12), .val (.ref b17), .val (.int (1 : Int32)), .val (.int (1 : Int32)), .val (.ref a147), .unset, .unset, .unset, .unset, .unset, .unset, .unset, .unset]) rfl k) ?_
        show Ends _ _ _ _ (T149.setTop (mkF m 117 #[.val (.int p1), .val (.int p2), .val (.int p3), .val (.ref b1), .val (.ref b6), .val (.ref b12), .val (.ref b17), .val (.int (1 : Int32)), .val (.int (1 : Int32)), .val (.ref a147), .unset, .unset, .unset, .unset, .unset, .unset, .unset, .unset] []))
        refine Ends.step (fun t k => XS.iloadN X149.here hx rfl (hb hby at_117) rfl k) ?_
        show Ends _ _ _ _ (T149.setTop (mkF m 118 #[.val (.int p1), .val (.int p2), .val (.int p3), .val (.ref b1), .val (.ref b6), .val (.ref b12), .val (.ref b17), .val (.int (1 : Int32)), .val (.int (1 : Int32)), .val (.ref a147), .unset, .unset, .unset, .unset, .unset, .unset, .unset, .unset] [(.int p3)]))
        refine Ends.step (fun t k => XS.bipush X149.here hx rfl (hb hby at_118) k) ?_
        show Ends _ _ _ _ (T149.setTop (mkF m 120 #[.val (.int p1), .val (.int p2), .val (.int p3), .val (.ref b1), .val (.ref b6), .val (.ref b12), .val (.ref b17), .val (.int (1 : Int32)), .val (.int (1 : Int32)), .val (.ref a147), .unset, .unset, .unset, .unset, .unset, .unset, .unset, .unset] [(.int (8 : Int32)), (.int p3)]))
        refine Ends.step (fun t k => XS.iand X149.here hx rfl (hb hby at_120) rfl k) ?_
        show Ends _ _ _ _ (T149.setTop (mkF m 121 #[.val (.int p1), .val (.int p2), .val (.int p3), .val (.ref b1), .val (.ref b6), .val (.ref b12), .val (.ref b17), .val (.int (1 : Int32)), .val (.int (1 : Int32)), .val (.ref a147), .unset, .unset, .unset, .unset, .unset, .unset, .unset, .unset] [(.int (p3 &&& (8 : Int32)))]))
        have J156 : ∀ (a155 : Addr) (T157 : State) (h157 : Heap) (L157 : List Loc) (X157 : Stand p l e room_1 s m #[(.int p1), (.int p2), (.int p3)] below meth c T157 L157 8 22) (e157 : T157.heap = h157) (N157 : Fr n0 L157) (K157 : Keep h149 h157 []) (jf158 : Exa Z h157 a155 "com/example/miki_basin/mikibasin/Figure"), Ends p.tables e below (fun o U' => ∃ v L, o = .returned v ∧ Qrm0 Z p1 p2 p3 h0 n0 v U'.heap L ∧ FrameEnd s o U' L 40 192) (T157.setTop (mkF m 133 #[.val (.int p1), .val (.int p2), .val (.int p3), .val (.ref b1), .val (.ref b6), .val (.ref b12), .val (.ref b17), .val (.int (1 : Int32)), .val (.int (1 : Int32)), .val (.ref a147), .unset, .unset, .unset, .unset, .unset, .unset, .unset, .unset] [(.ref a155)])) := by
          intro a155 T157 h157 L157 X157 e157 N157 K157 jf158
          show Ends _ _ _ _ (T157.setTop (mkF m 133 #[.val (.int p1), .val (.int p2), .val (.int p3), .val (.ref b1), .val (.ref b6), .val (.ref b12), .val (.ref b17), .val (.int (1 : Int32)), .val (.int (1 : Int32)), .val (.ref a147), .unset, .unset, .unset, .unset, .unset, .unset, .unset, .unset] [(.ref a155)]))
          refine Ends.step (fun t k => XS.astore X157.here hx rfl (hb hby at_133) rfl rfl (l' := #[.val (.int p1), .val (.int p2), .val (.int p3), .val (.ref b1), .val (.ref b6), .val (.ref b12), .val (.ref b17), .val (.int (1 : Int32)), .val (.int (1 : Int32)), .val (.ref a147), .val (.ref a155), .unset, .unset, .unset, .unset, .unset, .unset, .unset]) rfl k) ?_
          show Ends _ _ _ _ (T157.setTop (mkF m 135 #[.val (.int p1), .val (.int p2), .val (.int p3), .val (.ref b1), .val (.ref b6), .val (.ref b12), .val (.ref b17), .val (.int (1 : Int32)), .val (.int (1 : Int32)), .val (.ref a147), .val (.ref a155), .unset, .unset, .unset, .unset, .unset, .unset, .unset] []))
          refine Ends.step (fun t k => XS.iload X157.here hx rfl (hb hby at_135) rfl k) ?_
          show Ends _ _ _ _ (T157.setTop (mkF m 137 #[.val (.int p1), .val (.int p2), .val (.int p3), .val (.ref b1), .val (.ref b6), .val (.ref b12), .val (.ref b17), .val (.int (1 : Int32)), .val (.int (1 : Int32)), .val (.ref a147), .val (.ref a155), .unset, .unset, .unset, .unset, .unset, .unset, .unset] [(.int (1 : Int32))]))
          refine Ends.step (fun t k => XS.ifNo X157.here hx rfl (hb hby at_137) rfl ((if0 _ _).trans (feq (by decide : ¬ ((1 : Int32) = (0 : Int32)))).1) k) ?_
          show Ends _ _ _ _ (T157.setTop (mkF m 140 #[.val (.int p1), .val (.int p2), .val (.int p3), .val (.ref b1), .val (.ref b6), .val (.ref b12), .val (.ref b17), .val (.int (1 : Int32)), .val (.int (1 : Int32)), .val (.ref a147), .val (.ref a155), .unset, .unset, .unset, .unset, .unset, .unset, .unset] []))
          refine Ends.step (fun t k => XS.aload X157.here hx rfl (hb hby at_140) rfl rfl k) ?_
          show Ends _ _ _ _ (T157.setTop (mkF m 142 #[.val (.int p1), .val (.int p2), .val (.int p3), .val (.ref b1), .val (.ref b6), .val (.ref b12), .val (.ref b17), .val (.int (1 : Int32)), .val (.int (1 : Int32)), .val (.ref a147), .val (.ref a155), .unset, .unset, .unset, .unset, .unset, .unset, .unset] [(.ref a147)]))
          have F159 : Old Z n0 h157 := (((F19.keep K21 (allS (Nat.le_trans (Nat.le_trans Z0 (Nat.le_trans (Nat.le_trans (Nat.le_trans K11.1 E12.1) (Nat.le_of_eq W14.size.symm)) (Nat.le_of_eq W16.size.symm))) (Nat.le_of_eq g17.symm)) all0)).keep K149 all0).keep K157 all0)
          obtain ⟨_, _, ⟨T160, L160, k160, n160⟩, -, X160, ⟨Lc160, hQ160, l160, y160, z160⟩, st160⟩ := Jvm.LawKit.callS X157 hx (y := (⟨"java/util/Optional", "of", "(Ljava/lang/Object;)Ljava/util/Optional;"⟩ : MethodName)) hown (mvT hZ (hw _ (List.mem_of_getElem? (i := 51) rfl))) (mvT hZ (hw _ (List.mem_of_getElem? (i := 52) rfl))) (mvT hZ (hw _ (List.mem_of_getElem? (i := 48) rfl))) (mvT hZ (hw _ (List.mem_of_getElem? (i := 53) rfl))) (by decide) (backOf (W := 0) (rmOpOf l Z a0 hw [] a147 h157 n0 (Nat.le_trans Z0 (Nat.le_trans (Nat.le_trans (Nat.le_trans K11.1 K22.1) K149.1) K157.1)) G1 O2 P5 eA SE XE FE rZ SZ F159 ) hZ (hw _ (List.mem_of_getElem? (i := 53) rfl)) (hw _ (List.mem_of_getElem? (i := 48) rfl)) (by decide) (by decide)) (g := (mkF m 142 #[.val (.int p1), .val (.int p2), .val (.int p3), .val (.ref b1), .val (.ref b6), .val (.ref b12), .val (.ref b17), .val (.int (1 : Int32)), .val (.int (1 : Int32)), .val (.ref a147), .val (.ref a155), .unset, .unset, .unset, .unset, .unset, .unset, .unset] [(.ref a147)])) rfl (by rw [hml]; rfl) (argsL := [(.ref a147)]) (rest := []) (lenOf pd_9 rfl) rfl (by show 2 * 0 + _ ≤ _; exact Nat.le_of_eq rfl) (hb hby at_142) (fun _ _ => ⟨rfl, e157, (by decide : 8 + 1 ≤ _), (by decide : 22 + 1 ≤ _)⟩)
          dsimp only [Pt.U, Pt.locs, Pt.cells, Pt.slots] at X160 l160 y160 z160 st160 hQ160
          subst l160 y160 z160
          obtain ⟨x_160, rfl, Nq160, K160, f160_0, f160_1, f160_2⟩ := hQ160
          have N160 := Fr.app N157 Nq160
          refine Ends.step st160 ?_
          show Ends _ _ _ _ (T160.setTop (mkF m 145 #[.val (.int p1), .val (.int p2), .val (.int p3), .val (.ref b1), .val (.ref b6), .val (.ref b12), .val (.ref b17), .val (.int (1 : Int32)), .val (.int (1 : Int32)), .val (.ref a147), .val (.ref a155), .unset, .unset, .unset, .unset, .unset, .unset, .unset] [(.ref x_160)]))
          refine Ends.step (fun t k => XS.goto X160.here hx rfl (pc0 := 145) (pc' := 151) rfl (hb hby at_145) (by decide) (by decide) k) ?_
          show Ends _ _ _ _ (T160.setTop (mkF m 151 #[.val (.int p1), .val (.int p2), .val (.int p3), .val (.ref b1), .val (.ref b6), .val (.ref b12), .val (.ref b17), .val (.int (1 : Int32)), .val (.int (1 : Int32)), .val (.ref a147), .val (.ref a155), .unset, .unset, .unset, .unset, .unset, .unset, .unset] [(.ref x_160)]))
          refine Ends.step (fun t k => XS.astore X160.here hx rfl (hb hby at_151) rfl rfl (l' := #[.val (.int p1), .val (.int p2), .val (.int p3), .val (.ref b1), .val (.ref b6), .val (.ref b12), .val (.ref b17), .val (.int (1 : Int32)), .val (.int (1 : Int32)), .val (.ref a147), .val (.ref a155), .val (.ref x_160), .unset, .unset, .unset, .unset, .unset, .unset]) rfl k) ?_
          show Ends _ _ _ _ (T160.setTop (mkF m 153 #[.val (.int p1), .val (.int p2), .val (.int p3), .val (.ref b1), .val (.ref b6), .val (.ref b12), .val (.ref b17), .val (.int (1 : Int32)), .val (.int (1 : Int32)), .val (.ref a147), .val (.ref a155), .val (.ref x_160), .unset, .unset, .unset, .unset, .unset, .unset] []))
          refine Ends.step (fun t k => XS.iload X160.here hx rfl (hb hby at_153) rfl k) ?_
          show Ends _ _ _ _ (T160.setTop (mkF m 155 #[.val (.int p1), .val (.int p2), .val (.int p3), .val (.ref b1), .val (.ref b6), .val (.ref b12), .val (.ref b17), .val (.int (1 : Int32)), .val (.int (1 : Int32)), .val (.ref a147), .val (.ref a155), .val (.ref x_160), .unset, .unset, .unset, .unset, .unset, .unset] [(.int (1 : Int32))]))
          refine Ends.step (fun t k => XS.ifNo X160.here hx rfl (hb hby at_155) rfl ((if0 _ _).trans (feq (by decide : ¬ ((1 : Int32) = (0 : Int32)))).1) k) ?_
          show Ends _ _ _ _ (T160.setTop (mkF m 158 #[.val (.int p1), .val (.int p2), .val (.int p3), .val (.ref b1), .val (.ref b6), .val (.ref b12), .val (.ref b17), .val (.int (1 : Int32)), .val (.int (1 : Int32)), .val (.ref a147), .val (.ref a155), .val (.ref x_160), .unset, .unset, .unset, .unset, .unset, .unset] []))
          refine Ends.step (fun t k => XS.aload X160.here hx rfl (hb hby at_158) rfl rfl k) ?_
          show Ends _ _ _ _ (T160.setTop (mkF m 160 #[.val (.int p1), .val (.int p2), .val (.int p3), .val (.ref b1), .val (.ref b6), .val (.ref b12), .val (.ref b17), .val (.int (1 : Int32)), .val (.int (1 : Int32)), .val (.ref a147), .val (.ref a155), .val (.ref x_160), .unset, .unset, .unset, .unset, .unset, .unset] [(.ref a155)]))
          have F161 : Old Z n0 T160.heap := (F159.keep K160 all0)
          obtain ⟨_, _, ⟨T162, L162, k162, n162⟩, -, X162, ⟨Lc162, hQ162, l162, y162, z162⟩, st162⟩ := Jvm.LawKit.callS X160 hx (y := (⟨"java/util/Optional", "of", "(Ljava/lang/Object;)Ljava/util/Optional;"⟩ : MethodName)) hown (mvT hZ (hw _ (List.mem_of_getElem? (i := 51) rfl))) (mvT hZ (hw _ (List.mem_of_getElem? (i := 52) rfl))) (mvT hZ (hw _ (List.mem_of_getElem? (i := 48) rfl))) (mvT hZ (hw _ (List.mem_of_getElem? (i := 53) rfl))) (by decide) (backOf (W := 0) (rmOpOf l Z a0 hw [] a155 T160.heap n0 (Nat.le_trans Z0 (Nat.le_trans (Nat.le_trans (Nat.le_trans (Nat.le_trans K11.1 K22.1) K149.1) K157.1) K160.1)) G1 O2 P5 eA SE XE FE rZ SZ F161 ) hZ (hw _ (List.mem_of_getElem? (i := 53) rfl)) (hw _ (List.mem_of_getElem? (i := 48) rfl)) (by decide) (by decide)) (g := (mkF m 160 #[.val (.int p1), .val (.int p2), .val (.int p3), .val (.ref b1), .val (.ref b6), .val (.ref b12), .val (.ref b17), .val (.int (1 : Int32)), .val (.int (1 : Int32)), .val (.ref a147), .val (.ref a155), .val (.ref x_160), .unset, .unset, .unset, .unset, .unset, .unset] [(.ref a155)])) rfl (by rw [hml]; rfl) (argsL := [(.ref a155)]) (rest := []) (lenOf pd_9 rfl) rfl (by show 2 * 0 + _ ≤ _; exact Nat.le_of_eq rfl) (hb hby at_160) (fun _ _ => ⟨rfl, rfl, (by decide : 9 + 1 ≤ _), (by decide : 23 + 1 ≤ _)⟩)
          dsimp only [Pt.U, Pt.locs, Pt.cells, Pt.slots] at X162 l162 y162 z162 st162 hQ162
          subst l162 y162 z162
          obtain ⟨x_162, rfl, Nq162, K162, f162_0, f162_1, f162_2⟩ := hQ162
          have N162 := Fr.app N160 Nq162
          refine Ends.step st162 ?_
          show Ends _ _ _ _ (T162.setTop (mkF m 163 #[.val (.int p1), .val (.int p2), .val (.int p3), .val (.ref b1), .val (.ref b6), .val (.ref b12), .val (.ref b17), .val (.int (1 : Int32)), .val (.int (1 : Int32)), .val (.ref a147), .val (.ref a155), .val (.ref x_160), .unset, .unset, .unset, .unset, .unset, .unset] [(.ref x_162)]))
          refine Ends.step (fun t k => XS.goto X162.here hx rfl (pc0 := 163) (pc' := 169) rfl (hb hby at_163) (by decide) (by decide) k) ?_
          show Ends _ _ _ _ (T162.setTop (mkF m 169 #[.val (.int p1), .val (.int p2), .val (.int p3), .val (.ref b1), .val (.ref b6), .val (.ref b12), .val (.ref b17), .val (.int (1 : Int32)), .val (.int (1 : Int32)), .val (.ref a147), .val (.ref a155), .val (.ref x_160), .unset, .unset, .unset, .unset, .unset, .unset] [(.ref x_162)]))
          refine Ends.step (fun t k => XS.astore X162.here hx rfl (hb hby at_169) rfl rfl (l' := #[.val (.int p1), .val (.int p2), .val (.int p3), .val (.ref b1), .val (.ref b6), .val (.ref b12), .val (.ref b17), .val (.int (1 : Int32)), .val (.int (1 : Int32)), .val (.ref a147), .val (.ref a155), .val (.ref x_160), .val (.ref x_162), .unset, .unset, .unset, .unset, .unset]) rfl k) ?_
          show Ends _ _ _ _ (T162.setTop (mkF m 171 #[.val (.int p1), .val (.int p2), .val (.int p3), .val (.ref b1), .val (.ref b6), .val (.ref b12), .val (.ref b17), .val (.int (1 : Int32)), .val (.int (1 : Int32)), .val (.ref a147), .val (.ref a155), .val (.ref x_160), .val (.ref x_162), .unset, .unset, .unset, .unset, .unset] []))
          obtain ⟨T163, h163, X163, e163, E163, A163, D163, -, st163⟩ := newO X162 hx hZ hown (hw _ (List.mem_of_getElem? (i := 67) rfl)) (hw _ (List.mem_of_getElem? (i := 68) rfl)) (hw _ (List.mem_of_getElem? (i := 69) rfl)) rfl (g := (mkF m 171 #[.val (.int p1), .val (.int p2), .val (.int p3), .val (.ref b1), .val (.ref b6), .val (.ref b12), .val (.ref b17), .val (.int (1 : Int32)), .val (.int (1 : Int32)), .val (.ref a147), .val (.ref a155), .val (.ref x_160), .val (.ref x_162), .unset, .unset, .unset, .unset, .unset] [])) rfl (hb hby at_171) (by decide) (by decide)
          obtain ⟨b163, g163⟩ : ∃ z, z = T162.heap.size := ⟨_, rfl⟩
          rw [← g163] at A163 D163 st163
          refine Ends.step st163 ?_
          show Ends _ _ _ _ (T163.setTop (mkF m 174 #[.val (.int p1), .val (.int p2), .val (.int p3), .val (.ref b1), .val (.ref b6), .val (.ref b12), .val (.ref b17), .val (.int (1 : Int32)), .val (.int (1 : Int32)), .val (.ref a147), .val (.ref a155), .val (.ref x_160), .val (.ref x_162), .unset, .unset, .unset, .unset, .unset] [(.ref b163)]))
          refine Ends.step (fun t k => XS.dup X163.here hx rfl (hb hby at_174) rfl rfl k) ?_
          show Ends _ _ _ _ (T163.setTop (mkF m 175 #[.val (.int p1), .val (.int p2), .val (.int p3), .val (.ref b1), .val (.ref b6), .val (.ref b12), .val (.ref b17), .val (.int (1 : Int32)), .val (.int (1 : Int32)), .val (.ref a147), .val (.ref a155), .val (.ref x_160), .val (.ref x_162), .unset, .unset, .unset, .unset, .unset] [(.ref b163), (.ref b163)]))
          refine Ends.step (fun t k => XS.aload X163.here hx rfl (hb hby at_175) rfl rfl k) ?_
          show Ends _ _ _ _ (T163.setTop (mkF m 177 #[.val (.int p1), .val (.int p2), .val (.int p3), .val (.ref b1), .val (.ref b6), .val (.ref b12), .val (.ref b17), .val (.int (1 : Int32)), .val (.int (1 : Int32)), .val (.ref a147), .val (.ref a155), .val (.ref x_160), .val (.ref x_162), .unset, .unset, .unset, .unset, .unset] [(.ref b6), (.ref b163), (.ref b163)]))
          refine Ends.step (fun t k => XS.aload X163.here hx rfl (hb hby at_177) rfl rfl k) ?_
          show Ends _ _ _ _ (T163.setTop (mkF m 179 #[.val (.int p1), .val (.int p2), .val (.int p3), .val (.ref b1), .val (.ref b6), .val (.ref b12), .val (.ref b17), .val (.int (1 : Int32)), .val (.int (1 : Int32)), .val (.ref a147), .val (.ref a155), .val (.ref x_160), .val (.ref x_162), .unset, .unset, .unset, .unset, .unset] [(.ref x_160), (.ref b6), (.ref b163), (.ref b163)]))
          refine Ends.step (fun t k => XS.aload X163.here hx rfl (hb hby at_179) rfl rfl k) ?_
          show Ends _ _ _ _ (T163.setTop (mkF m 181 #[.val (.int p1), .val (.int p2), .val (.int p3), .val (.ref b1), .val (.ref b6), .val (.ref b12), .val (.ref b17), .val (.int (1 : Int32)), .val (.int (1 : Int32)), .val (.ref a147), .val (.ref a155), .val (.ref x_160), .val (.ref x_162), .unset, .unset, .unset, .unset, .unset] [(.ref b17), (.ref x_160), (.ref b6), (.ref b163), (.ref b163)]))
          refine Ends.step (fun t k => XS.aload X163.here hx rfl (hb hby at_181) rfl rfl k) ?_
          show Ends _ _ _ _ (T163.setTop (mkF m 183 #[.val (.int p1), .val (.int p2), .val (.int p3), .val (.ref b1), .val (.ref b6), .val (.ref b12), .val (.ref b17), .val (.int (1 : Int32)), .val (.int (1 : Int32)), .val (.ref a147), .val (.ref a155), .val (.ref x_160), .val (.ref x_162), .unset, .unset, .unset, .unset, .unset] [(.ref x_162), (.ref b17), (.ref x_160), (.ref b6), (.ref b163), (.ref b163)]))
          have F164 : Old Z n0 h163 := ((F161.keep K162 all0).ext E163)
          obtain ⟨_, _, ⟨T165, L165, k165, n165⟩, -, X165, ⟨Lc165, hQ165, l165, y165, z165⟩, st165⟩ := X163.specialBack hx (y := (⟨"com/example/miki_basin/mikibasin/Copy$Held", "<init>", "(Ljava/lang/String;Ljava/util/Optional;Ljava/lang/String;Ljava/util/Optional;)V"⟩ : MethodName)) rfl hown (mvT hZ (hw _ (List.mem_of_getElem? (i := 70) rfl))) (mvT hZ (hw _ (List.mem_of_getElem? (i := 71) rfl))) (mvT hZ (hw _ (List.mem_of_getElem? (i := 72) rfl))) (by decide) (backOf (W := 1) (rmHeldI l Z a0 hw [] b163 (.ref b6) (.ref x_160) (.ref b17) (.ref x_162) h163 n0 (Nat.le_trans Z0 (Nat.le_trans (Nat.le_trans (Nat.le_trans (Nat.le_trans (Nat.le_trans (Nat.le_trans K11.1 K22.1) K149.1) K157.1) K160.1) K162.1) E163.1)) G1 O2 P5 eA SE XE FE rZ SZ F164 rfl rfl rfl rfl A163 (D163 (Or.inr (hw _ (List.mem_of_getElem? (i := 80) rfl))) (ty := (.object "java/lang/String")) (by decide)) (D163 (Or.inr (hw _ (List.mem_of_getElem? (i := 82) rfl))) (ty := (.object "java/util/Optional")) (by decide)) (D163 (Or.inr (hw _ (List.mem_of_getElem? (i := 84) rfl))) (ty := (.object "java/lang/String")) (by decide)) (D163 (Or.inr (hw _ (List.mem_of_getElem? (i := 86) rfl))) (ty := (.object "java/util/Optional")) (by decide)) (Nat.le_trans (Nat.le_trans Z0 (Nat.le_trans (Nat.le_trans (Nat.le_trans (Nat.le_trans (Nat.le_trans K11.1 K22.1) K149.1) K157.1) K160.1) K162.1)) (Nat.le_of_eq g163.symm))) hZ (hw _ (List.mem_of_getElem? (i := 72) rfl)) (hw _ (List.mem_of_getElem? (i := 69) rfl)) (by decide) (by decide)) (g := (mkF m 183 #[.val (.int p1), .val (.int p2), .val (.int p3), .val (.ref b1), .val (.ref b6), .val (.ref b12), .val (.ref b17), .val (.int (1 : Int32)), .val (.int (1 : Int32)), .val (.ref a147), .val (.ref a155), .val (.ref x_160), .val (.ref x_162), .unset, .unset, .unset, .unset, .unset] [(.ref x_162), (.ref b17), (.ref x_160), (.ref b6), (.ref b163), (.ref b163)])) rfl (by rw [hml]; rfl) (Steps.refl _) (a := b163) (argsL := [(.ref b6), (.ref x_160), (.ref b17), (.ref x_162)]) (rest := [(.ref b163)]) (lenOf pd_12 rfl) rfl (by show 2 * 0 + _ ≤ _; exact Nat.le_of_eq rfl) (hb hby at_183) (fun _ _ => ⟨rfl, e163, (by decide : 11 + 0 ≤ _), (by decide : 28 + 0 ≤ _)⟩)
          dsimp only [Pt.U, Pt.locs, Pt.cells, Pt.slots] at X165 l165 y165 z165 st165 hQ165
          subst l165 y165 z165
          obtain ⟨rfl, Nq165, K165, f165_0, f165_1, f165_2, f165_3, f165_4⟩ := hQ165
          have N165 := Fr.app N162 Nq165
          refine Ends.go st165 ?_
          have K166 : Keep T162.heap T165.heap [] := (((Keep.refl T162.heap []).ext E163).trans K165 (allS (Or.inr (Nat.le_trans (Nat.le_refl _) (Nat.le_of_eq g163.symm))) all0))
          show Ends _ _ _ _ (T165.setTop (mkF m 186 #[.val (.int p1), .val (.int p2), .val (.int p3), .val (.ref b1), .val (.ref b6), .val (.ref b12), .val (.ref b17), .val (.int (1 : Int32)), .val (.int (1 : Int32)), .val (.ref a147), .val (.ref a155), .val (.ref x_160), .val (.ref x_162), .unset, .unset, .unset, .unset, .unset] [(.ref b163)]))
          refine Ends.step (fun t k => XS.astore X165.here hx rfl (hb hby at_186) rfl rfl (l' := #[.val (.int p1), .val (.int p2), .val (.int p3), .val (.ref b1), .val (.ref b6), .val (.ref b12), .val (.ref b17), .val (.int (1 : Int32)), .val (.int (1 : Int32)), .val (.ref a147), .val (.ref a155), .val (.ref x_160), .val (.ref x_162), .val (.ref b163), .unset, .unset, .unset, .unset]) rfl k) ?_
          show Ends _ _ _ _ (T165.setTop (mkF m 188 #[.val (.int p1), .val (.int p2), .val (.int p3), .val (.ref b1), .val (.ref b6), .val (.ref b12), .val (.ref b17), .val (.int (1 : Int32)), .val (.int (1 : Int32)), .val (.ref a147), .val (.ref a155), .val (.ref x_160), .val (.ref x_162), .val (.ref b163), .unset, .unset, .unset, .unset] []))
          refine Ends.step (fun t k => XS.aload X165.here hx rfl (hb hby at_188) rfl rfl k) ?_
          show Ends _ _ _ _ (T165.setTop (mkF m 190 #[.val (.int p1), .val (.int p2), .val (.int p3), .val (.ref b1), .val (.ref b6), .val (.ref b12), .val (.ref b17), .val (.int (1 : Int32)), .val (.int (1 : Int32)), .val (.ref a147), .val (.ref a155), .val (.ref x_160), .val (.ref x_162), .val (.ref b163), .unset, .unset, .unset, .unset] [(.ref b163)]))
          have F167 : Exa Z T165.heap x_160 "java/util/Optional" := ((f160_1.keep K162).keep K166)
          have F168 : Fld Z T165.heap x_160 "java/util/Optional" "value" "Ljava/lang/Object;" (.ref a147) := ((f160_2.keep K162 nin0).keep K166 nin0)
          have F169 : Exa Z T165.heap x_162 "java/util/Optional" := (f162_1.keep K166)
          have F170 : Fld Z T165.heap x_162 "java/util/Optional" "value" "Ljava/lang/Object;" (.ref a155) := (f162_2.keep K166 nin0)
          have F171 : Exa Z T165.heap a147 "com/example/miki_basin/mikibasin/Figure" := ((((jf150.keep K157).keep K160).keep K162).keep K166)
          have F172 : Exa Z T165.heap a155 "com/example/miki_basin/mikibasin/Figure" := (((jf158.keep K160).keep K162).keep K166)
          have F173 : Old Z n0 T165.heap := (F164.keep K165 (allS (Nat.le_trans (Nat.le_trans Z0 (Nat.le_trans (Nat.le_trans (Nat.le_trans (Nat.le_trans (Nat.le_trans K11.1 K22.1) K149.1) K157.1) K160.1) K162.1)) (Nat.le_of_eq g163.symm)) all0))
          obtain ⟨cq174, kq174, q174a, q174b, q174c⟩ := isOf hZ rfl f165_0
          obtain ⟨_, _, ⟨T174, L174, k174, n174⟩, -, X174, ⟨Lc174, hQ174, l174, y174, z174⟩, st174⟩ := X165.virtualBack hx (y := (⟨"com/example/miki_basin/mikibasin/Copy$Held", "pair", "()Ljava/util/Optional;"⟩ : MethodName)) (z := (⟨"com/example/miki_basin/mikibasin/Copy$Held", "pair", "()Ljava/util/Optional;"⟩ : MethodName)) hown (mvT hZ (hw _ (List.mem_of_getElem? (i := 87) rfl))) (mvT hZ (hw _ (List.mem_of_getElem? (i := 88) rfl))) (notFace_of_selects (args := #[]) (mvT hZ (hw _ (List.mem_of_getElem? (i := 90) rfl)))) (mvT hZ (hw _ (List.mem_of_getElem? (i := 90) rfl))) (mvT hZ (hw _ (List.mem_of_getElem? (i := 89) rfl))) (by decide) (backOf (W := 0) (rmPair_c l Z a0 hw [] b163 b6 x_160 b17 x_162 a147 a155 T165.heap n0 (Nat.le_trans Z0 (Nat.le_trans (Nat.le_trans (Nat.le_trans (Nat.le_trans (Nat.le_trans (Nat.le_trans K11.1 K22.1) K149.1) K157.1) K160.1) K162.1) K166.1)) G1 O2 P5 eA SE XE FE rZ SZ F173 f165_1 f165_2 f165_3 f165_4 F167 F168 F169 F170 F171 F172) hZ (hw _ (List.mem_of_getElem? (i := 91) rfl)) (hw _ (List.mem_of_getElem? (i := 69) rfl)) (by decide) (by decide)) q174a q174c (g := (mkF m 190 #[.val (.int p1), .val (.int p2), .val (.int p3), .val (.ref b1), .val (.ref b6), .val (.ref b12), .val (.ref b17), .val (.int (1 : Int32)), .val (.int (1 : Int32)), .val (.ref a147), .val (.ref a155), .val (.ref x_160), .val (.ref x_162), .val (.ref b163), .unset, .unset, .unset, .unset] [(.ref b163)])) rfl (by rw [hml]; rfl) (Steps.refl _) (argsL := []) (rest := []) (lenOf pd_5 rfl) rfl (by show 2 * 0 + _ ≤ _; exact Nat.le_of_eq rfl) (hb hby at_190) (fun _ _ => ⟨rfl, rfl, (by decide : 11 + 4 ≤ _), (by decide : 28 + 7 ≤ _)⟩)
          dsimp only [Pt.U, Pt.locs, Pt.cells, Pt.slots] at X174 l174 y174 z174 st174 hQ174
          subst l174 y174 z174
          obtain ⟨x_174, pr_174, c1_174, c2_174, rfl, Nq174, K174, f174_0, f174_1, f174_2, f174_3, f174_4, f174_5, f174_6, f174_7, f174_8, f174_9, f174_10, f174_11⟩ := hQ174
          have N174 := Fr.app N165 Nq174
          refine Ends.go st174 ?_
          show Ends _ _ _ _ (T174.setTop (mkF m 193 #[.val (.int p1), .val (.int p2), .val (.int p3), .val (.ref b1), .val (.ref b6), .val (.ref b12), .val (.ref b17), .val (.int (1 : Int32)), .val (.int (1 : Int32)), .val (.ref a147), .val (.ref a155), .val (.ref x_160), .val (.ref x_162), .val (.ref b163), .unset, .unset, .unset, .unset] [(.ref x_174)]))
          refine Ends.step (fun t k => XS.astore X174.here hx rfl (hb hby at_193) rfl rfl (l' := #[.val (.int p1), .val (.int p2), .val (.int p3), .val (.ref b1), .val (.ref b6), .val (.ref b12), .val (.ref b17), .val (.int (1 : Int32)), .val (.int (1 : Int32)), .val (.ref a147), .val (.ref a155), .val (.ref x_160), .val (.ref x_162), .val (.ref b163), .val (.ref x_174), .unset, .unset, .unset]) rfl k) ?_
          show Ends _ _ _ _ (T174.setTop (mkF m 195 #[.val (.int p1), .val (.int p2), .val (.int p3), .val (.ref b1), .val (.ref b6), .val (.ref b12), .val (.ref b17), .val (.int (1 : Int32)), .val (.int (1 : Int32)), .val (.ref a147), .val (.ref a155), .val (.ref x_160), .val (.ref x_162), .val (.ref b163), .val (.ref x_174), .unset, .unset, .unset] []))
          refine Ends.step (fun t k => XS.aload X174.here hx rfl (hb hby at_195) rfl rfl k) ?_
          show Ends _ _ _ _ (T174.setTop (mkF m 197 #[.val (.int p1), .val (.int p2), .val (.int p3), .val (.ref b1), .val (.ref b6), .val (.ref b12), .val (.ref b17), .val (.int (1 : Int32)), .val (.int (1 : Int32)), .val (.ref a147), .val (.ref a155), .val (.ref x_160), .val (.ref x_162), .val (.ref b163), .val (.ref x_174), .unset, .unset, .unset] [(.ref x_174)]))
          refine Ends.step (fun t k => XS.ifnonnullYes X174.here hx rfl (pc0 := 197) (pc' := 202) rfl (hb hby at_197) rfl (by decide) (by decide) k) ?_
          show Ends _ _ _ _ (T174.setTop (mkF m 202 #[.val (.int p1), .val (.int p2), .val (.int p3), .val (.ref b1), .val (.ref b6), .val (.ref b12), .val (.ref b17), .val (.int (1 : Int32)), .val (.int (1 : Int32)), .val (.ref a147), .val (.ref a155), .val (.ref x_160), .val (.ref x_162), .val (.ref b163), .val (.ref x_174), .unset, .unset, .unset] []))
          refine Ends.step (fun t k => XS.iload X174.here hx rfl (hb hby at_202) rfl k) ?_
          show Ends _ _ _ _ (T174.setTop (mkF m 204 #[.val (.int p1), .val (.int p2), .val (.int p3), .val (.ref b1), .val (.ref b6), .val (.ref b12), .val (.ref b17), .val (.int (1 : Int32)), .val (.int (1 : Int32)), .val (.ref a147), .val (.ref a155), .val (.ref x_160), .val (.ref x_162), .val (.ref b163), .val (.ref x_174), .unset, .unset, .unset] [(.int (1 : Int32))]))
          refine Ends.step (fun t k => XS.ifNo X174.here hx rfl (hb hby at_204) rfl ((if0 _ _).trans (feq (by decide : ¬ ((1 : Int32) = (0 : Int32)))).1) k) ?_
          show Ends _ _ _ _ (T174.setTop (mkF m 207 #[.val (.int p1), .val (.int p2), .val (.int p3), .val (.ref b1), .val (.ref b6), .val (.ref b12), .val (.ref b17), .val (.int (1 : Int32)), .val (.int (1 : Int32)), .val (.ref a147), .val (.ref a155), .val (.ref x_160), .val (.ref x_162), .val (.ref b163), .val (.ref x_174), .unset, .unset, .unset] []))
          refine Ends.step (fun t k => XS.iload X174.here hx rfl (hb hby at_207) rfl k) ?_
          show Ends _ _ _ _ (T174.setTop (mkF m 209 #[.val (.int p1), .val (.int p2), .val (.int p3), .val (.ref b1), .val (.ref b6), .val (.ref b12), .val (.ref b17), .val (.int (1 : Int32)), .val (.int (1 : Int32)), .val (.ref a147), .val (.ref a155), .val (.ref x_160), .val (.ref x_162), .val (.ref b163), .val (.ref x_174), .unset, .unset, .unset] [(.int (1 : Int32))]))
          refine Ends.step (fun t k => XS.ifYes X174.here hx rfl (pc0 := 209) (pc' := 226) rfl (hb hby at_209) rfl ((if0 _ _).trans (feq (by decide : ¬ ((1 : Int32) = (0 : Int32)))).2) (by decide) (by decide) k) ?_
          show Ends _ _ _ _ (T174.setTop (mkF m 226 #[.val (.int p1), .val (.int p2), .val (.int p3), .val (.ref b1), .val (.ref b6), .val (.ref b12), .val (.ref b17), .val (.int (1 : Int32)), .val (.int (1 : Int32)), .val (.ref a147), .val (.ref a155), .val (.ref x_160), .val (.ref x_162), .val (.ref b163), .val (.ref x_174), .unset, .unset, .unset] []))
          refine Ends.step (fun t k => XS.aload X174.here hx rfl (hb hby at_226) rfl rfl k) ?_
          show Ends _ _ _ _ (T174.setTop (mkF m 228 #[.val (.int p1), .val (.int p2), .val (.int p3), .val (.ref b1), .val (.ref b6), .val (.ref b12), .val (.ref b17), .val (.int (1 : Int32)), .val (.int (1 : Int32)), .val (.ref a147), .val (.ref a155), .val (.ref x_160), .val (.ref x_162), .val (.ref b163), .val (.ref x_174), .unset, .unset, .unset] [(.ref x_174)]))
          have F175 : Old Z n0 T174.heap := (F173.keep K174 all0)
          obtain ⟨cq176, kq176, q176a, q176b, q176c⟩ := isOf hZ rfl f174_1
          obtain ⟨_, _, ⟨T176, L176, k176, n176⟩, -, X176, ⟨Lc176, hQ176, l176, y176, z176⟩, st176⟩ := X174.virtualBack hx (y := (⟨"java/util/Optional", "isPresent", "()Z"⟩ : MethodName)) (z := (⟨"java/util/Optional", "isPresent", "()Z"⟩ : MethodName)) hown (mvT hZ (hw _ (List.mem_of_getElem? (i := 98) rfl))) (mvT hZ (hw _ (List.mem_of_getElem? (i := 99) rfl))) (notFace_of_selects (args := #[]) (mvT hZ (hw _ (List.mem_of_getElem? (i := 101) rfl)))) (mvT hZ (hw _ (List.mem_of_getElem? (i := 101) rfl))) (mvT hZ (hw _ (List.mem_of_getElem? (i := 100) rfl))) (by decide) (backOf (W := 0) (rmOp_isPresent_r l Z a0 hw [] x_174 pr_174 T174.heap n0 (Nat.le_trans Z0 (Nat.le_trans (Nat.le_trans (Nat.le_trans (Nat.le_trans (Nat.le_trans (Nat.le_trans (Nat.le_trans K11.1 K22.1) K149.1) K157.1) K160.1) K162.1) K166.1) K174.1)) G1 O2 P5 eA SE XE FE rZ SZ F175 f174_2) hZ (hw _ (List.mem_of_getElem? (i := 102) rfl)) (hw _ (List.mem_of_getElem? (i := 48) rfl)) (by decide) (by decide)) q176a q176c (g := (mkF m 228 #[.val (.int p1), .val (.int p2), .val (.int p3), .val (.ref b1), .val (.ref b6), .val (.ref b12), .val (.ref b17), .val (.int (1 : Int32)), .val (.int (1 : Int32)), .val (.ref a147), .val (.ref a155), .val (.ref x_160), .val (.ref x_162), .val (.ref b163), .val (.ref x_174), .unset, .unset, .unset] [(.ref x_174)])) rfl (by rw [hml]; rfl) (Steps.refl _) (argsL := []) (rest := []) (lenOf pd_4 rfl) rfl (by show 2 * 0 + _ ≤ _; exact Nat.le_of_eq rfl) (hb hby at_228) (fun _ _ => ⟨rfl, rfl, (by decide : 15 + 0 ≤ _), (by decide : 35 + 0 ≤ _)⟩)
          dsimp only [Pt.U, Pt.locs, Pt.cells, Pt.slots] at X176 l176 y176 z176 st176 hQ176
          subst l176 y176 z176
          obtain ⟨rfl, Nq176, eh176⟩ := hQ176
          have N176 := Fr.app N174 Nq176
          refine Ends.go st176 ?_
          show Ends _ _ _ _ (T176.setTop (mkF m 231 #[.val (.int p1), .val (.int p2), .val (.int p3), .val (.ref b1), .val (.ref b6), .val (.ref b12), .val (.ref b17), .val (.int (1 : Int32)), .val (.int (1 : Int32)), .val (.ref a147), .val (.ref a155), .val (.ref x_160), .val (.ref x_162), .val (.ref b163), .val (.ref x_174), .unset, .unset, .unset] [(.int (1 : Int32))]))
          refine Ends.step (fun t k => XS.ifYes X176.here hx rfl (pc0 := 231) (pc' := 236) rfl (hb hby at_231) rfl ((if0 _ _).trans (feq (by decide : ¬ ((1 : Int32) = (0 : Int32)))).2) (by decide) (by decide) k) ?_
          show Ends _ _ _ _ (T176.setTop (mkF m 236 #[.val (.int p1), .val (.int p2), .val (.int p3), .val (.ref b1), .val (.ref b6), .val (.ref b12), .val (.ref b17), .val (.int (1 : Int32)), .val (.int (1 : Int32)), .val (.ref a147), .val (.ref a155), .val (.ref x_160), .val (.ref x_162), .val (.ref b163), .val (.ref x_174), .unset, .unset, .unset] []))
          refine Ends.step (fun t k => XS.aload X176.here hx rfl (hb hby at_236) rfl rfl k) ?_
          show Ends _ _ _ _ (T176.setTop (mkF m 238 #[.val (.int p1), .val (.int p2), .val (.int p3), .val (.ref b1), .val (.ref b6), .val (.ref b12), .val (.ref b17), .val (.int (1 : Int32)), .val (.int (1 : Int32)), .val (.ref a147), .val (.ref a155), .val (.ref x_160), .val (.ref x_162), .val (.ref b163), .val (.ref x_174), .unset, .unset, .unset] [(.ref x_174)]))
          obtain ⟨cq177, kq177, q177a, q177b, q177c⟩ := isOf hZ eh176 f174_1
          obtain ⟨_, _, ⟨T177, L177, k177, n177⟩, -, X177, ⟨Lc177, hQ177, l177, y177, z177⟩, st177⟩ := X176.virtualBack hx (y := (⟨"java/util/Optional", "get", "()Ljava/lang/Object;"⟩ : MethodName)) (z := (⟨"java/util/Optional", "get", "()Ljava/lang/Object;"⟩ : MethodName)) hown (mvT hZ (hw _ (List.mem_of_getElem? (i := 133) rfl))) (mvT hZ (hw _ (List.mem_of_getElem? (i := 110) rfl))) (notFace_of_selects (args := #[]) (mvT hZ (hw _ (List.mem_of_getElem? (i := 112) rfl)))) (mvT hZ (hw _ (List.mem_of_getElem? (i := 112) rfl))) (mvT hZ (hw _ (List.mem_of_getElem? (i := 111) rfl))) (by decide) (backOf (W := 0) (rmOpGet l Z a0 hw [] x_174 pr_174 T174.heap n0 (Nat.le_trans Z0 (Nat.le_trans (Nat.le_trans (Nat.le_trans (Nat.le_trans (Nat.le_trans (Nat.le_trans (Nat.le_trans K11.1 K22.1) K149.1) K157.1) K160.1) K162.1) K166.1) K174.1)) G1 O2 P5 eA SE XE FE rZ SZ F175 f174_2) hZ (hw _ (List.mem_of_getElem? (i := 113) rfl)) (hw _ (List.mem_of_getElem? (i := 48) rfl)) (by decide) (by decide)) q177a q177c (g := (mkF m 238 #[.val (.int p1), .val (.int p2), .val (.int p3), .val (.ref b1), .val (.ref b6), .val (.ref b12), .val (.ref b17), .val (.int (1 : Int32)), .val (.int (1 : Int32)), .val (.ref a147), .val (.ref a155), .val (.ref x_160), .val (.ref x_162), .val (.ref b163), .val (.ref x_174), .unset, .unset, .unset] [(.ref x_174)])) rfl (by rw [hml]; rfl) (Steps.refl _) (argsL := []) (rest := []) (lenOf pd_6 rfl) rfl (by show 2 * 0 + _ ≤ _; exact Nat.le_of_eq rfl) (hb hby at_238) (fun _ _ => ⟨rfl, eh176, (by decide : 15 + 0 ≤ _), (by decide : 35 + 0 ≤ _)⟩)
          dsimp only [Pt.U, Pt.locs, Pt.cells, Pt.slots] at X177 l177 y177 z177 st177 hQ177
          subst l177 y177 z177
          obtain ⟨rfl, Nq177, eh177⟩ := hQ177
          have N177 := Fr.app N176 Nq177
          refine Ends.go st177 ?_
          show Ends _ _ _ _ (T177.setTop (mkF m 241 #[.val (.int p1), .val (.int p2), .val (.int p3), .val (.ref b1), .val (.ref b6), .val (.ref b12), .val (.ref b17), .val (.int (1 : Int32)), .val (.int (1 : Int32)), .val (.ref a147), .val (.ref a155), .val (.ref x_160), .val (.ref x_162), .val (.ref b163), .val (.ref x_174), .unset, .unset, .unset] [(.ref pr_174)]))
          obtain ⟨T178, X178, e178, st178⟩ := castY X177 hx hZ hown (hw _ (List.mem_of_getElem? (i := 134) rfl)) eh177 (Ins.self f174_3) (g := (mkF m 241 #[.val (.int p1), .val (.int p2), .val (.int p3), .val (.ref b1), .val (.ref b6), .val (.ref b12), .val (.ref b17), .val (.int (1 : Int32)), .val (.int (1 : Int32)), .val (.ref a147), .val (.ref a155), .val (.ref x_160), .val (.ref x_162), .val (.ref b163), .val (.ref x_174), .unset, .unset, .unset] [(.ref pr_174)])) rfl rfl (hb hby at_241)
          refine Ends.step st178 ?_
          show Ends _ _ _ _ (T178.setTop (mkF m 244 #[.val (.int p1), .val (.int p2), .val (.int p3), .val (.ref b1), .val (.ref b6), .val (.ref b12), .val (.ref b17), .val (.int (1 : Int32)), .val (.int (1 : Int32)), .val (.ref a147), .val (.ref a155), .val (.ref x_160), .val (.ref x_162), .val (.ref b163), .val (.ref x_174), .unset, .unset, .unset] [(.ref pr_174)]))
          refine Ends.step (fun t k => XS.astore X178.here hx rfl (hb hby at_244) rfl rfl (l' := #[.val (.int p1), .val (.int p2), .val (.int p3), .val (.ref b1), .val (.ref b6), .val (.ref b12), .val (.ref b17), .val (.int (1 : Int32)), .val (.int (1 : Int32)), .val (.ref a147), .val (.ref a155), .val (.ref x_160), .val (.ref x_162), .val (.ref b163), .val (.ref x_174), .val (.ref pr_174), .unset, .unset]) rfl k) ?_
          show Ends _ _ _ _ (T178.setTop (mkF m 246 #[.val (.int p1), .val (.int p2), .val (.int p3), .val (.ref b1), .val (.ref b6), .val (.ref b12), .val (.ref b17), .val (.int (1 : Int32)), .val (.int (1 : Int32)), .val (.ref a147), .val (.ref a155), .val (.ref x_160), .val (.ref x_162), .val (.ref b163), .val (.ref x_174), .val (.ref pr_174), .unset, .unset] []))
          refine Ends.step (fun t k => XS.aload X178.here hx rfl (hb hby at_246) rfl rfl k) ?_
          show Ends _ _ _ _ (T178.setTop (mkF m 248 #[.val (.int p1), .val (.int p2), .val (.int p3), .val (.ref b1), .val (.ref b6), .val (.ref b12), .val (.ref b17), .val (.int (1 : Int32)), .val (.int (1 : Int32)), .val (.ref a147), .val (.ref a155), .val (.ref x_160), .val (.ref x_162), .val (.ref b163), .val (.ref x_174), .val (.ref pr_174), .unset, .unset] [(.ref pr_174)]))
          obtain ⟨cq179, kq179, q179a, q179b, q179c⟩ := isOf hZ e178 f174_3
          obtain ⟨_, _, ⟨T179, L179, k179, n179⟩, -, X179, ⟨Lc179, hQ179, l179, y179, z179⟩, st179⟩ := X178.virtualBack hx (y := (⟨"com/example/miki_basin/mikibasin/Copy$Pair", "copy", "()Lcom/example/miki_basin/mikibasin/Copy;"⟩ : MethodName)) (z := (⟨"com/example/miki_basin/mikibasin/Copy$Pair", "copy", "()Lcom/example/miki_basin/mikibasin/Copy;"⟩ : MethodName)) hown (mvT hZ (hw _ (List.mem_of_getElem? (i := 136) rfl))) (mvT hZ (hw _ (List.mem_of_getElem? (i := 137) rfl))) (notFace_of_selects (args := #[]) (mvT hZ (hw _ (List.mem_of_getElem? (i := 139) rfl)))) (mvT hZ (hw _ (List.mem_of_getElem? (i := 139) rfl))) (mvT hZ (hw _ (List.mem_of_getElem? (i := 138) rfl))) (by decide) (backOf (W := 0) (rmPc l Z a0 hw [] pr_174 (.ref c1_174) T174.heap n0 (Nat.le_trans Z0 (Nat.le_trans (Nat.le_trans (Nat.le_trans (Nat.le_trans (Nat.le_trans (Nat.le_trans (Nat.le_trans K11.1 K22.1) K149.1) K157.1) K160.1) K162.1) K166.1) K174.1)) G1 O2 P5 eA SE XE FE rZ SZ F175 f174_4 rfl) hZ (hw _ (List.mem_of_getElem? (i := 140) rfl)) (hw _ (List.mem_of_getElem? (i := 105) rfl)) (by decide) (by decide)) q179a q179c (g := (mkF m 248 #[.val (.int p1), .val (.int p2), .val (.int p3), .val (.ref b1), .val (.ref b6), .val (.ref b12), .val (.ref b17), .val (.int (1 : Int32)), .val (.int (1 : Int32)), .val (.ref a147), .val (.ref a155), .val (.ref x_160), .val (.ref x_162), .val (.ref b163), .val (.ref x_174), .val (.ref pr_174), .unset, .unset] [(.ref pr_174)])) rfl (by rw [hml]; rfl) (Steps.refl _) (argsL := []) (rest := []) (lenOf pd_13 rfl) rfl (by show 2 * 0 + _ ≤ _; exact Nat.le_of_eq rfl) (hb hby at_248) (fun _ _ => ⟨rfl, e178, (by decide : 15 + 0 ≤ _), (by decide : 35 + 0 ≤ _)⟩)
          dsimp only [Pt.U, Pt.locs, Pt.cells, Pt.slots] at X179 l179 y179 z179 st179 hQ179
          subst l179 y179 z179
          obtain ⟨rfl, Nq179, eh179⟩ := hQ179
          have N179 := Fr.app N177 Nq179
          refine Ends.go st179 ?_
          show Ends _ _ _ _ (T179.setTop (mkF m 251 #[.val (.int p1), .val (.int p2), .val (.int p3), .val (.ref b1), .val (.ref b6), .val (.ref b12), .val (.ref b17), .val (.int (1 : Int32)), .val (.int (1 : Int32)), .val (.ref a147), .val (.ref a155), .val (.ref x_160), .val (.ref x_162), .val (.ref b163), .val (.ref x_174), .val (.ref pr_174), .unset, .unset] [(.ref c1_174)]))
          refine Ends.step (fun t k => XS.astore X179.here hx rfl (hb hby at_251) rfl rfl (l' := #[.val (.int p1), .val (.int p2), .val (.int p3), .val (.ref b1), .val (.ref b6), .val (.ref b12), .val (.ref b17), .val (.int (1 : Int32)), .val (.int (1 : Int32)), .val (.ref a147), .val (.ref a155), .val (.ref x_160), .val (.ref x_162), .val (.ref b163), .val (.ref x_174), .val (.ref pr_174), .val (.ref c1_174), .unset]) rfl k) ?_
          show Ends _ _ _ _ (T179.setTop (mkF m 253 #[.val (.int p1), .val (.int p2), .val (.int p3), .val (.ref b1), .val (.ref b6), .val (.ref b12), .val (.ref b17), .val (.int (1 : Int32)), .val (.int (1 : Int32)), .val (.ref a147), .val (.ref a155), .val (.ref x_160), .val (.ref x_162), .val (.ref b163), .val (.ref x_174), .val (.ref pr_174), .val (.ref c1_174), .unset] []))
          refine Ends.step (fun t k => XS.aload X179.here hx rfl (hb hby at_253) rfl rfl k) ?_
          show Ends _ _ _ _ (T179.setTop (mkF m 255 #[.val (.int p1), .val (.int p2), .val (.int p3), .val (.ref b1), .val (.ref b6), .val (.ref b12), .val (.ref b17), .val (.int (1 : Int32)), .val (.int (1 : Int32)), .val (.ref a147), .val (.ref a155), .val (.ref x_160), .val (.ref x_162), .val (.ref b163), .val (.ref x_174), .val (.ref pr_174), .val (.ref c1_174), .unset] [(.ref pr_174)]))
          obtain ⟨cq180, kq180, q180a, q180b, q180c⟩ := isOf hZ eh179 f174_3
          obtain ⟨_, _, ⟨T180, L180, k180, n180⟩, -, X180, ⟨Lc180, hQ180, l180, y180, z180⟩, st180⟩ := X179.virtualBack hx (y := (⟨"com/example/miki_basin/mikibasin/Copy$Pair", "other", "()Lcom/example/miki_basin/mikibasin/Copy;"⟩ : MethodName)) (z := (⟨"com/example/miki_basin/mikibasin/Copy$Pair", "other", "()Lcom/example/miki_basin/mikibasin/Copy;"⟩ : MethodName)) hown (mvT hZ (hw _ (List.mem_of_getElem? (i := 141) rfl))) (mvT hZ (hw _ (List.mem_of_getElem? (i := 142) rfl))) (notFace_of_selects (args := #[]) (mvT hZ (hw _ (List.mem_of_getElem? (i := 144) rfl)))) (mvT hZ (hw _ (List.mem_of_getElem? (i := 144) rfl))) (mvT hZ (hw _ (List.mem_of_getElem? (i := 143) rfl))) (by decide) (backOf (W := 0) (rmPo l Z a0 hw [] pr_174 (.ref c2_174) T174.heap n0 (Nat.le_trans Z0 (Nat.le_trans (Nat.le_trans (Nat.le_trans (Nat.le_trans (Nat.le_trans (Nat.le_trans (Nat.le_trans K11.1 K22.1) K149.1) K157.1) K160.1) K162.1) K166.1) K174.1)) G1 O2 P5 eA SE XE FE rZ SZ F175 f174_5 rfl) hZ (hw _ (List.mem_of_getElem? (i := 145) rfl)) (hw _ (List.mem_of_getElem? (i := 105) rfl)) (by decide) (by decide)) q180a q180c (g := (mkF m 255 #[.val (.int p1), .val (.int p2), .val (.int p3), .val (.ref b1), .val (.ref b6), .val (.ref b12), .val (.ref b17), .val (.int (1 : Int32)), .val (.int (1 : Int32)), .val (.ref a147), .val (.ref a155), .val (.ref x_160), .val (.ref x_162), .val (.ref b163), .val (.ref x_174), .val (.ref pr_174), .val (.ref c1_174), .unset] [(.ref pr_174)])) rfl (by rw [hml]; rfl) (Steps.refl _) (argsL := []) (rest := []) (lenOf pd_13 rfl) rfl (by show 2 * 0 + _ ≤ _; exact Nat.le_of_eq rfl) (hb hby at_255) (fun _ _ => ⟨rfl, eh179, (by decide : 15 + 0 ≤ _), (by decide : 35 + 0 ≤ _)⟩)
          dsimp only [Pt.U, Pt.locs, Pt.cells, Pt.slots] at X180 l180 y180 z180 st180 hQ180
          subst l180 y180 z180
          obtain ⟨rfl, Nq180, eh180⟩ := hQ180
          have N180 := Fr.app N179 Nq180
          refine Ends.go st180 ?_
          show Ends _ _ _ _ (T180.setTop (mkF m 258 #[.val (.int p1), .val (.int p2), .val (.int p3), .val (.ref b1), .val (.ref b6), .val (.ref b12), .val (.ref b17), .val (.int (1 : Int32)), .val (.int (1 : Int32)), .val (.ref a147), .val (.ref a155), .val (.ref x_160), .val (.ref x_162), .val (.ref b163), .val (.ref x_174), .val (.ref pr_174), .val (.ref c1_174), .unset] [(.ref c2_174)]))
          refine Ends.step (fun t k => XS.astore X180.here hx rfl (hb hby at_258) rfl rfl (l' := #[.val (.int p1), .val (.int p2), .val (.int p3), .val (.ref b1), .val (.ref b6), .val (.ref b12), .val (.ref b17), .val (.int (1 : Int32)), .val (.int (1 : Int32)), .val (.ref a147), .val (.ref a155), .val (.ref x_160), .val (.ref x_162), .val (.ref b163), .val (.ref x_174), .val (.ref pr_174), .val (.ref c1_174), .val (.ref c2_174)]) rfl k) ?_
          show Ends _ _ _ _ (T180.setTop (mkF m 260 #[.val (.int p1), .val (.int p2), .val (.int p3), .val (.ref b1), .val (.ref b6), .val (.ref b12), .val (.ref b17), .val (.int (1 : Int32)), .val (.int (1 : Int32)), .val (.ref a147), .val (.ref a155), .val (.ref x_160), .val (.ref x_162), .val (.ref b163), .val (.ref x_174), .val (.ref pr_174), .val (.ref c1_174), .val (.ref c2_174)] []))
          refine Ends.step (fun t k => XS.aload X180.here hx rfl (hb hby at_260) rfl rfl k) ?_
          show Ends _ _ _ _ (T180.setTop (mkF m 262 #[.val (.int p1), .val (.int p2), .val (.int p3), .val (.ref b1), .val (.ref b6), .val (.ref b12), .val (.ref b17), .val (.int (1 : Int32)), .val (.int (1 : Int32)), .val (.ref a147), .val (.ref a155), .val (.ref x_160), .val (.ref x_162), .val (.ref b163), .val (.ref x_174), .val (.ref pr_174), .val (.ref c1_174), .val (.ref c2_174)] [(.ref b6)]))
          refine Ends.step (fun t k => XS.aload X180.here hx rfl (hb hby at_262) rfl rfl k) ?_
          show Ends _ _ _ _ (T180.setTop (mkF m 264 #[.val (.int p1), .val (.int p2), .val (.int p3), .val (.ref b1), .val (.ref b6), .val (.ref b12), .val (.ref b17), .val (.int (1 : Int32)), .val (.int (1 : Int32)), .val (.ref a147), .val (.ref a155), .val (.ref x_160), .val (.ref x_162), .val (.ref b163), .val (.ref x_174), .val (.ref pr_174), .val (.ref c1_174), .val (.ref c2_174)] [(.ref c1_174), (.ref b6)]))
          obtain ⟨cq181, kq181, q181a, q181b, q181c⟩ := isOf hZ eh180 f174_6
          obtain ⟨_, _, ⟨T181, L181, k181, n181⟩, -, X181, ⟨Lc181, hQ181, l181, y181, z181⟩, st181⟩ := X180.virtualBack hx (y := (⟨"com/example/miki_basin/mikibasin/Copy", "name", "()Ljava/lang/String;"⟩ : MethodName)) (z := (⟨"com/example/miki_basin/mikibasin/Copy", "name", "()Ljava/lang/String;"⟩ : MethodName)) hown (mvT hZ (hw _ (List.mem_of_getElem? (i := 146) rfl))) (mvT hZ (hw _ (List.mem_of_getElem? (i := 147) rfl))) (notFace_of_selects (args := #[]) (mvT hZ (hw _ (List.mem_of_getElem? (i := 149) rfl)))) (mvT hZ (hw _ (List.mem_of_getElem? (i := 149) rfl))) (mvT hZ (hw _ (List.mem_of_getElem? (i := 148) rfl))) (by decide) (backOf (W := 1) (rmCn l Z a0 hw [] c1_174 (.ref b6) T174.heap n0 (Nat.le_trans Z0 (Nat.le_trans (Nat.le_trans (Nat.le_trans (Nat.le_trans (Nat.le_trans (Nat.le_trans (Nat.le_trans K11.1 K22.1) K149.1) K157.1) K160.1) K162.1) K166.1) K174.1)) G1 O2 P5 eA SE XE FE rZ SZ F175 f174_7 rfl) hZ (hw _ (List.mem_of_getElem? (i := 150) rfl)) (hw _ (List.mem_of_getElem? (i := 108) rfl)) (by decide) (by decide)) q181a q181c (g := (mkF m 264 #[.val (.int p1), .val (.int p2), .val (.int p3), .val (.ref b1), .val (.ref b6), .val (.ref b12), .val (.ref b17), .val (.int (1 : Int32)), .val (.int (1 : Int32)), .val (.ref a147), .val (.ref a155), .val (.ref x_160), .val (.ref x_162), .val (.ref b163), .val (.ref x_174), .val (.ref pr_174), .val (.ref c1_174), .val (.ref c2_174)] [(.ref c1_174), (.ref b6)])) rfl (by rw [hml]; rfl) (Steps.refl _) (argsL := []) (rest := [(.ref b6)]) (lenOf pd_14 rfl) rfl (by show 2 * 0 + _ ≤ _; exact Nat.le_of_eq rfl) (hb hby at_264) (fun _ _ => ⟨rfl, eh180, (by decide : 15 + 0 ≤ _), (by decide : 35 + 0 ≤ _)⟩)
          dsimp only [Pt.U, Pt.locs, Pt.cells, Pt.slots] at X181 l181 y181 z181 st181 hQ181
          subst l181 y181 z181
          obtain ⟨rfl, Nq181, eh181⟩ := hQ181
          have N181 := Fr.app N180 Nq181
          refine Ends.go st181 ?_
          show Ends _ _ _ _ (T181.setTop (mkF m 267 #[.val (.int p1), .val (.int p2), .val (.int p3), .val (.ref b1), .val (.ref b6), .val (.ref b12), .val (.ref b17), .val (.int (1 : Int32)), .val (.int (1 : Int32)), .val (.ref a147), .val (.ref a155), .val (.ref x_160), .val (.ref x_162), .val (.ref b163), .val (.ref x_174), .val (.ref pr_174), .val (.ref c1_174), .val (.ref c2_174)] [(.ref b6), (.ref b6)]))
          have F182 : Exa Z T174.heap b6 "java/lang/String" := (((((((E10.keep K22).keep K149).keep K157).keep K160).keep K162).keep K166).keep K174)
          obtain ⟨cq183, kq183, q183a, q183b, q183c⟩ := isOf hZ eh181 F182
          obtain ⟨_, _, ⟨T183, L183, k183, n183⟩, -, X183, ⟨Lc183, hQ183, l183, y183, z183⟩, st183⟩ := X181.virtualBack hx (y := (⟨"java/lang/String", "equals", "(Ljava/lang/Object;)Z"⟩ : MethodName)) (z := (⟨"java/lang/String", "equals", "(Ljava/lang/Object;)Z"⟩ : MethodName)) hown (mvT hZ (hw _ (List.mem_of_getElem? (i := 151) rfl))) (mvT hZ (hw _ (List.mem_of_getElem? (i := 152) rfl))) (notFace_of_selects (args := #[]) (mvT hZ (hw _ (List.mem_of_getElem? (i := 154) rfl)))) (mvT hZ (hw _ (List.mem_of_getElem? (i := 154) rfl))) (mvT hZ (hw _ (List.mem_of_getElem? (i := 153) rfl))) (by decide) (backOf (W := 0) (rmEqS l Z a0 hw [] b6 T174.heap n0 (Nat.le_trans Z0 (Nat.le_trans (Nat.le_trans (Nat.le_trans (Nat.le_trans (Nat.le_trans (Nat.le_trans (Nat.le_trans K11.1 K22.1) K149.1) K157.1) K160.1) K162.1) K166.1) K174.1)) G1 O2 P5 eA SE XE FE rZ SZ F175 ) hZ (hw _ (List.mem_of_getElem? (i := 155) rfl)) (hw _ (List.mem_of_getElem? (i := 3) rfl)) (by decide) (by decide)) q183a q183c (g := (mkF m 267 #[.val (.int p1), .val (.int p2), .val (.int p3), .val (.ref b1), .val (.ref b6), .val (.ref b12), .val (.ref b17), .val (.int (1 : Int32)), .val (.int (1 : Int32)), .val (.ref a147), .val (.ref a155), .val (.ref x_160), .val (.ref x_162), .val (.ref b163), .val (.ref x_174), .val (.ref pr_174), .val (.ref c1_174), .val (.ref c2_174)] [(.ref b6), (.ref b6)])) rfl (by rw [hml]; rfl) (Steps.refl _) (argsL := [(.ref b6)]) (rest := []) (lenOf pd_15 rfl) rfl (by show 2 * 0 + _ ≤ _; exact Nat.le_of_eq rfl) (hb hby at_267) (fun _ _ => ⟨rfl, eh181, (by decide : 15 + 0 ≤ _), (by decide : 35 + 0 ≤ _)⟩)
          dsimp only [Pt.U, Pt.locs, Pt.cells, Pt.slots] at X183 l183 y183 z183 st183 hQ183
          subst l183 y183 z183
          obtain ⟨rfl, Nq183, eh183⟩ := hQ183
          have N183 := Fr.app N181 Nq183
          refine Ends.go st183 ?_
          show Ends _ _ _ _ (T183.setTop (mkF m 270 #[.val (.int p1), .val (.int p2), .val (.int p3), .val (.ref b1), .val (.ref b6), .val (.ref b12), .val (.ref b17), .val (.int (1 : Int32)), .val (.int (1 : Int32)), .val (.ref a147), .val (.ref a155), .val (.ref x_160), .val (.ref x_162), .val (.ref b163), .val (.ref x_174), .val (.ref pr_174), .val (.ref c1_174), .val (.ref c2_174)] [(.int (1 : Int32))]))
          refine Ends.step (fun t k => XS.ifNo X183.here hx rfl (hb hby at_270) rfl ((if0 _ _).trans (feq (by decide : ¬ ((1 : Int32) = (0 : Int32)))).1) k) ?_
          show Ends _ _ _ _ (T183.setTop (mkF m 273 #[.val (.int p1), .val (.int p2), .val (.int p3), .val (.ref b1), .val (.ref b6), .val (.ref b12), .val (.ref b17), .val (.int (1 : Int32)), .val (.int (1 : Int32)), .val (.ref a147), .val (.ref a155), .val (.ref x_160), .val (.ref x_162), .val (.ref b163), .val (.ref x_174), .val (.ref pr_174), .val (.ref c1_174), .val (.ref c2_174)] []))
          refine Ends.step (fun t k => XS.aload X183.here hx rfl (hb hby at_273) rfl rfl k) ?_
          show Ends _ _ _ _ (T183.setTop (mkF m 275 #[.val (.int p1), .val (.int p2), .val (.int p3), .val (.ref b1), .val (.ref b6), .val (.ref b12), .val (.ref b17), .val (.int (1 : Int32)), .val (.int (1 : Int32)), .val (.ref a147), .val (.ref a155), .val (.ref x_160), .val (.ref x_162), .val (.ref b163), .val (.ref x_174), .val (.ref pr_174), .val (.ref c1_174), .val (.ref c2_174)] [(.ref c1_174)]))
          obtain ⟨cq184, kq184, q184a, q184b, q184c⟩ := isOf hZ eh183 f174_6
          obtain ⟨_, _, ⟨T184, L184, k184, n184⟩, -, X184, ⟨Lc184, hQ184, l184, y184, z184⟩, st184⟩ := X183.virtualBack hx (y := (⟨"com/example/miki_basin/mikibasin/Copy", "figure", "()Lcom/example/miki_basin/mikibasin/Figure;"⟩ : MethodName)) (z := (⟨"com/example/miki_basin/mikibasin/Copy", "figure", "()Lcom/example/miki_basin/mikibasin/Figure;"⟩ : MethodName)) hown (mvT hZ (hw _ (List.mem_of_getElem? (i := 156) rfl))) (mvT hZ (hw _ (List.mem_of_getElem? (i := 157) rfl))) (notFace_of_selects (args := #[]) (mvT hZ (hw _ (List.mem_of_getElem? (i := 159) rfl)))) (mvT hZ (hw _ (List.mem_of_getElem? (i := 159) rfl))) (mvT hZ (hw _ (List.mem_of_getElem? (i := 158) rfl))) (by decide) (backOf (W := 0) (rmCf l Z a0 hw [] c1_174 (.ref a147) T174.heap n0 (Nat.le_trans Z0 (Nat.le_trans (Nat.le_trans (Nat.le_trans (Nat.le_trans (Nat.le_trans (Nat.le_trans (Nat.le_trans K11.1 K22.1) K149.1) K157.1) K160.1) K162.1) K166.1) K174.1)) G1 O2 P5 eA SE XE FE rZ SZ F175 f174_8 rfl) hZ (hw _ (List.mem_of_getElem? (i := 160) rfl)) (hw _ (List.mem_of_getElem? (i := 108) rfl)) (by decide) (by decide)) q184a q184c (g := (mkF m 275 #[.val (.int p1), .val (.int p2), .val (.int p3), .val (.ref b1), .val (.ref b6), .val (.ref b12), .val (.ref b17), .val (.int (1 : Int32)), .val (.int (1 : Int32)), .val (.ref a147), .val (.ref a155), .val (.ref x_160), .val (.ref x_162), .val (.ref b163), .val (.ref x_174), .val (.ref pr_174), .val (.ref c1_174), .val (.ref c2_174)] [(.ref c1_174)])) rfl (by rw [hml]; rfl) (Steps.refl _) (argsL := []) (rest := []) (lenOf pd_11 rfl) rfl (by show 2 * 0 + _ ≤ _; exact Nat.le_of_eq rfl) (hb hby at_275) (fun _ _ => ⟨rfl, eh183, (by decide : 15 + 0 ≤ _), (by decide : 35 + 0 ≤ _)⟩)
          dsimp only [Pt.U, Pt.locs, Pt.cells, Pt.slots] at X184 l184 y184 z184 st184 hQ184
          subst l184 y184 z184
          obtain ⟨rfl, Nq184, eh184⟩ := hQ184
          have N184 := Fr.app N183 Nq184
          refine Ends.go st184 ?_
          show Ends _ _ _ _ (T184.setTop (mkF m 278 #[.val (.int p1), .val (.int p2), .val (.int p3), .val (.ref b1), .val (.ref b6), .val (.ref b12), .val (.ref b17), .val (.int (1 : Int32)), .val (.int (1 : Int32)), .val (.ref a147), .val (.ref a155), .val (.ref x_160), .val (.ref x_162), .val (.ref b163), .val (.ref x_174), .val (.ref pr_174), .val (.ref c1_174), .val (.ref c2_174)] [(.ref a147)]))
          refine Ends.step (fun t k => XS.aload X184.here hx rfl (hb hby at_278) rfl rfl k) ?_
          show Ends _ _ _ _ (T184.setTop (mkF m 280 #[.val (.int p1), .val (.int p2), .val (.int p3), .val (.ref b1), .val (.ref b6), .val (.ref b12), .val (.ref b17), .val (.int (1 : Int32)), .val (.int (1 : Int32)), .val (.ref a147), .val (.ref a155), .val (.ref x_160), .val (.ref x_162), .val (.ref b163), .val (.ref x_174), .val (.ref pr_174), .val (.ref c1_174), .val (.ref c2_174)] [(.ref a147), (.ref a147)]))
          refine Ends.step (fun t k => acmp X184 hx rfl (x := (.ref a147)) (y := (.ref a147)) rfl rfl (pc0 := 280) (pc' := 283) (same := true) rfl (hb hby at_280) rfl (decide_eq_true rfl) (by decide) (by decide) k) ?_
          show Ends _ _ _ _ (T184.setTop (mkF m 283 #[.val (.int p1), .val (.int p2), .val (.int p3), .val (.ref b1), .val (.ref b6), .val (.ref b12), .val (.ref b17), .val (.int (1 : Int32)), .val (.int (1 : Int32)), .val (.ref a147), .val (.ref a155), .val (.ref x_160), .val (.ref x_162), .val (.ref b163), .val (.ref x_174), .val (.ref pr_174), .val (.ref c1_174), .val (.ref c2_174)] []))
          refine Ends.step (fun t k => XS.aload X184.here hx rfl (hb hby at_283) rfl rfl k) ?_
          show Ends _ _ _ _ (T184.setTop (mkF m 285 #[.val (.int p1), .val (.int p2), .val (.int p3), .val (.ref b1), .val (.ref b6), .val (.ref b12), .val (.ref b17), .val (.int (1 : Int32)), .val (.int (1 : Int32)), .val (.ref a147), .val (.ref a155), .val (.ref x_160), .val (.ref x_162), .val (.ref b163), .val (.ref x_174), .val (.ref pr_174), .val (.ref c1_174), .val (.ref c2_174)] [(.ref b17)]))
          refine Ends.step (fun t k => XS.aload X184.here hx rfl (hb hby at_285) rfl rfl k) ?_
          show Ends _ _ _ _ (T184.setTop (mkF m 287 #[.val (.int p1), .val (.int p2), .val (.int p3), .val (.ref b1), .val (.ref b6), .val (.ref b12), .val (.ref b17), .val (.int (1 : Int32)), .val (.int (1 : Int32)), .val (.ref a147), .val (.ref a155), .val (.ref x_160), .val (.ref x_162), .val (.ref b163), .val (.ref x_174), .val (.ref pr_174), .val (.ref c1_174), .val (.ref c2_174)] [(.ref c2_174), (.ref b17)]))
          obtain ⟨cq185, kq185, q185a, q185b, q185c⟩ := isOf hZ eh184 f174_9
          obtain ⟨_, _, ⟨T185, L185, k185, n185⟩, -, X185, ⟨Lc185, hQ185, l185, y185, z185⟩, st185⟩ := X184.virtualBack hx (y := (⟨"com/example/miki_basin/mikibasin/Copy", "name", "()Ljava/lang/String;"⟩ : MethodName)) (z := (⟨"com/example/miki_basin/mikibasin/Copy", "name", "()Ljava/lang/String;"⟩ : MethodName)) hown (mvT hZ (hw _ (List.mem_of_getElem? (i := 146) rfl))) (mvT hZ (hw _ (List.mem_of_getElem? (i := 147) rfl))) (notFace_of_selects (args := #[]) (mvT hZ (hw _ (List.mem_of_getElem? (i := 149) rfl)))) (mvT hZ (hw _ (List.mem_of_getElem? (i := 149) rfl))) (mvT hZ (hw _ (List.mem_of_getElem? (i := 148) rfl))) (by decide) (backOf (W := 1) (rmCn l Z a0 hw [] c2_174 (.ref b17) T174.heap n0 (Nat.le_trans Z0 (Nat.le_trans (Nat.le_trans (Nat.le_trans (Nat.le_trans (Nat.le_trans (Nat.le_trans (Nat.le_trans K11.1 K22.1) K149.1) K157.1) K160.1) K162.1) K166.1) K174.1)) G1 O2 P5 eA SE XE FE rZ SZ F175 f174_10 rfl) hZ (hw _ (List.mem_of_getElem? (i := 150) rfl)) (hw _ (List.mem_of_getElem? (i := 108) rfl)) (by decide) (by decide)) q185a q185c (g := (mkF m 287 #[.val (.int p1), .val (.int p2), .val (.int p3), .val (.ref b1), .val (.ref b6), .val (.ref b12), .val (.ref b17), .val (.int (1 : Int32)), .val (.int (1 : Int32)), .val (.ref a147), .val (.ref a155), .val (.ref x_160), .val (.ref x_162), .val (.ref b163), .val (.ref x_174), .val (.ref pr_174), .val (.ref c1_174), .val (.ref c2_174)] [(.ref c2_174), (.ref b17)])) rfl (by rw [hml]; rfl) (Steps.refl _) (argsL := []) (rest := [(.ref b17)]) (lenOf pd_14 rfl) rfl (by show 2 * 0 + _ ≤ _; exact Nat.le_of_eq rfl) (hb hby at_287) (fun _ _ => ⟨rfl, eh184, (by decide : 15 + 0 ≤ _), (by decide : 35 + 0 ≤ _)⟩)
          dsimp only [Pt.U, Pt.locs, Pt.cells, Pt.slots] at X185 l185 y185 z185 st185 hQ185
          subst l185 y185 z185
          obtain ⟨rfl, Nq185, eh185⟩ := hQ185
          have N185 := Fr.app N184 Nq185
          refine Ends.go st185 ?_
          show Ends _ _ _ _ (T185.setTop (mkF m 290 #[.val (.int p1), .val (.int p2), .val (.int p3), .val (.ref b1), .val (.ref b6), .val (.ref b12), .val (.ref b17), .val (.int (1 : Int32)), .val (.int (1 : Int32)), .val (.ref a147), .val (.ref a155), .val (.ref x_160), .val (.ref x_162), .val (.ref b163), .val (.ref x_174), .val (.ref pr_174), .val (.ref c1_174), .val (.ref c2_174)] [(.ref b17), (.ref b17)]))
          have F186 : Exa Z T174.heap b17 "java/lang/String" := ((((((E21.keep K149).keep K157).keep K160).keep K162).keep K166).keep K174)
          obtain ⟨cq187, kq187, q187a, q187b, q187c⟩ := isOf hZ eh185 F186
          obtain ⟨_, _, ⟨T187, L187, k187, n187⟩, -, X187, ⟨Lc187, hQ187, l187, y187, z187⟩, st187⟩ := X185.virtualBack hx (y := (⟨"java/lang/String", "equals", "(Ljava/lang/Object;)Z"⟩ : MethodName)) (z := (⟨"java/lang/String", "equals", "(Ljava/lang/Object;)Z"⟩ : MethodName)) hown (mvT hZ (hw _ (List.mem_of_getElem? (i := 151) rfl))) (mvT hZ (hw _ (List.mem_of_getElem? (i := 152) rfl))) (notFace_of_selects (args := #[]) (mvT hZ (hw _ (List.mem_of_getElem? (i := 154) rfl)))) (mvT hZ (hw _ (List.mem_of_getElem? (i := 154) rfl))) (mvT hZ (hw _ (List.mem_of_getElem? (i := 153) rfl))) (by decide) (backOf (W := 0) (rmEqS l Z a0 hw [] b17 T174.heap n0 (Nat.le_trans Z0 (Nat.le_trans (Nat.le_trans (Nat.le_trans (Nat.le_trans (Nat.le_trans (Nat.le_trans (Nat.le_trans K11.1 K22.1) K149.1) K157.1) K160.1) K162.1) K166.1) K174.1)) G1 O2 P5 eA SE XE FE rZ SZ F175 ) hZ (hw _ (List.mem_of_getElem? (i := 155) rfl)) (hw _ (List.mem_of_getElem? (i := 3) rfl)) (by decide) (by decide)) q187a q187c (g := (mkF m 290 #[.val (.int p1), .val (.int p2), .val (.int p3), .val (.ref b1), .val (.ref b6), .val (.ref b12), .val (.ref b17), .val (.int (1 : Int32)), .val (.int (1 : Int32)), .val (.ref a147), .val (.ref a155), .val (.ref x_160), .val (.ref x_162), .val (.ref b163), .val (.ref x_174), .val (.ref pr_174), .val (.ref c1_174), .val (.ref c2_174)] [(.ref b17), (.ref b17)])) rfl (by rw [hml]; rfl) (Steps.refl _) (argsL := [(.ref b17)]) (rest := []) (lenOf pd_15 rfl) rfl (by show 2 * 0 + _ ≤ _; exact Nat.le_of_eq rfl) (hb hby at_290) (fun _ _ => ⟨rfl, eh185, (by decide : 15 + 0 ≤ _), (by decide : 35 + 0 ≤ _)⟩)
          dsimp only [Pt.U, Pt.locs, Pt.cells, Pt.slots] at X187 l187 y187 z187 st187 hQ187
          subst l187 y187 z187
          obtain ⟨rfl, Nq187, eh187⟩ := hQ187
          have N187 := Fr.app N185 Nq187
          refine Ends.go st187 ?_
          show Ends _ _ _ _ (T187.setTop (mkF m 293 #[.val (.int p1), .val (.int p2), .val (.int p3), .val (.ref b1), .val (.ref b6), .val (.ref b12), .val (.ref b17), .val (.int (1 : Int32)), .val (.int (1 : Int32)), .val (.ref a147), .val (.ref a155), .val (.ref x_160), .val (.ref x_162), .val (.ref b163), .val (.ref x_174), .val (.ref pr_174), .val (.ref c1_174), .val (.ref c2_174)] [(.int (1 : Int32))]))
          refine Ends.step (fun t k => XS.ifNo X187.here hx rfl (hb hby at_293) rfl ((if0 _ _).trans (feq (by decide : ¬ ((1 : Int32) = (0 : Int32)))).1) k) ?_
          show Ends _ _ _ _ (T187.setTop (mkF m 296 #[.val (.int p1), .val (.int p2), .val (.int p3), .val (.ref b1), .val (.ref b6), .val (.ref b12), .val (.ref b17), .val (.int (1 : Int32)), .val (.int (1 : Int32)), .val (.ref a147), .val (.ref a155), .val (.ref x_160), .val (.ref x_162), .val (.ref b163), .val (.ref x_174), .val (.ref pr_174), .val (.ref c1_174), .val (.ref c2_174)] []))
          refine Ends.step (fun t k => XS.aload X187.here hx rfl (hb hby at_296) rfl rfl k) ?_
          show Ends _ _ _ _ (T187.setTop (mkF m 298 #[.val (.int p1), .val (.int p2), .val (.int p3), .val (.ref b1), .val (.ref b6), .val (.ref b12), .val (.ref b17), .val (.int (1 : Int32)), .val (.int (1 : Int32)), .val (.ref a147), .val (.ref a155), .val (.ref x_160), .val (.ref x_162), .val (.ref b163), .val (.ref x_174), .val (.ref pr_174), .val (.ref c1_174), .val (.ref c2_174)] [(.ref c2_174)]))
          obtain ⟨cq188, kq188, q188a, q188b, q188c⟩ := isOf hZ eh187 f174_9
          obtain ⟨_, _, ⟨T188, L188, k188, n188⟩, -, X188, ⟨Lc188, hQ188, l188, y188, z188⟩, st188⟩ := X187.virtualBack hx (y := (⟨"com/example/miki_basin/mikibasin/Copy", "figure", "()Lcom/example/miki_basin/mikibasin/Figure;"⟩ : MethodName)) (z := (⟨"com/example/miki_basin/mikibasin/Copy", "figure", "()Lcom/example/miki_basin/mikibasin/Figure;"⟩ : MethodName)) hown (mvT hZ (hw _ (List.mem_of_getElem? (i := 156) rfl))) (mvT hZ (hw _ (List.mem_of_getElem? (i := 157) rfl))) (notFace_of_selects (args := #[]) (mvT hZ (hw _ (List.mem_of_getElem? (i := 159) rfl)))) (mvT hZ (hw _ (List.mem_of_getElem? (i := 159) rfl))) (mvT hZ (hw _ (List.mem_of_getElem? (i := 158) rfl))) (by decide) (backOf (W := 0) (rmCf l Z a0 hw [] c2_174 (.ref a155) T174.heap n0 (Nat.le_trans Z0 (Nat.le_trans (Nat.le_trans (Nat.le_trans (Nat.le_trans (Nat.le_trans (Nat.le_trans (Nat.le_trans K11.1 K22.1) K149.1) K157.1) K160.1) K162.1) K166.1) K174.1)) G1 O2 P5 eA SE XE FE rZ SZ F175 f174_11 rfl) hZ (hw _ (List.mem_of_getElem? (i := 160) rfl)) (hw _ (List.mem_of_getElem? (i := 108) rfl)) (by decide) (by decide)) q188a q188c (g := (mkF m 298 #[.val (.int p1), .val (.int p2), .val (.int p3), .val (.ref b1), .val (.ref b6), .val (.ref b12), .val (.ref b17), .val (.int (1 : Int32)), .val (.int (1 : Int32)), .val (.ref a147), .val (.ref a155), .val (.ref x_160), .val (.ref x_162), .val (.ref b163), .val (.ref x_174), .val (.ref pr_174), .val (.ref c1_174), .val (.ref c2_174)] [(.ref c2_174)])) rfl (by rw [hml]; rfl) (Steps.refl _) (argsL := []) (rest := []) (lenOf pd_11 rfl) rfl (by show 2 * 0 + _ ≤ _; exact Nat.le_of_eq rfl) (hb hby at_298) (fun _ _ => ⟨rfl, eh187, (by decide : 15 + 0 ≤ _), (by decide : 35 + 0 ≤ _)⟩)
          dsimp only [Pt.U, Pt.locs, Pt.cells, Pt.slots] at X188 l188 y188 z188 st188 hQ188
          subst l188 y188 z188
          obtain ⟨rfl, Nq188, eh188⟩ := hQ188
          have N188 := Fr.app N187 Nq188
          refine Ends.go st188 ?_
          show Ends _ _ _ _ (T188.setTop (mkF m 301 #[.val (.int p1), .val (.int p2), .val (.int p3), .val (.ref b1), .val (.ref b6), .val (.ref b12), .val (.ref b17), .val (.int (1 : Int32)), .val (.int (1 : Int32)), .val (.ref a147), .val (.ref a155), .val (.ref x_160), .val (.ref x_162), .val (.ref b163), .val (.ref x_174), .val (.ref pr_174), .val (.ref c1_174), .val (.ref c2_174)] [(.ref a155)]))
          refine Ends.step (fun t k => XS.aload X188.here hx rfl (hb hby at_301) rfl rfl k) ?_
          show Ends _ _ _ _ (T188.setTop (mkF m 303 #[.val (.int p1), .val (.int p2), .val (.int p3), .val (.ref b1), .val (.ref b6), .val (.ref b12), .val (.ref b17), .val (.int (1 : Int32)), .val (.int (1 : Int32)), .val (.ref a147), .val (.ref a155), .val (.ref x_160), .val (.ref x_162), .val (.ref b163), .val (.ref x_174), .val (.ref pr_174), .val (.ref c1_174), .val (.ref c2_174)] [(.ref a155), (.ref a155)]))
          refine Ends.step (fun t k => acmp X188 hx rfl (x := (.ref a155)) (y := (.ref a155)) rfl rfl (pc0 := 303) (pc' := 306) (same := true) rfl (hb hby at_303) rfl (decide_eq_true rfl) (by decide) (by decide) k) ?_
          show Ends _ _ _ _ (T188.setTop (mkF m 306 #[.val (.int p1), .val (.int p2), .val (.int p3), .val (.ref b1), .val (.ref b6), .val (.ref b12), .val (.ref b17), .val (.int (1 : Int32)), .val (.int (1 : Int32)), .val (.ref a147), .val (.ref a155), .val (.ref x_160), .val (.ref x_162), .val (.ref b163), .val (.ref x_174), .val (.ref pr_174), .val (.ref c1_174), .val (.ref c2_174)] []))
          refine Ends.step (fun t k => XS.iconst X188.here hx rfl (hb hby at_306) k) ?_
          show Ends _ _ _ _ (T188.setTop (mkF m 307 #[.val (.int p1), .val (.int p2), .val (.int p3), .val (.ref b1), .val (.ref b6), .val (.ref b12), .val (.ref b17), .val (.int (1 : Int32)), .val (.int (1 : Int32)), .val (.ref a147), .val (.ref a155), .val (.ref x_160), .val (.ref x_162), .val (.ref b163), .val (.ref x_174), .val (.ref pr_174), .val (.ref c1_174), .val (.ref c2_174)] [(.int (1 : Int32))]))
          refine Ends.step (fun t k => XS.goto X188.here hx rfl (pc0 := 307) (pc' := 311) rfl (hb hby at_307) (by decide) (by decide) k) ?_
          show Ends _ _ _ _ (T188.setTop (mkF m 311 #[.val (.int p1), .val (.int p2), .val (.int p3), .val (.ref b1), .val (.ref b6), .val (.ref b12), .val (.ref b17), .val (.int (1 : Int32)), .val (.int (1 : Int32)), .val (.ref a147), .val (.ref a155), .val (.ref x_160), .val (.ref x_162), .val (.ref b163), .val (.ref x_174), .val (.ref pr_174), .val (.ref c1_174), .val (.ref c2_174)] [(.int (1 : Int32))]))
          exact own_finI X188 hx hlk (t := .boolean) Bd.returns (by simp) rfl (hb hby at_311) eh188 ⟨rfl, N188, (((((((((Keep.refl h0 []).trans K11 all0).trans K22 all0).trans K149 all0).trans K157 all0).trans K160 all0).trans K162 all0).trans K166 all0).trans K174 all0)⟩ (by decide) (by decide)
        by_cases c189 : (p3 &&& (8 : Int32)) = (0 : Int32)
        · refine Ends.step (fun t k => XS.ifYes X149.here hx rfl (pc0 := 121) (pc' := 130) rfl (hb hby at_121) rfl ((if0 _ _).trans (teq c189).1) (by decide) (by decide) k) ?_
          show Ends _ _ _ _ (T149.setTop (mkF m 130 #[.val (.int p1), .val (.int p2), .val (.int p3), .val (.ref b1), .val (.ref b6), .val (.ref b12), .val (.ref b17), .val (.int (1 : Int32)), .val (.int (1 : Int32)), .val (.ref a147), .unset, .unset, .unset, .unset, .unset, .unset, .unset, .unset] []))
          have F190 : Old Z n0 h149 := ((F19.keep K21 (allS (Nat.le_trans (Nat.le_trans Z0 (Nat.le_trans (Nat.le_trans (Nat.le_trans K11.1 E12.1) (Nat.le_of_eq W14.size.symm)) (Nat.le_of_eq W16.size.symm))) (Nat.le_of_eq g17.symm)) all0)).keep K149 all0)
          obtain ⟨_, _, ⟨T191, L191, k191, n191⟩, -, X191, ⟨Lc191, hQ191, l191, y191, z191⟩, st191⟩ := Jvm.LawKit.callS X149 hx (y := (⟨"com/example/miki_basin/mikibasin/Figure", "notApplicable", "()Lcom/example/miki_basin/mikibasin/Figure;"⟩ : MethodName)) hown (mvT hZ (hw _ (List.mem_of_getElem? (i := 30) rfl))) (mvT hZ (hw _ (List.mem_of_getElem? (i := 31) rfl))) (mvT hZ (hw _ (List.mem_of_getElem? (i := 32) rfl))) (mvT hZ (hw _ (List.mem_of_getElem? (i := 33) rfl))) (by decide) (backOf (W := 0) (rm_notApplicable l Z a0 hw []  h149 n0 (Nat.le_trans Z0 (Nat.le_trans (Nat.le_trans K11.1 K22.1) K149.1)) G1 O2 P5 eA SE XE FE rZ SZ F190 ) hZ (hw _ (List.mem_of_getElem? (i := 33) rfl)) (hw _ (List.mem_of_getElem? (i := 32) rfl)) (by decide) (by decide)) (g := (mkF m 130 #[.val (.int p1), .val (.int p2), .val (.int p3), .val (.ref b1), .val (.ref b6), .val (.ref b12), .val (.ref b17), .val (.int (1 : Int32)), .val (.int (1 : Int32)), .val (.ref a147), .unset, .unset, .unset, .unset, .unset, .unset, .unset, .unset] [])) rfl (by rw [hml]; rfl) (argsL := []) (rest := []) (lenOf pd_11 rfl) rfl (by show 2 * 0 + _ ≤ _; exact Nat.le_of_eq rfl) (hb hby at_130) (fun _ _ => ⟨rfl, e149, (by decide : 7 + 1 ≤ _), (by decide : 19 + 3 ≤ _)⟩)
          dsimp only [Pt.U, Pt.locs, Pt.cells, Pt.slots] at X191 l191 y191 z191 st191 hQ191
          subst l191 y191 z191
          obtain ⟨x_191, rfl, Nq191, K191, f191_0, f191_1⟩ := hQ191
          have N191 := Fr.app N149 Nq191
          refine Ends.step st191 ?_
          exact J156 x_191 T191 T191.heap _ (own_mono X191 (by decide) (by decide)) rfl N191 ((Keep.refl h149 []).trans K191 all0) f191_1
        · refine Ends.step (fun t k => XS.ifNo X149.here hx rfl (hb hby at_121) rfl ((if0 _ _).trans (feq c189).1) k) ?_
          show Ends _ _ _ _ (T149.setTop (mkF m 124 #[.val (.int p1), .val (.int p2), .val (.int p3), .val (.ref b1), .val (.ref b6), .val (.ref b12), .val (.ref b17), .val (.int (1 : Int32)), .val (.int (1 : Int32)), .val (.ref a147), .unset, .unset, .unset, .unset, .unset, .unset, .unset, .unset] []))
          have F192 : Old Z n0 h149 := ((F19.keep K21 (allS (Nat.le_trans (Nat.le_trans Z0 (Nat.le_trans (Nat.le_trans (Nat.le_trans K11.1 E12.1) (Nat.le_of_eq W14.size.symm)) (Nat.le_of_eq W16.size.symm))) (Nat.le_of_eq g17.symm)) all0)).keep K149 all0)
          obtain ⟨_, _, ⟨T193, L193, k193, n193⟩, -, X193, ⟨Lc193, hQ193, l193, y193, z193⟩, st193⟩ := Jvm.LawKit.callS X149 hx (y := (⟨"com/example/miki_basin/mikibasin/Figure", "blank", "()Lcom/example/miki_basin/mikibasin/Figure;"⟩ : MethodName)) hown (mvT hZ (hw _ (List.mem_of_getElem? (i := 161) rfl))) (mvT hZ (hw _ (List.mem_of_getElem? (i := 162) rfl))) (mvT hZ (hw _ (List.mem_of_getElem? (i := 32) rfl))) (mvT hZ (hw _ (List.mem_of_getElem? (i := 163) rfl))) (by decide) (backOf (W := 0) (rm_blank l Z a0 hw []  h149 n0 (Nat.le_trans Z0 (Nat.le_trans (Nat.le_trans K11.1 K22.1) K149.1)) G1 O2 P5 eA SE XE FE rZ SZ F192 ) hZ (hw _ (List.mem_of_getElem? (i := 163) rfl)) (hw _ (List.mem_of_getElem? (i := 32) rfl)) (by decide) (by decide)) (g := (mkF m 124 #[.val (.int p1), .val (.int p2), .val (.int p3), .val (.ref b1), .val (.ref b6), .val (.ref b12), .val (.ref b17), .val (.int (1 : Int32)), .val (.int (1 : Int32)), .val (.ref a147), .unset, .unset, .unset, .unset, .unset, .unset, .unset, .unset] [])) rfl (by rw [hml]; rfl) (argsL := []) (rest := []) (lenOf pd_11 rfl) rfl (by show 2 * 0 + _ ≤ _; exact Nat.le_of_eq rfl) (hb hby at_124) (fun _ _ => ⟨rfl, e149, (by decide : 7 + 1 ≤ _), (by decide : 19 + 3 ≤ _)⟩)
          dsimp only [Pt.U, Pt.locs, Pt.cells, Pt.slots] at X193 l193 y193 z193 st193 hQ193
          subst l193 y193 z193
          obtain ⟨x_193, rfl, Nq193, K193, f193_0, f193_1⟩ := hQ193
          have N193 := Fr.app N149 Nq193
          refine Ends.step st193 ?_
          show Ends _ _ _ _ (T193.setTop (mkF m 127 #[.val (.int p1), .val (.int p2), .val (.int p3), .val (.ref b1), .val (.ref b6), .val (.ref b12), .val (.ref b17), .val (.int (1 : Int32)), .val (.int (1 : Int32)), .val (.ref a147), .unset, .unset, .unset, .unset, .unset, .unset, .unset, .unset] [(.ref x_193)]))
          refine Ends.step (fun t k => XS.goto X193.here hx rfl (pc0 := 127) (pc' := 133) rfl (hb hby at_127) (by decide) (by decide) k) ?_
          exact J156 x_193 T193 T193.heap _ (own_mono X193 (by decide) (by decide)) rfl N193 ((Keep.refl h149 []).trans K193 all0) f193_1
      by_cases c194 : (p3 &&& (4 : Int32)) = (0 : Int32)
      · refine Ends.step (fun t k => XS.ifYes X21.here hx rfl (pc0 := 103) (pc' := 112) rfl (hb hby at_103) rfl ((if0 _ _).trans (teq c194).1) (by decide) (by decide) k) ?_
        show Ends _ _ _ _ (T21.setTop (mkF m 112 #[.val (.int p1), .val (.int p2), .val (.int p3), .val (.ref b1), .val (.ref b6), .val (.ref b12), .val (.ref b17), .val (.int (1 : Int32)), .val (.int (1 : Int32)), .unset, .unset, .unset, .unset, .unset, .unset, .unset, .unset, .unset] []))
        have F195 : Old Z n0 T21.heap := (F19.keep K21 (allS (Nat.le_trans (Nat.le_trans Z0 (Nat.le_trans (Nat.le_trans (Nat.le_trans K11.1 E12.1) (Nat.le_of_eq W14.size.symm)) (Nat.le_of_eq W16.size.symm))) (Nat.le_of_eq g17.symm)) all0))
        obtain ⟨_, _, ⟨T196, L196, k196, n196⟩, -, X196, ⟨Lc196, hQ196, l196, y196, z196⟩, st196⟩ := Jvm.LawKit.callS X21 hx (y := (⟨"com/example/miki_basin/mikibasin/Figure", "notApplicable", "()Lcom/example/miki_basin/mikibasin/Figure;"⟩ : MethodName)) hown (mvT hZ (hw _ (List.mem_of_getElem? (i := 30) rfl))) (mvT hZ (hw _ (List.mem_of_getElem? (i := 31) rfl))) (mvT hZ (hw _ (List.mem_of_getElem? (i := 32) rfl))) (mvT hZ (hw _ (List.mem_of_getElem? (i := 33) rfl))) (by decide) (backOf (W := 0) (rm_notApplicable l Z a0 hw []  T21.heap n0 (Nat.le_trans Z0 (Nat.le_trans K11.1 K22.1)) G1 O2 P5 eA SE XE FE rZ SZ F195 ) hZ (hw _ (List.mem_of_getElem? (i := 33) rfl)) (hw _ (List.mem_of_getElem? (i := 32) rfl)) (by decide) (by decide)) (g := (mkF m 112 #[.val (.int p1), .val (.int p2), .val (.int p3), .val (.ref b1), .val (.ref b6), .val (.ref b12), .val (.ref b17), .val (.int (1 : Int32)), .val (.int (1 : Int32)), .unset, .unset, .unset, .unset, .unset, .unset, .unset, .unset, .unset] [])) rfl (by rw [hml]; rfl) (argsL := []) (rest := []) (lenOf pd_11 rfl) rfl (by show 2 * 0 + _ ≤ _; exact Nat.le_of_eq rfl) (hb hby at_112) (fun _ _ => ⟨rfl, rfl, (by decide : 6 + 1 ≤ _), (by decide : 16 + 3 ≤ _)⟩)
        dsimp only [Pt.U, Pt.locs, Pt.cells, Pt.slots] at X196 l196 y196 z196 st196 hQ196
        subst l196 y196 z196
        obtain ⟨x_196, rfl, Nq196, K196, f196_0, f196_1⟩ := hQ196
        have N196 := Fr.app N21 Nq196
        refine Ends.step st196 ?_
        exact J148 x_196 T196 T196.heap _ (own_mono X196 (by decide) (by decide)) rfl N196 ((Keep.refl T21.heap []).trans K196 all0) f196_1
      · refine Ends.step (fun t k => XS.ifNo X21.here hx rfl (hb hby at_103) rfl ((if0 _ _).trans (feq c194).1) k) ?_
        show Ends _ _ _ _ (T21.setTop (mkF m 106 #[.val (.int p1), .val (.int p2), .val (.int p3), .val (.ref b1), .val (.ref b6), .val (.ref b12), .val (.ref b17), .val (.int (1 : Int32)), .val (.int (1 : Int32)), .unset, .unset, .unset, .unset, .unset, .unset, .unset, .unset, .unset] []))
        have F197 : Old Z n0 T21.heap := (F19.keep K21 (allS (Nat.le_trans (Nat.le_trans Z0 (Nat.le_trans (Nat.le_trans (Nat.le_trans K11.1 E12.1) (Nat.le_of_eq W14.size.symm)) (Nat.le_of_eq W16.size.symm))) (Nat.le_of_eq g17.symm)) all0))
        obtain ⟨_, _, ⟨T198, L198, k198, n198⟩, -, X198, ⟨Lc198, hQ198, l198, y198, z198⟩, st198⟩ := Jvm.LawKit.callS X21 hx (y := (⟨"com/example/miki_basin/mikibasin/Figure", "blank", "()Lcom/example/miki_basin/mikibasin/Figure;"⟩ : MethodName)) hown (mvT hZ (hw _ (List.mem_of_getElem? (i := 161) rfl))) (mvT hZ (hw _ (List.mem_of_getElem? (i := 162) rfl))) (mvT hZ (hw _ (List.mem_of_getElem? (i := 32) rfl))) (mvT hZ (hw _ (List.mem_of_getElem? (i := 163) rfl))) (by decide) (backOf (W := 0) (rm_blank l Z a0 hw []  T21.heap n0 (Nat.le_trans Z0 (Nat.le_trans K11.1 K22.1)) G1 O2 P5 eA SE XE FE rZ SZ F197 ) hZ (hw _ (List.mem_of_getElem? (i := 163) rfl)) (hw _ (List.mem_of_getElem? (i := 32) rfl)) (by decide) (by decide)) (g := (mkF m 106 #[.val (.int p1), .val (.int p2), .val (.int p3), .val (.ref b1), .val (.ref b6), .val (.ref b12), .val (.ref b17), .val (.int (1 : Int32)), .val (.int (1 : Int32)), .unset, .unset, .unset, .unset, .unset, .unset, .unset, .unset, .unset] [])) rfl (by rw [hml]; rfl) (argsL := []) (rest := []) (lenOf pd_11 rfl) rfl (by show 2 * 0 + _ ≤ _; exact Nat.le_of_eq rfl) (hb hby at_106) (fun _ _ => ⟨rfl, rfl, (by decide : 6 + 1 ≤ _), (by decide : 16 + 3 ≤ _)⟩)
        dsimp only [Pt.U, Pt.locs, Pt.cells, Pt.slots] at X198 l198 y198 z198 st198 hQ198
        subst l198 y198 z198
        obtain ⟨x_198, rfl, Nq198, K198, f198_0, f198_1⟩ := hQ198
        have N198 := Fr.app N21 Nq198
        refine Ends.step st198 ?_
        show Ends _ _ _ _ (T198.setTop (mkF m 109 #[.val (.int p1), .val (.int p2), .val (.int p3), .val (.ref b1), .val (.ref b6), .val (.ref b12), .val (.ref b17), .val (.int (1 : Int32)), .val (.int (1 : Int32)), .unset, .unset, .unset, .unset, .unset, .unset, .unset, .unset, .unset] [(.ref x_198)]))
        refine Ends.step (fun t k => XS.goto X198.here hx rfl (pc0 := 109) (pc' := 115) rfl (hb hby at_109) (by decide) (by decide) k) ?_
        exact J148 x_198 T198 T198.heap _ (own_mono X198 (by decide) (by decide)) rfl N198 ((Keep.refl T21.heap []).trans K198 all0) f198_1
set_option maxRecDepth 65536 in
set_option maxHeartbeats 40000000 in
theorem comes_1 {Post : Tables → Env → Array Value → State → Outcome → State → Prop} (hpost : ∀ tb e args s v u, (limb_1_1.after args s (.returned v) u = true ∧ limb_1_2.after args s (.returned v) u = true ∧ True) → FrameEnd s (.returned v) u (Jvm.fieldLocs frame_1_writes args s ++ Jvm.arrayLocs frame_1_arrays args s ++ Jvm.staticLocs frame_1_statics s) 40 192 → Post tb e args s (.returned v) u) :
    ArmFor flags0 classFile x code maxLocals ret World_1 tables_1 room_1 Calls_1 rest_1 Pre_1 Post := by
  intro l hfl _ _ p e ha hc hk s m args below hf hA hF happ hP
  obtain ⟨hcalls, hrest, hpre⟩ := hP
  obtain ⟨-, -, -, hnamed, -, -, -, hat⟩ := (Spec.applies_iff hf).mp happ
  obtain ⟨hg, hn⟩ := and_e (Cond.before_iff.mp (show (Jvm.Cond.and given_1 narrow_1).before args s = true from hpre))
  obtain ⟨hcount, hg1⟩ := and_e hg
  obtain ⟨w0, w1, w2, rfl⟩ : ∃ w0 w1 w2 : Value, args = #[w0, w1, w2] := by
    have hs : args.size = 3 := by simpa [Cond.value, given_1] using hcount
    obtain ⟨L⟩ := args
    match L, hs with
    | [w0, w1, w2], _ => exact ⟨w0, w1, w2, rfl⟩
  have hw := fun d (hd : d ∈ tables_1) => atoms_spec (ws := Jvm.Cond.code x code maxLocals ret :: tables_1) hat d (List.mem_cons_of_mem _ hd)
  have hfit : Fit s := fun {y c} hc i hi => by
    obtain ⟨ha, rfl⟩ := Array.getElem?_eq_some_iff.mp hc
    have q := List.all_eq_true.mp ((Array.all_eq_true_iff_forall_mem.mp hF) _ (Array.getElem_mem ha)) i (List.mem_range.mpr hi)
    simpa [Array.getElem?_eq_getElem hi] using q
  obtain ⟨ga0, hg2⟩ := and_e hg1
  obtain ⟨i0, ei0⟩ := is_v ga0
  obtain rfl : w0 = (.int i0) := Option.some.inj ei0
  obtain ⟨ga1, hg3⟩ := and_e hg2
  obtain ⟨i1, ei1⟩ := is_v ga1
  obtain rfl : w1 = (.int i1) := Option.some.inj ei1
  obtain ⟨i2, ei2⟩ := is_v hg3
  obtain rfl : w2 = (.int i2) := Option.some.inj ei2
  obtain ⟨hsets, hown0⟩ := atoms_of _ (rest_1_c_eq ▸ (show rest_1_c.before _ s = true from hrest))
  have nCS := not_v (Cond.before_iff.mp (hsets _ (List.mem_of_getElem? (i := 2) rfl)))
  obtain ⟨iCS, eCS⟩ := is_v (Cond.before_iff.mp (hsets _ (List.mem_of_getElem? (i := 1) rfl)))
  have SCS : Sta s s.heap "java/lang/String" "COMPACT_STRINGS" "Z" (.int iCS) := Sta.start eCS (Or.inl (hsets _ (List.mem_of_getElem? (i := 0) rfl)))
  have cCS : ¬ (iCS = (0 : Int32)) := gotF (Cond.eq_ints eCS (Term.int_eval (0))) nCS
  obtain ⟨aE, evE⟩ := exa_v (Cond.before_iff.mp (hsets _ (List.mem_of_getElem? (i := 11) rfl)))
  have SE : Sta s s.heap "java/util/Optional" "EMPTY" "Ljava/util/Optional;" (.ref aE) := Sta.start evE (Or.inl (hsets _ (List.mem_of_getElem? (i := 10) rfl)))
  have XE : Exa s s.heap aE "java/util/Optional" := Exa.start evE (Cond.before_iff.mp (hsets _ (List.mem_of_getElem? (i := 11) rfl)))
  have FE : Fld s s.heap aE "java/util/Optional" "value" "Ljava/lang/Object;" .null := Fld.start ((fld_at evE).symm.trans (null_v (Cond.before_iff.mp (hsets _ (List.mem_of_getElem? (i := 12) rfl)))))
  obtain ⟨aZ, evZ⟩ := exa_v hn
  have SZ : Sta s s.heap "com/example/miki_basin/mikibasin/Rational" "ZERO" "Lcom/example/miki_basin/mikibasin/Rational;" (.ref aZ) := Sta.start evZ (Or.inr ⟨(hw _ (List.mem_of_getElem? (i := 165) rfl)), (hw _ (List.mem_of_getElem? (i := 166) rfl))⟩)
  obtain ⟨n, o, h1, h2, h3, _, L, rfl, ⟨rfl, N, _⟩, hq⟩ := rm0 l s _ hw tables_1 i0 i1 i2 s.heap s.heap.size (Nat.le_refl _) iCS SCS cCS aE SE XE FE aZ SZ (Old.start s) p e ha hc hk s m _ below hf ((Spec.applies_iff_loose hf).mp happ).1 ⟨rfl, State.Warmed39.refl s, rfl⟩ trivial
  refine ⟨n, _, h1, h2, h3, hpost _ _ _ _ _ _ ⟨Cond.after_iff.mpr rfl, Cond.after_iff.mpr (eq_i res_at (Term.int_eval (1)) rfl), trivial⟩ ⟨hq.1, hq.2.1, (hq.2.2.sift fun y hy => Or.inr (N y hy)).mono (by decide) (by decide)⟩⟩
theorem main_1_1 : Claimed_1_1 := comes_1 fun _ _ _ _ _ _ h hF => ⟨h.1, hF⟩
theorem main_1_2 : Claimed_1_2 := comes_1 fun _ _ _ _ _ _ h hF => ⟨h.2.1, hF⟩
end Jvm.Pilot.@@N@@
namespace Jvm.Pilot.@@N@@
open Jvm Jvm.ClassFile Sem Op Lib Jvm.Free Jvm.Stand Jvm.Pilot.@@N@@.Jvm.D
/-! MADE BY PROGRAM (witnessworld.py) out of the Statement's table words and the real class files: 28 classes; the members and pool entries that the words name. The judged class is class 1, her method 1. -/
namespace start1
open Jvm.ClassFile
def u (s : String) : CpInfo := .utf8 (stringToUtf16 s)
/-- a pool by its gaps: so many unusable entries, then the entry; so many at the end -/
def gap : Nat → List CpInfo → List CpInfo
  | 0, r => r
  | n + 1, r => .unusable :: gap n r
def poolList (es : List (Nat × CpInfo)) (last : Nat) : List CpInfo := es.foldr (fun e r => gap e.1 (e.2 :: r)) (gap last [])
def pool (es : List (Nat × CpInfo)) (last : Nat) : Array CpInfo := ⟨poolList es last⟩
def fileOf (pool : Array CpInfo) (this : Nat) (attrs : Array Attribute := #[]) (ms : Array MethodInfo := #[]) (fl : Nat := 33) (sup : Nat := 0) (ifs : Array Nat := #[]) (fds : Array FieldInfo := #[]) : ClassFile where
  minorVersion := 0
  majorVersion := 65
  constantPool := pool
  accessFlags := fl
  thisClass := this
  superClass := sup
  interfaces := ifs
  fields := fds
  methods := ms
  attributes := attrs
def plain (name : String) (sup : Option ClassId) : Class where
  name := name
  kind := .ordinary
  loader := none
  accessFlags := 33
  super := sup
  interfaces := #[]
  cf := none
  fields := #[]
  methods := #[]
  instanceTypes := #[]
  staticTypes := #[]
  resolved := #[]
  callSites := []
  init := .initialized
  statics := none
  mirror := none

def pool0 : Array CpInfo := pool [(5, u "<init>"), (0, u "()V"), (1, .class_ 10), (1, u "java/lang/Object")] 113

def k0c0 : Code := { maxStack := 0, maxLocals := 1, code := object_method_1_code, exceptionTable := #[], attributes := #[] }
def k0m0 : Method := { name := "<init>", desc := "()V", sig := { parameters := [], returnType := none }, accessFlags := 1, code := some k0c0 }
/-- java/lang/Object -/
def k0 : Class := { plain "java/lang/Object" none with
  accessFlags := 33
  interfaces := #[]
  cf := some (fileOf pool0 8 #[] #[{ accessFlags := 1, nameIndex := 5, descriptorIndex := 6, attributes := #[] }] 33 0 #[] #[])
  fields := #[]
  methods := #[k0m0]
  instanceTypes := #[]
  staticTypes := #[]
  resolved := Array.replicate 124 none
  statics := none }

def pool1 : Array CpInfo := pool [(2, .class_ 4), (1, u "java/lang/Object"), (0, u "<init>"), (0, u "()V"), (0, .class_ 8), (0, u "java/lang/String"), (0, .methodref 7 10), (0, .nameAndType 5 11), (0, u "([C)V"), (0, .methodref 13 14), (0, .class_ 15), (0, .nameAndType 16 17), (0, u "com/example/miki_basin/mikibasin/Figure"), (0, u "blank"), (0, u "()Lcom/example/miki_basin/mikibasin/Figure;"), (0, .methodref 13 19), (0, .nameAndType 20 17), (0, u "notApplicable"), (0, .methodref 22 23), (0, .class_ 24), (0, .nameAndType 25 26), (0, u "java/util/Optional"), (0, u "of"), (0, u "(Ljava/lang/Object;)Ljava/util/Optional;"), (0, .methodref 22 28), (0, .nameAndType 29 30), (0, u "empty"), (0, u "()Ljava/util/Optional;"), (0, .class_ 32), (0, u "com/example/miki_basin/mikibasin/Copy$Held"), (0, .methodref 31 34), (0, .nameAndType 5 35), (0, u "(Ljava/lang/String;Ljava/util/Optional;Ljava/lang/String;Ljava/util/Optional;)V"), (0, .methodref 31 37), (0, .nameAndType 38 30), (0, u "pair"), (0, .methodref 22 40), (0, .nameAndType 41 42), (0, u "isPresent"), (0, u "()Z"), (0, .methodref 22 44), (0, .nameAndType 45 46), (0, u "get"), (0, u "()Ljava/lang/Object;"), (0, .class_ 48), (0, u "com/example/miki_basin/mikibasin/Copy$Pair"), (0, .methodref 47 50), (0, .nameAndType 51 52), (0, u "copy"), (0, u "()Lcom/example/miki_basin/mikibasin/Copy;"), (0, .methodref 47 54), (0, .nameAndType 55 52), (0, u "other"), (0, .methodref 57 58), (0, .class_ 59), (0, .nameAndType 60 61), (0, u "com/example/miki_basin/mikibasin/Copy"), (0, u "name"), (0, u "()Ljava/lang/String;"), (0, .methodref 7 63), (0, .nameAndType 64 65), (0, u "equals"), (0, u "(Ljava/lang/Object;)Z"), (0, .methodref 57 67), (0, .nameAndType 68 17), (0, u "figure"), (0, .class_ 70), (0, u "com/example/miki_basin/mikibasin/HeldPairPinLaw"), (2, u "law"), (0, u "(III)Z")] 8

def k1m0 : Method := { name := "<init>", desc := "()V", sig := { parameters := [], returnType := none }, accessFlags := 2, code := none }
def k1c1 : Code := { maxStack := 6, maxLocals := 18, code := code, exceptionTable := #[], attributes := #[] }
def k1m1 : Method := { name := "law", desc := "(III)Z", sig := { parameters := [.int, .int, .int], returnType := some .boolean }, accessFlags := 9, code := some k1c1 }
/-- com/example/miki_basin/mikibasin/HeldPairPinLaw -/
def k1 : Class := { plain "com/example/miki_basin/mikibasin/HeldPairPinLaw" (some 0) with
  accessFlags := 49
  interfaces := #[]
  cf := some (fileOf pool1 69 #[] #[{ accessFlags := 2, nameIndex := 5, descriptorIndex := 6, attributes := #[] }, { accessFlags := 9, nameIndex := 73, descriptorIndex := 74, attributes := #[] }] 49 2 #[] #[])
  fields := #[]
  methods := #[k1m0, k1m1]
  instanceTypes := #[]
  staticTypes := #[]
  resolved := Array.replicate 83 none
  statics := none }

def pool2 : Array CpInfo := pool [(1, .class_ 2), (0, u "java/io/Serializable"), (0, .class_ 4), (0, u "java/lang/Object")] 2

/-- java/io/Serializable -/
def k2 : Class := { plain "java/io/Serializable" (some 0) with
  accessFlags := 1537
  interfaces := #[]
  cf := some (fileOf pool2 1 #[] #[] 1537 3 #[] #[])
  fields := #[]
  methods := #[]
  instanceTypes := #[]
  staticTypes := #[]
  resolved := Array.replicate 7 none
  statics := none }

def pool3 : Array CpInfo := pool [(1, .class_ 2), (0, u "java/lang/Comparable"), (0, .class_ 4), (0, u "java/lang/Object")] 7

/-- java/lang/Comparable -/
def k3 : Class := { plain "java/lang/Comparable" (some 0) with
  accessFlags := 1537
  interfaces := #[]
  cf := some (fileOf pool3 1 #[] #[] 1537 3 #[] #[])
  fields := #[]
  methods := #[]
  instanceTypes := #[]
  staticTypes := #[]
  resolved := Array.replicate 12 none
  statics := none }

def pool4 : Array CpInfo := pool [(2, .class_ 4), (1, u "java/lang/CharSequence"), (42, .class_ 48), (0, u "java/lang/CharSequence$1CodePointIterator"), (10, .class_ 60), (0, u "java/lang/CharSequence$1CharIterator"), (5, .class_ 67), (0, u "java/lang/Object")] 63

/-- java/lang/CharSequence -/
def k4 : Class := { plain "java/lang/CharSequence" (some 0) with
  accessFlags := 1537
  interfaces := #[]
  cf := some (fileOf pool4 2 #[.nestMembers #[47, 59]] #[] 1537 66 #[] #[])
  fields := #[]
  methods := #[]
  instanceTypes := #[]
  staticTypes := #[]
  resolved := Array.replicate 131 none
  statics := none }

def pool5 : Array CpInfo := pool [(1, .class_ 2), (0, u "java/lang/constant/Constable"), (0, .class_ 4), (0, u "java/lang/Object")] 6

/-- java/lang/constant/Constable -/
def k5 : Class := { plain "java/lang/constant/Constable" (some 0) with
  accessFlags := 1537
  interfaces := #[]
  cf := some (fileOf pool5 1 #[] #[] 1537 3 #[] #[])
  fields := #[]
  methods := #[]
  instanceTypes := #[]
  staticTypes := #[]
  resolved := Array.replicate 11 none
  statics := none }

def pool6 : Array CpInfo := pool [(1, .class_ 2), (0, u "java/lang/constant/ConstantDesc"), (0, .class_ 4), (0, u "java/lang/Object")] 32

/-- java/lang/constant/ConstantDesc -/
def k6 : Class := { plain "java/lang/constant/ConstantDesc" (some 0) with
  accessFlags := 1537
  interfaces := #[]
  cf := some (fileOf pool6 1 #[] #[] 1537 3 #[] #[])
  fields := #[]
  methods := #[]
  instanceTypes := #[]
  staticTypes := #[]
  resolved := Array.replicate 37 none
  statics := none }

def pool7 : Array CpInfo := pool [(1, .methodref 2 3), (0, .class_ 4), (0, .nameAndType 5 6), (0, u "java/lang/Object"), (0, u "<init>"), (0, u "()V"), (2, .fieldref 10 11), (0, .class_ 12), (0, .nameAndType 13 14), (0, u "java/lang/String"), (0, u "value"), (0, u "[B"), (0, .fieldref 10 16), (0, .nameAndType 17 18), (0, u "coder"), (0, u "B"), (2, u "hash"), (0, u "I"), (2, u "hashIsZero"), (0, u "Z"), (0, .methodref 10 28), (0, .nameAndType 5 29), (0, u "([CIILjava/lang/Void;)V"), (8, .fieldref 10 39), (0, .nameAndType 40 26), (0, u "COMPACT_STRINGS"), (1, .class_ 44), (1, u "java/lang/StringUTF16"), (0, u "compress"), (1, .methodref 42 48), (0, .nameAndType 49 50), (0, u "coderFromArrayLen"), (0, u "([BI)B"), (126, .methodref 42 178), (0, .nameAndType 45 179), (0, u "([CII)[B"), (363, u "equals"), (29, u "(Ljava/lang/Object;)Z"), (1, .class_ 576), (0, u "java/lang/CharSequence"), (22, u "CASE_INSENSITIVE_ORDER"), (0, u "Ljava/util/Comparator;"), (409, u "([C)V"), (90, u "serialPersistentFields"), (0, u "[Ljava/io/ObjectStreamField;"), (0, .class_ 1104), (0, u "java/lang/String$CaseInsensitiveComparator"), (1, .class_ 1107), (0, u "java/io/Serializable"), (0, .class_ 1109), (0, u "java/lang/Comparable"), (0, .class_ 1111), (0, u "java/lang/constant/Constable"), (0, .class_ 1113), (0, u "java/lang/constant/ConstantDesc"), (2, u "serialVersionUID"), (0, u "J"), (3, u "REPL"), (0, u "C"), (2, u "LATIN1"), (1, u "UTF16")] 323

def k7m0 : Method := { name := "<init>", desc := "()V", sig := { parameters := [], returnType := none }, accessFlags := 1, code := none }
def k7c1 : Code := { maxStack := 5, maxLocals := 2, code := jdk_42_method_3_code, exceptionTable := #[], attributes := #[] }
def k7m1 : Method := { name := "<init>", desc := "([C)V", sig := { parameters := [(.array .char)], returnType := none }, accessFlags := 1, code := some k7c1 }
def k7c2 : Code := { maxStack := 2, maxLocals := 3, code := jdk_42_method_66_code, exceptionTable := #[], attributes := #[] }
def k7m2 : Method := { name := "equals", desc := "(Ljava/lang/Object;)Z", sig := { parameters := [(.object "java/lang/Object")], returnType := some .boolean }, accessFlags := 1, code := some k7c2 }
def k7c3 : Code := { maxStack := 4, maxLocals := 6, code := jdk_42_method_149_code, exceptionTable := #[], attributes := #[] }
def k7m3 : Method := { name := "<init>", desc := "([CIILjava/lang/Void;)V", sig := { parameters := [(.array .char), .int, .int, (.object "java/lang/Void")], returnType := none }, accessFlags := 2, code := some k7c3 }
/-- java/lang/String -/
def k7 : Class := { plain "java/lang/String" (some 0) with
  accessFlags := 49
  interfaces := #[2, 3, 4, 5, 6]
  cf := some (fileOf pool7 10 #[.nestMembers #[1103]] #[{ accessFlags := 1, nameIndex := 5, descriptorIndex := 6, attributes := #[] }, { accessFlags := 1, nameIndex := 5, descriptorIndex := 1010, attributes := #[] }, { accessFlags := 1, nameIndex := 543, descriptorIndex := 573, attributes := #[] }, { accessFlags := 2, nameIndex := 5, descriptorIndex := 29, attributes := #[] }] 49 2 #[1106, 1108, 575, 1110, 1112] #[{ accessFlags := 18, nameIndex := 13, descriptorIndex := 14, attributes := #[] }, { accessFlags := 18, nameIndex := 17, descriptorIndex := 18, attributes := #[] }, { accessFlags := 2, nameIndex := 21, descriptorIndex := 22, attributes := #[] }, { accessFlags := 2, nameIndex := 25, descriptorIndex := 26, attributes := #[] }, { accessFlags := 26, nameIndex := 1116, descriptorIndex := 1117, attributes := #[] }, { accessFlags := 24, nameIndex := 40, descriptorIndex := 26, attributes := #[] }, { accessFlags := 26, nameIndex := 1101, descriptorIndex := 1102, attributes := #[] }, { accessFlags := 26, nameIndex := 1121, descriptorIndex := 1122, attributes := #[] }, { accessFlags := 25, nameIndex := 599, descriptorIndex := 600, attributes := #[] }, { accessFlags := 24, nameIndex := 1125, descriptorIndex := 18, attributes := #[] }, { accessFlags := 24, nameIndex := 1127, descriptorIndex := 18, attributes := #[] }])
  fields := #[{ name := "value", type := (.array .byte), accessFlags := 18, slot := 0, constantValue := 0 }, { name := "coder", type := .byte, accessFlags := 18, slot := 1, constantValue := 0 }, { name := "hash", type := .int, accessFlags := 2, slot := 2, constantValue := 0 }, { name := "hashIsZero", type := .boolean, accessFlags := 2, slot := 3, constantValue := 0 }, { name := "serialVersionUID", type := .long, accessFlags := 26, slot := 0, constantValue := 0 }, { name := "COMPACT_STRINGS", type := .boolean, accessFlags := 24, slot := 1, constantValue := 0 }, { name := "serialPersistentFields", type := (.array (.object "java/io/ObjectStreamField")), accessFlags := 26, slot := 2, constantValue := 0 }, { name := "REPL", type := .char, accessFlags := 26, slot := 3, constantValue := 0 }, { name := "CASE_INSENSITIVE_ORDER", type := (.object "java/util/Comparator"), accessFlags := 25, slot := 4, constantValue := 0 }, { name := "LATIN1", type := .byte, accessFlags := 24, slot := 5, constantValue := 0 }, { name := "UTF16", type := .byte, accessFlags := 24, slot := 6, constantValue := 0 }]
  methods := #[k7m0, k7m1, k7m2, k7m3]
  instanceTypes := #[(.array .byte), .byte, .int, .boolean]
  staticTypes := #[.long, .boolean, (.array (.object "java/io/ObjectStreamField")), .char, (.object "java/util/Comparator"), .byte, .byte]
  resolved := Array.replicate 1451 none
  statics := some 0 }

def pool8 : Array CpInfo := pool [(6, .class_ 8), (1, u "java/lang/Object"), (0, u "<init>"), (0, u "()V"), (1, .class_ 14), (1, u "java/lang/StringUTF16"), (31, u "$assertionsDisabled"), (0, u "Z"), (13, u "HI_BYTE_SHIFT"), (0, u "I"), (2, u "LO_BYTE_SHIFT"), (49, .methodref 12 116), (0, .nameAndType 117 118), (0, u "compress"), (0, u "([CI[BII)I"), (3, u "([CII)[B"), (138, u "coderFromArrayLen"), (0, u "([BI)B"), (106, .class_ 371), (1, u "java/lang/StringUTF16$LinesSpliterator"), (58, u "MAX_LENGTH"), (196, .class_ 628), (0, u "java/lang/StringUTF16$CodePointsSpliterator"), (0, .class_ 630), (0, u "java/lang/StringUTF16$CharsSpliterator")] 4

def k8m0 : Method := { name := "<init>", desc := "()V", sig := { parameters := [], returnType := none }, accessFlags := 0, code := none }
def k8c1 : Code := { maxStack := 2, maxLocals := 2, code := jdk_52_method_15_code, exceptionTable := #[], attributes := #[] }
def k8m1 : Method := { name := "coderFromArrayLen", desc := "([BI)B", sig := { parameters := [(.array .byte), .int], returnType := some .byte }, accessFlags := 8, code := some k8c1 }
def k8c2 : Code := { maxStack := 5, maxLocals := 6, code := jdk_52_method_16_code, exceptionTable := #[], attributes := #[] }
def k8m2 : Method := { name := "compress", desc := "([CII)[B", sig := { parameters := [(.array .char), .int, .int], returnType := some (.array .byte) }, accessFlags := 9, code := some k8c2 }
def k8c3 : Code := { maxStack := 3, maxLocals := 7, code := jdk_52_method_21_code, exceptionTable := #[], attributes := #[] }
def k8m3 : Method := { name := "compress", desc := "([CI[BII)I", sig := { parameters := [(.array .char), .int, (.array .byte), .int, .int], returnType := some .int }, accessFlags := 9, code := some k8c3 }
/-- java/lang/StringUTF16 -/
def k8 : Class := { plain "java/lang/StringUTF16" (some 0) with
  accessFlags := 48
  interfaces := #[]
  cf := some (fileOf pool8 12 #[.nestMembers #[627, 629, 369]] #[{ accessFlags := 0, nameIndex := 9, descriptorIndex := 10, attributes := #[] }, { accessFlags := 8, nameIndex := 261, descriptorIndex := 262, attributes := #[] }, { accessFlags := 9, nameIndex := 117, descriptorIndex := 122, attributes := #[] }, { accessFlags := 9, nameIndex := 117, descriptorIndex := 118, attributes := #[] }] 48 6 #[] #[{ accessFlags := 26, nameIndex := 61, descriptorIndex := 62, attributes := #[] }, { accessFlags := 26, nameIndex := 65, descriptorIndex := 62, attributes := #[] }, { accessFlags := 24, nameIndex := 430, descriptorIndex := 62, attributes := #[] }, { accessFlags := 4120, nameIndex := 46, descriptorIndex := 47, attributes := #[] }])
  fields := #[{ name := "HI_BYTE_SHIFT", type := .int, accessFlags := 26, slot := 0, constantValue := 0 }, { name := "LO_BYTE_SHIFT", type := .int, accessFlags := 26, slot := 1, constantValue := 0 }, { name := "MAX_LENGTH", type := .int, accessFlags := 24, slot := 2, constantValue := 0 }, { name := "$assertionsDisabled", type := .boolean, accessFlags := 4120, slot := 3, constantValue := 0 }]
  methods := #[k8m0, k8m1, k8m2, k8m3]
  instanceTypes := #[]
  staticTypes := #[.int, .int, .int, .boolean]
  resolved := Array.replicate 635 none
  statics := none }

def pool9 : Array CpInfo := pool [(1, .class_ 2), (0, u "com/example/miki_basin/mikibasin/Field"), (0, .class_ 4), (0, u "java/lang/Object"), (5, .class_ 11), (0, u "com/example/miki_basin/mikibasin/Field$Text")] 5

/-- com/example/miki_basin/mikibasin/Field -/
def k9 : Class := { plain "com/example/miki_basin/mikibasin/Field" (some 0) with
  accessFlags := 1536
  interfaces := #[]
  cf := some (fileOf pool9 1 #[.nestMembers #[10]] #[] 1536 3 #[] #[])
  fields := #[]
  methods := #[]
  instanceTypes := #[]
  staticTypes := #[]
  resolved := Array.replicate 17 none
  statics := none }

def pool10 : Array CpInfo := pool [(1, .methodref 2 3), (0, .class_ 4), (0, .nameAndType 5 6), (0, u "java/lang/Object"), (0, u "<init>"), (0, u "()V"), (0, .fieldref 8 9), (0, .class_ 10), (0, .nameAndType 11 12), (0, u "com/example/miki_basin/mikibasin/Figure"), (0, u "number"), (0, u "Ljava/math/BigDecimal;"), (0, .fieldref 8 14), (0, .nameAndType 15 16), (0, u "value"), (0, u "Lcom/example/miki_basin/mikibasin/Rational;"), (0, .fieldref 8 18), (0, .nameAndType 19 20), (0, u "formula"), (0, u "Lcom/example/miki_basin/mikibasin/Formula;"), (1, .class_ 24), (1, u "com/example/miki_basin/mikibasin/Rational"), (2, .methodref 8 28), (0, .nameAndType 5 29), (0, u "(Ljava/math/BigDecimal;Lcom/example/miki_basin/mikibasin/Rational;Lcom/example/miki_basin/mikibasin/Formula;)V"), (0, .class_ 31), (0, u "com/example/miki_basin/mikibasin/Figure$Exact"), (3, .fieldref 22 36), (0, .nameAndType 37 16), (0, u "ZERO"), (32, .class_ 71), (0, u "com/example/miki_basin/mikibasin/Field"), (0, u "NOT_APPLICABLE"), (0, u "Ljava/lang/String;"), (7, u "blank"), (0, u "()Lcom/example/miki_basin/mikibasin/Figure;"), (0, u "notApplicable")] 18

def k10c0 : Code := { maxStack := 2, maxLocals := 4, code := prog_8_method_1_code, exceptionTable := #[], attributes := #[] }
def k10m0 : Method := { name := "<init>", desc := "(Ljava/math/BigDecimal;Lcom/example/miki_basin/mikibasin/Rational;Lcom/example/miki_basin/mikibasin/Formula;)V", sig := { parameters := [(.object "java/math/BigDecimal"), (.object "com/example/miki_basin/mikibasin/Rational"), (.object "com/example/miki_basin/mikibasin/Formula")], returnType := none }, accessFlags := 2, code := some k10c0 }
def k10c1 : Code := { maxStack := 5, maxLocals := 0, code := prog_8_method_5_code, exceptionTable := #[], attributes := #[] }
def k10m1 : Method := { name := "blank", desc := "()Lcom/example/miki_basin/mikibasin/Figure;", sig := { parameters := [], returnType := some (.object "com/example/miki_basin/mikibasin/Figure") }, accessFlags := 8, code := some k10c1 }
def k10c2 : Code := { maxStack := 5, maxLocals := 0, code := prog_8_method_6_code, exceptionTable := #[], attributes := #[] }
def k10m2 : Method := { name := "notApplicable", desc := "()Lcom/example/miki_basin/mikibasin/Figure;", sig := { parameters := [], returnType := some (.object "com/example/miki_basin/mikibasin/Figure") }, accessFlags := 8, code := some k10c2 }
/-- com/example/miki_basin/mikibasin/Figure -/
def k10 : Class := { plain "com/example/miki_basin/mikibasin/Figure" (some 0) with
  accessFlags := 32
  interfaces := #[9]
  cf := some (fileOf pool10 8 #[.nestMembers #[30]] #[{ accessFlags := 2, nameIndex := 5, descriptorIndex := 29, attributes := #[] }, { accessFlags := 8, nameIndex := 81, descriptorIndex := 82, attributes := #[] }, { accessFlags := 8, nameIndex := 83, descriptorIndex := 82, attributes := #[] }] 32 2 #[70] #[{ accessFlags := 24, nameIndex := 72, descriptorIndex := 73, attributes := #[] }, { accessFlags := 18, nameIndex := 11, descriptorIndex := 12, attributes := #[] }, { accessFlags := 18, nameIndex := 15, descriptorIndex := 16, attributes := #[] }, { accessFlags := 18, nameIndex := 19, descriptorIndex := 20, attributes := #[] }])
  fields := #[{ name := "NOT_APPLICABLE", type := (.object "java/lang/String"), accessFlags := 24, slot := 0, constantValue := 0 }, { name := "number", type := (.object "java/math/BigDecimal"), accessFlags := 18, slot := 0, constantValue := 0 }, { name := "value", type := (.object "com/example/miki_basin/mikibasin/Rational"), accessFlags := 18, slot := 1, constantValue := 0 }, { name := "formula", type := (.object "com/example/miki_basin/mikibasin/Formula"), accessFlags := 18, slot := 2, constantValue := 0 }]
  methods := #[k10m0, k10m1, k10m2]
  instanceTypes := #[(.object "java/math/BigDecimal"), (.object "com/example/miki_basin/mikibasin/Rational"), (.object "com/example/miki_basin/mikibasin/Formula")]
  staticTypes := #[(.object "java/lang/String")]
  resolved := Array.replicate 102 none
  statics := none }

def pool11 : Array CpInfo := pool [(1, .fieldref 2 3), (0, .class_ 4), (0, .nameAndType 5 6), (0, u "java/util/Optional"), (0, u "EMPTY"), (0, u "Ljava/util/Optional;"), (0, .methodref 8 9), (0, .class_ 10), (0, .nameAndType 11 12), (0, u "java/lang/Object"), (0, u "<init>"), (0, u "()V"), (0, .fieldref 2 14), (0, .nameAndType 15 16), (0, u "value"), (0, u "Ljava/lang/Object;"), (0, .methodref 18 19), (0, .class_ 20), (0, .nameAndType 21 22), (0, u "java/util/Objects"), (0, u "requireNonNull"), (0, u "(Ljava/lang/Object;)Ljava/lang/Object;"), (0, .methodref 2 24), (0, .nameAndType 11 25), (0, u "(Ljava/lang/Object;)V"), (19, u "isEmpty"), (0, u "()Z"), (8, u "empty"), (0, u "()Ljava/util/Optional;"), (8, u "(Ljava/lang/Object;)Ljava/util/Optional;"), (2, u "isPresent"), (4, u "get"), (0, u "()Ljava/lang/Object;"), (7, u "of")] 104

def k11c0 : Code := { maxStack := 1, maxLocals := 1, code := jdk_32_method_1_code, exceptionTable := #[], attributes := #[] }
def k11m0 : Method := { name := "empty", desc := "()Ljava/util/Optional;", sig := { parameters := [], returnType := some (.object "java/util/Optional") }, accessFlags := 9, code := some k11c0 }
def k11c1 : Code := { maxStack := 2, maxLocals := 2, code := jdk_32_method_2_code, exceptionTable := #[], attributes := #[] }
def k11m1 : Method := { name := "<init>", desc := "(Ljava/lang/Object;)V", sig := { parameters := [(.object "java/lang/Object")], returnType := none }, accessFlags := 2, code := some k11c1 }
def k11c2 : Code := { maxStack := 3, maxLocals := 1, code := jdk_32_method_3_code, exceptionTable := #[], attributes := #[] }
def k11m2 : Method := { name := "of", desc := "(Ljava/lang/Object;)Ljava/util/Optional;", sig := { parameters := [(.object "java/lang/Object")], returnType := some (.object "java/util/Optional") }, accessFlags := 9, code := some k11c2 }
def k11c3 : Code := { maxStack := 3, maxLocals := 1, code := jdk_32_method_5_code, exceptionTable := #[], attributes := #[] }
def k11m3 : Method := { name := "get", desc := "()Ljava/lang/Object;", sig := { parameters := [], returnType := some (.object "java/lang/Object") }, accessFlags := 1, code := some k11c3 }
def k11c4 : Code := { maxStack := 1, maxLocals := 1, code := jdk_32_method_6_code, exceptionTable := #[], attributes := #[] }
def k11m4 : Method := { name := "isPresent", desc := "()Z", sig := { parameters := [], returnType := some .boolean }, accessFlags := 1, code := some k11c4 }
def k11c5 : Code := { maxStack := 1, maxLocals := 1, code := jdk_32_method_7_code, exceptionTable := #[], attributes := #[] }
def k11m5 : Method := { name := "isEmpty", desc := "()Z", sig := { parameters := [], returnType := some .boolean }, accessFlags := 1, code := some k11c5 }
/-- java/util/Optional -/
def k11 : Class := { plain "java/util/Optional" (some 0) with
  accessFlags := 49
  interfaces := #[]
  cf := some (fileOf pool11 2 #[] #[{ accessFlags := 9, nameIndex := 55, descriptorIndex := 56, attributes := #[] }, { accessFlags := 2, nameIndex := 11, descriptorIndex := 25, attributes := #[] }, { accessFlags := 9, nameIndex := 82, descriptorIndex := 65, attributes := #[] }, { accessFlags := 1, nameIndex := 73, descriptorIndex := 74, attributes := #[] }, { accessFlags := 1, nameIndex := 68, descriptorIndex := 46, attributes := #[] }, { accessFlags := 1, nameIndex := 45, descriptorIndex := 46, attributes := #[] }] 49 8 #[] #[{ accessFlags := 26, nameIndex := 5, descriptorIndex := 6, attributes := #[] }, { accessFlags := 18, nameIndex := 15, descriptorIndex := 16, attributes := #[] }])
  fields := #[{ name := "EMPTY", type := (.object "java/util/Optional"), accessFlags := 26, slot := 0, constantValue := 0 }, { name := "value", type := (.object "java/lang/Object"), accessFlags := 18, slot := 0, constantValue := 0 }]
  methods := #[k11m0, k11m1, k11m2, k11m3, k11m4, k11m5]
  instanceTypes := #[(.object "java/lang/Object")]
  staticTypes := #[(.object "java/util/Optional")]
  resolved := Array.replicate 187 none
  statics := some 1 }

def pool12 : Array CpInfo := pool [(2, .class_ 4), (1, u "java/lang/Object"), (0, u "<init>"), (0, u "()V"), (35, .class_ 44), (1, u "java/util/Objects"), (0, u "requireNonNull"), (0, u "(Ljava/lang/Object;)Ljava/lang/Object;")] 137

def k12m0 : Method := { name := "<init>", desc := "()V", sig := { parameters := [], returnType := none }, accessFlags := 2, code := none }
def k12c1 : Code := { maxStack := 2, maxLocals := 1, code := jdk_31_method_10_code, exceptionTable := #[], attributes := #[] }
def k12m1 : Method := { name := "requireNonNull", desc := "(Ljava/lang/Object;)Ljava/lang/Object;", sig := { parameters := [(.object "java/lang/Object")], returnType := some (.object "java/lang/Object") }, accessFlags := 9, code := some k12c1 }
/-- java/util/Objects -/
def k12 : Class := { plain "java/util/Objects" (some 0) with
  accessFlags := 49
  interfaces := #[]
  cf := some (fileOf pool12 42 #[] #[{ accessFlags := 2, nameIndex := 5, descriptorIndex := 6, attributes := #[] }, { accessFlags := 9, nameIndex := 45, descriptorIndex := 46, attributes := #[] }] 49 2 #[] #[])
  fields := #[]
  methods := #[k12m0, k12m1]
  instanceTypes := #[]
  staticTypes := #[]
  resolved := Array.replicate 184 none
  statics := none }

def pool13 : Array CpInfo := pool [(1, .methodref 2 3), (0, .class_ 4), (0, .nameAndType 5 6), (0, u "java/lang/Object"), (0, u "<init>"), (0, u "()V"), (0, .class_ 8), (0, u "java/lang/Record")] 13

def k13c0 : Code := { maxStack := 1, maxLocals := 1, code := jdk_30_method_1_code, exceptionTable := #[], attributes := #[] }
def k13m0 : Method := { name := "<init>", desc := "()V", sig := { parameters := [], returnType := none }, accessFlags := 4, code := some k13c0 }
/-- java/lang/Record -/
def k13 : Class := { plain "java/lang/Record" (some 0) with
  accessFlags := 1057
  interfaces := #[]
  cf := some (fileOf pool13 7 #[] #[{ accessFlags := 4, nameIndex := 5, descriptorIndex := 6, attributes := #[] }] 1057 2 #[] #[])
  fields := #[]
  methods := #[k13m0]
  instanceTypes := #[]
  staticTypes := #[]
  resolved := Array.replicate 22 none
  statics := none }

def pool14 : Array CpInfo := pool [(1, .methodref 2 3), (0, .class_ 4), (0, .nameAndType 5 6), (0, u "java/lang/Record"), (0, u "<init>"), (0, u "()V"), (0, .fieldref 8 9), (0, .class_ 10), (0, .nameAndType 11 12), (0, u "com/example/miki_basin/mikibasin/Copy$Held"), (0, u "name"), (0, u "Ljava/lang/String;"), (0, .fieldref 8 14), (0, .nameAndType 15 16), (0, u "printed"), (0, u "Ljava/util/Optional;"), (0, .fieldref 8 18), (0, .nameAndType 19 12), (0, u "against"), (0, .fieldref 8 21), (0, .nameAndType 22 16), (0, u "value"), (0, .methodref 24 25), (0, .class_ 26), (0, .nameAndType 27 28), (0, u "java/util/Optional"), (0, u "isEmpty"), (0, u "()Z"), (0, .methodref 24 30), (0, .nameAndType 31 32), (0, u "empty"), (0, u "()Ljava/util/Optional;"), (0, .class_ 34), (0, u "com/example/miki_basin/mikibasin/Copy$Pair"), (0, .class_ 36), (0, u "com/example/miki_basin/mikibasin/Copy"), (0, .methodref 24 38), (0, .nameAndType 39 40), (0, u "get"), (0, u "()Ljava/lang/Object;"), (0, .class_ 42), (0, u "com/example/miki_basin/mikibasin/Figure"), (0, .methodref 35 44), (0, .nameAndType 5 45), (0, u "(Ljava/lang/String;Lcom/example/miki_basin/mikibasin/Figure;)V"), (0, .methodref 33 47), (0, .nameAndType 5 48), (0, u "(Lcom/example/miki_basin/mikibasin/Copy;Lcom/example/miki_basin/mikibasin/Copy;)V"), (0, .methodref 24 50), (0, .nameAndType 51 52), (0, u "of"), (0, u "(Ljava/lang/Object;)Ljava/util/Optional;"), (14, u "(Ljava/lang/String;Ljava/util/Optional;Ljava/lang/String;Ljava/util/Optional;)V"), (4, u "pair")] 32

def k14c0 : Code := { maxStack := 2, maxLocals := 5, code := prog_4_method_1_code, exceptionTable := #[], attributes := #[] }
def k14m0 : Method := { name := "<init>", desc := "(Ljava/lang/String;Ljava/util/Optional;Ljava/lang/String;Ljava/util/Optional;)V", sig := { parameters := [(.object "java/lang/String"), (.object "java/util/Optional"), (.object "java/lang/String"), (.object "java/util/Optional")], returnType := none }, accessFlags := 0, code := some k14c0 }
def k14c1 : Code := { maxStack := 7, maxLocals := 1, code := prog_4_method_2_code, exceptionTable := #[], attributes := #[] }
def k14m1 : Method := { name := "pair", desc := "()Ljava/util/Optional;", sig := { parameters := [], returnType := some (.object "java/util/Optional") }, accessFlags := 0, code := some k14c1 }
/-- com/example/miki_basin/mikibasin/Copy$Held -/
def k14 : Class := { plain "com/example/miki_basin/mikibasin/Copy$Held" (some 13) with
  accessFlags := 48
  interfaces := #[]
  cf := some (fileOf pool14 8 #[.nestHost 35] #[{ accessFlags := 0, nameIndex := 5, descriptorIndex := 67, attributes := #[] }, { accessFlags := 0, nameIndex := 72, descriptorIndex := 32, attributes := #[] }] 48 2 #[] #[{ accessFlags := 18, nameIndex := 11, descriptorIndex := 12, attributes := #[] }, { accessFlags := 18, nameIndex := 15, descriptorIndex := 16, attributes := #[] }, { accessFlags := 18, nameIndex := 19, descriptorIndex := 12, attributes := #[] }, { accessFlags := 18, nameIndex := 22, descriptorIndex := 16, attributes := #[] }])
  fields := #[{ name := "name", type := (.object "java/lang/String"), accessFlags := 18, slot := 0, constantValue := 0 }, { name := "printed", type := (.object "java/util/Optional"), accessFlags := 18, slot := 1, constantValue := 0 }, { name := "against", type := (.object "java/lang/String"), accessFlags := 18, slot := 2, constantValue := 0 }, { name := "value", type := (.object "java/util/Optional"), accessFlags := 18, slot := 3, constantValue := 0 }]
  methods := #[k14m0, k14m1]
  instanceTypes := #[(.object "java/lang/String"), (.object "java/util/Optional"), (.object "java/lang/String"), (.object "java/util/Optional")]
  staticTypes := #[]
  resolved := Array.replicate 105 none
  statics := none }

def pool15 : Array CpInfo := pool [(1, .methodref 2 3), (0, .class_ 4), (0, .nameAndType 5 6), (0, u "java/lang/Record"), (0, u "<init>"), (0, u "()V"), (0, .fieldref 8 9), (0, .class_ 10), (0, .nameAndType 11 12), (0, u "com/example/miki_basin/mikibasin/Copy$Pair"), (0, u "copy"), (0, u "Lcom/example/miki_basin/mikibasin/Copy;"), (0, .fieldref 8 14), (0, .nameAndType 15 12), (0, u "other"), (1, .class_ 19), (1, u "com/example/miki_basin/mikibasin/Copy"), (30, u "(Lcom/example/miki_basin/mikibasin/Copy;Lcom/example/miki_basin/mikibasin/Copy;)V"), (8, u "()Lcom/example/miki_basin/mikibasin/Copy;")] 23

def k15c0 : Code := { maxStack := 2, maxLocals := 3, code := prog_5_method_1_code, exceptionTable := #[], attributes := #[] }
def k15m0 : Method := { name := "<init>", desc := "(Lcom/example/miki_basin/mikibasin/Copy;Lcom/example/miki_basin/mikibasin/Copy;)V", sig := { parameters := [(.object "com/example/miki_basin/mikibasin/Copy"), (.object "com/example/miki_basin/mikibasin/Copy")], returnType := none }, accessFlags := 0, code := some k15c0 }
def k15c1 : Code := { maxStack := 1, maxLocals := 1, code := prog_5_method_6_code, exceptionTable := #[], attributes := #[] }
def k15m1 : Method := { name := "copy", desc := "()Lcom/example/miki_basin/mikibasin/Copy;", sig := { parameters := [], returnType := some (.object "com/example/miki_basin/mikibasin/Copy") }, accessFlags := 1, code := some k15c1 }
def k15c2 : Code := { maxStack := 1, maxLocals := 1, code := prog_5_method_7_code, exceptionTable := #[], attributes := #[] }
def k15m2 : Method := { name := "other", desc := "()Lcom/example/miki_basin/mikibasin/Copy;", sig := { parameters := [], returnType := some (.object "com/example/miki_basin/mikibasin/Copy") }, accessFlags := 1, code := some k15c2 }
/-- com/example/miki_basin/mikibasin/Copy$Pair -/
def k15 : Class := { plain "com/example/miki_basin/mikibasin/Copy$Pair" (some 13) with
  accessFlags := 48
  interfaces := #[]
  cf := some (fileOf pool15 8 #[.nestHost 17] #[{ accessFlags := 0, nameIndex := 5, descriptorIndex := 50, attributes := #[] }, { accessFlags := 1, nameIndex := 11, descriptorIndex := 59, attributes := #[] }, { accessFlags := 1, nameIndex := 15, descriptorIndex := 59, attributes := #[] }] 48 2 #[] #[{ accessFlags := 18, nameIndex := 11, descriptorIndex := 12, attributes := #[] }, { accessFlags := 18, nameIndex := 15, descriptorIndex := 12, attributes := #[] }])
  fields := #[{ name := "copy", type := (.object "com/example/miki_basin/mikibasin/Copy"), accessFlags := 18, slot := 0, constantValue := 0 }, { name := "other", type := (.object "com/example/miki_basin/mikibasin/Copy"), accessFlags := 18, slot := 1, constantValue := 0 }]
  methods := #[k15m0, k15m1, k15m2]
  instanceTypes := #[(.object "com/example/miki_basin/mikibasin/Copy"), (.object "com/example/miki_basin/mikibasin/Copy")]
  staticTypes := #[]
  resolved := Array.replicate 83 none
  statics := none }

def pool16 : Array CpInfo := pool [(1, .methodref 2 3), (0, .class_ 4), (0, .nameAndType 5 6), (0, u "java/lang/Record"), (0, u "<init>"), (0, u "()V"), (0, .fieldref 8 9), (0, .class_ 10), (0, .nameAndType 11 12), (0, u "com/example/miki_basin/mikibasin/Copy"), (0, u "name"), (0, u "Ljava/lang/String;"), (0, .fieldref 8 14), (0, .nameAndType 15 16), (0, u "figure"), (0, u "Lcom/example/miki_basin/mikibasin/Figure;"), (32, u "(Ljava/lang/String;Lcom/example/miki_basin/mikibasin/Figure;)V"), (16, u "()Ljava/lang/String;"), (1, u "()Lcom/example/miki_basin/mikibasin/Figure;"), (3, .class_ 73), (0, u "com/example/miki_basin/mikibasin/Copy$Held"), (0, .class_ 75), (0, u "com/example/miki_basin/mikibasin/Copy$Pair")] 29

def k16c0 : Code := { maxStack := 2, maxLocals := 3, code := prog_3_method_1_code, exceptionTable := #[], attributes := #[] }
def k16m0 : Method := { name := "<init>", desc := "(Ljava/lang/String;Lcom/example/miki_basin/mikibasin/Figure;)V", sig := { parameters := [(.object "java/lang/String"), (.object "com/example/miki_basin/mikibasin/Figure")], returnType := none }, accessFlags := 0, code := some k16c0 }
def k16c1 : Code := { maxStack := 1, maxLocals := 1, code := prog_3_method_6_code, exceptionTable := #[], attributes := #[] }
def k16m1 : Method := { name := "name", desc := "()Ljava/lang/String;", sig := { parameters := [], returnType := some (.object "java/lang/String") }, accessFlags := 1, code := some k16c1 }
def k16c2 : Code := { maxStack := 1, maxLocals := 1, code := prog_3_method_7_code, exceptionTable := #[], attributes := #[] }
def k16m2 : Method := { name := "figure", desc := "()Lcom/example/miki_basin/mikibasin/Figure;", sig := { parameters := [], returnType := some (.object "com/example/miki_basin/mikibasin/Figure") }, accessFlags := 1, code := some k16c2 }
/-- com/example/miki_basin/mikibasin/Copy -/
def k16 : Class := { plain "com/example/miki_basin/mikibasin/Copy" (some 13) with
  accessFlags := 48
  interfaces := #[]
  cf := some (fileOf pool16 8 #[.nestMembers #[72, 74]] #[{ accessFlags := 0, nameIndex := 5, descriptorIndex := 49, attributes := #[] }, { accessFlags := 1, nameIndex := 11, descriptorIndex := 66, attributes := #[] }, { accessFlags := 1, nameIndex := 15, descriptorIndex := 68, attributes := #[] }] 48 2 #[] #[{ accessFlags := 18, nameIndex := 11, descriptorIndex := 12, attributes := #[] }, { accessFlags := 18, nameIndex := 15, descriptorIndex := 16, attributes := #[] }])
  fields := #[{ name := "name", type := (.object "java/lang/String"), accessFlags := 18, slot := 0, constantValue := 0 }, { name := "figure", type := (.object "com/example/miki_basin/mikibasin/Figure"), accessFlags := 18, slot := 1, constantValue := 0 }]
  methods := #[k16m0, k16m1, k16m2]
  instanceTypes := #[(.object "java/lang/String"), (.object "com/example/miki_basin/mikibasin/Figure")]
  staticTypes := #[]
  resolved := Array.replicate 105 none
  statics := none }

def pool17 : Array CpInfo := pool [(2, .class_ 4), (1, u "java/lang/Object"), (3, .class_ 10), (1, u "com/example/miki_basin/mikibasin/Rational"), (0, u "numerator"), (0, u "Ljava/math/BigDecimal;"), (2, u "denominator"), (2, u "OF_A_DECIMAL"), (63, u "ONE"), (2, u "ZERO"), (6, u "Lcom/example/miki_basin/mikibasin/Rational;"), (2, .class_ 96), (0, u "java/lang/Comparable")] 12

/-- com/example/miki_basin/mikibasin/Rational -/
def k17 : Class := { plain "com/example/miki_basin/mikibasin/Rational" (some 0) with
  accessFlags := 32
  interfaces := #[3]
  cf := some (fileOf pool17 8 #[] #[] 32 2 #[95] #[{ accessFlags := 26, nameIndex := 18, descriptorIndex := 12, attributes := #[] }, { accessFlags := 24, nameIndex := 85, descriptorIndex := 92, attributes := #[] }, { accessFlags := 24, nameIndex := 82, descriptorIndex := 92, attributes := #[] }, { accessFlags := 18, nameIndex := 11, descriptorIndex := 12, attributes := #[] }, { accessFlags := 18, nameIndex := 15, descriptorIndex := 12, attributes := #[] }])
  fields := #[{ name := "OF_A_DECIMAL", type := (.object "java/math/BigDecimal"), accessFlags := 26, slot := 0, constantValue := 0 }, { name := "ZERO", type := (.object "com/example/miki_basin/mikibasin/Rational"), accessFlags := 24, slot := 1, constantValue := 0 }, { name := "ONE", type := (.object "com/example/miki_basin/mikibasin/Rational"), accessFlags := 24, slot := 2, constantValue := 0 }, { name := "numerator", type := (.object "java/math/BigDecimal"), accessFlags := 18, slot := 0, constantValue := 0 }, { name := "denominator", type := (.object "java/math/BigDecimal"), accessFlags := 18, slot := 1, constantValue := 0 }]
  methods := #[]
  instanceTypes := #[(.object "java/math/BigDecimal"), (.object "java/math/BigDecimal")]
  staticTypes := #[(.object "java/math/BigDecimal"), (.object "com/example/miki_basin/mikibasin/Rational"), (.object "com/example/miki_basin/mikibasin/Rational")]
  resolved := Array.replicate 109 none
  statics := some 2 }

def pool18 : Array CpInfo := pool [(4, .class_ 6), (1, u "java/lang/Object"), (0, u "<init>"), (0, u "()V"), (5, .class_ 16), (1, u "java/lang/StringLatin1"), (104, u "$assertionsDisabled"), (0, u "Z"), (98, .class_ 223), (1, u "java/lang/StringLatin1$LinesSpliterator"), (166, .class_ 391), (0, u "java/lang/StringLatin1$CharsSpliterator")] 3

def k18m0 : Method := { name := "<init>", desc := "()V", sig := { parameters := [], returnType := none }, accessFlags := 0, code := none }
/-- java/lang/StringLatin1 -/
def k18 : Class := { plain "java/lang/StringLatin1" (some 0) with
  accessFlags := 48
  interfaces := #[]
  cf := some (fileOf pool18 14 #[.nestMembers #[390, 221]] #[{ accessFlags := 0, nameIndex := 7, descriptorIndex := 8, attributes := #[] }] 48 4 #[] #[{ accessFlags := 4120, nameIndex := 121, descriptorIndex := 122, attributes := #[] }])
  fields := #[{ name := "$assertionsDisabled", type := .boolean, accessFlags := 4120, slot := 0, constantValue := 0 }]
  methods := #[k18m0]
  instanceTypes := #[]
  staticTypes := #[.boolean]
  resolved := Array.replicate 395 none
  statics := none }

def pool19 : Array CpInfo := pool [(2, .class_ 4), (1, u "java/lang/Object"), (0, u "<init>"), (0, u "()V"), (17, .class_ 26), (1, u "jdk/internal/util/Preconditions"), (28, .class_ 56), (0, u "jdk/internal/util/Preconditions$4"), (57, .class_ 115), (0, u "jdk/internal/util/Preconditions$1"), (7, u "SIOOBE_FORMATTER"), (0, u "Ljava/util/function/BiFunction;"), (0, .class_ 126), (0, u "jdk/internal/util/Preconditions$2"), (3, u "AIOOBE_FORMATTER"), (0, .class_ 132), (0, u "jdk/internal/util/Preconditions$3"), (3, u "IOOBE_FORMATTER")] 57

def k19m0 : Method := { name := "<init>", desc := "()V", sig := { parameters := [], returnType := none }, accessFlags := 1, code := none }
/-- jdk/internal/util/Preconditions -/
def k19 : Class := { plain "jdk/internal/util/Preconditions" (some 0) with
  accessFlags := 33
  interfaces := #[]
  cf := some (fileOf pool19 24 #[.nestMembers #[55, 131, 125, 114]] #[{ accessFlags := 1, nameIndex := 5, descriptorIndex := 6, attributes := #[] }] 33 2 #[] #[{ accessFlags := 25, nameIndex := 123, descriptorIndex := 124, attributes := #[] }, { accessFlags := 25, nameIndex := 130, descriptorIndex := 124, attributes := #[] }, { accessFlags := 25, nameIndex := 136, descriptorIndex := 124, attributes := #[] }])
  fields := #[{ name := "SIOOBE_FORMATTER", type := (.object "java/util/function/BiFunction"), accessFlags := 25, slot := 0, constantValue := 0 }, { name := "AIOOBE_FORMATTER", type := (.object "java/util/function/BiFunction"), accessFlags := 25, slot := 1, constantValue := 0 }, { name := "IOOBE_FORMATTER", type := (.object "java/util/function/BiFunction"), accessFlags := 25, slot := 2, constantValue := 0 }]
  methods := #[k19m0]
  instanceTypes := #[]
  staticTypes := #[(.object "java/util/function/BiFunction"), (.object "java/util/function/BiFunction"), (.object "java/util/function/BiFunction")]
  resolved := Array.replicate 194 none
  statics := some 3 }

def pool20 : Array CpInfo := pool [(9, u "<init>"), (6, .class_ 18), (1, u "java/lang/Object"), (0, u "()V"), (1, .class_ 23), (1, u "jdk/internal/util/ArraysSupport"), (0, u "LOG2_ARRAY_LONG_INDEX_SCALE"), (0, u "I"), (2, u "U"), (0, u "Ljdk/internal/misc/Unsafe;"), (8, u "BIG_ENDIAN"), (0, u "Z"), (8, u "LOG2_BYTE_BIT_SIZE"), (4, u "LOG2_ARRAY_INT_INDEX_SCALE"), (54, u "JLA"), (0, u "Ljdk/internal/access/JavaLangAccess;"), (11, u "LOG2_ARRAY_BOOLEAN_INDEX_SCALE"), (9, u "LOG2_ARRAY_BYTE_INDEX_SCALE"), (5, u "LOG2_ARRAY_CHAR_INDEX_SCALE"), (5, u "LOG2_ARRAY_SHORT_INDEX_SCALE"), (18, u "LOG2_ARRAY_FLOAT_INDEX_SCALE"), (24, u "LOG2_ARRAY_DOUBLE_INDEX_SCALE"), (89, u "T_BOOLEAN"), (2, u "T_CHAR"), (1, u "T_FLOAT"), (1, u "T_DOUBLE"), (1, u "T_BYTE"), (1, u "T_SHORT"), (1, u "T_INT"), (1, u "T_LONG"), (1, u "SOFT_MAX_ARRAY_LENGTH")] 83

def k20m0 : Method := { name := "<init>", desc := "()V", sig := { parameters := [], returnType := none }, accessFlags := 2, code := none }
/-- jdk/internal/util/ArraysSupport -/
def k20 : Class := { plain "jdk/internal/util/ArraysSupport" (some 0) with
  accessFlags := 33
  interfaces := #[]
  cf := some (fileOf pool20 21 #[] #[{ accessFlags := 2, nameIndex := 9, descriptorIndex := 19, attributes := #[] }] 33 16 #[] #[{ accessFlags := 24, nameIndex := 28, descriptorIndex := 29, attributes := #[] }, { accessFlags := 26, nameIndex := 38, descriptorIndex := 39, attributes := #[] }, { accessFlags := 25, nameIndex := 121, descriptorIndex := 25, attributes := #[] }, { accessFlags := 25, nameIndex := 131, descriptorIndex := 25, attributes := #[] }, { accessFlags := 25, nameIndex := 137, descriptorIndex := 25, attributes := #[] }, { accessFlags := 25, nameIndex := 143, descriptorIndex := 25, attributes := #[] }, { accessFlags := 25, nameIndex := 53, descriptorIndex := 25, attributes := #[] }, { accessFlags := 25, nameIndex := 24, descriptorIndex := 25, attributes := #[] }, { accessFlags := 25, nameIndex := 162, descriptorIndex := 25, attributes := #[] }, { accessFlags := 25, nameIndex := 187, descriptorIndex := 25, attributes := #[] }, { accessFlags := 26, nameIndex := 48, descriptorIndex := 25, attributes := #[] }, { accessFlags := 25, nameIndex := 277, descriptorIndex := 25, attributes := #[] }, { accessFlags := 25, nameIndex := 280, descriptorIndex := 25, attributes := #[] }, { accessFlags := 25, nameIndex := 282, descriptorIndex := 25, attributes := #[] }, { accessFlags := 25, nameIndex := 284, descriptorIndex := 25, attributes := #[] }, { accessFlags := 25, nameIndex := 286, descriptorIndex := 25, attributes := #[] }, { accessFlags := 25, nameIndex := 288, descriptorIndex := 25, attributes := #[] }, { accessFlags := 25, nameIndex := 290, descriptorIndex := 25, attributes := #[] }, { accessFlags := 25, nameIndex := 292, descriptorIndex := 25, attributes := #[] }, { accessFlags := 26, nameIndex := 108, descriptorIndex := 109, attributes := #[] }, { accessFlags := 25, nameIndex := 294, descriptorIndex := 25, attributes := #[] }])
  fields := #[{ name := "U", type := (.object "jdk/internal/misc/Unsafe"), accessFlags := 24, slot := 0, constantValue := 0 }, { name := "BIG_ENDIAN", type := .boolean, accessFlags := 26, slot := 1, constantValue := 0 }, { name := "LOG2_ARRAY_BOOLEAN_INDEX_SCALE", type := .int, accessFlags := 25, slot := 2, constantValue := 0 }, { name := "LOG2_ARRAY_BYTE_INDEX_SCALE", type := .int, accessFlags := 25, slot := 3, constantValue := 0 }, { name := "LOG2_ARRAY_CHAR_INDEX_SCALE", type := .int, accessFlags := 25, slot := 4, constantValue := 0 }, { name := "LOG2_ARRAY_SHORT_INDEX_SCALE", type := .int, accessFlags := 25, slot := 5, constantValue := 0 }, { name := "LOG2_ARRAY_INT_INDEX_SCALE", type := .int, accessFlags := 25, slot := 6, constantValue := 0 }, { name := "LOG2_ARRAY_LONG_INDEX_SCALE", type := .int, accessFlags := 25, slot := 7, constantValue := 0 }, { name := "LOG2_ARRAY_FLOAT_INDEX_SCALE", type := .int, accessFlags := 25, slot := 8, constantValue := 0 }, { name := "LOG2_ARRAY_DOUBLE_INDEX_SCALE", type := .int, accessFlags := 25, slot := 9, constantValue := 0 }, { name := "LOG2_BYTE_BIT_SIZE", type := .int, accessFlags := 26, slot := 10, constantValue := 0 }, { name := "T_BOOLEAN", type := .int, accessFlags := 25, slot := 11, constantValue := 0 }, { name := "T_CHAR", type := .int, accessFlags := 25, slot := 12, constantValue := 0 }, { name := "T_FLOAT", type := .int, accessFlags := 25, slot := 13, constantValue := 0 }, { name := "T_DOUBLE", type := .int, accessFlags := 25, slot := 14, constantValue := 0 }, { name := "T_BYTE", type := .int, accessFlags := 25, slot := 15, constantValue := 0 }, { name := "T_SHORT", type := .int, accessFlags := 25, slot := 16, constantValue := 0 }, { name := "T_INT", type := .int, accessFlags := 25, slot := 17, constantValue := 0 }, { name := "T_LONG", type := .int, accessFlags := 25, slot := 18, constantValue := 0 }, { name := "JLA", type := (.object "jdk/internal/access/JavaLangAccess"), accessFlags := 26, slot := 19, constantValue := 0 }, { name := "SOFT_MAX_ARRAY_LENGTH", type := .int, accessFlags := 25, slot := 20, constantValue := 0 }]
  methods := #[k20m0]
  instanceTypes := #[]
  staticTypes := #[(.object "jdk/internal/misc/Unsafe"), .boolean, .int, .int, .int, .int, .int, .int, .int, .int, .int, .int, .int, .int, .int, .int, .int, .int, .int, (.object "jdk/internal/access/JavaLangAccess"), .int]
  resolved := Array.replicate 378 none
  statics := none }

def pool21 : Array CpInfo := pool [(1, u "java/lang/Cloneable"), (0, .class_ 1), (0, u "java/lang/Object"), (0, .class_ 3)] 3

/-- java/lang/Cloneable -/
def k21 : Class := { plain "java/lang/Cloneable" (some 0) with
  accessFlags := 1537
  interfaces := #[]
  cf := some (fileOf pool21 2 #[] #[] 1537 4 #[] #[])
  fields := #[]
  methods := #[]
  instanceTypes := #[]
  staticTypes := #[]
  resolved := Array.replicate 8 none
  statics := none }

/-- the primitive byte -/
def k22 : Class := { plain "byte" none with kind := .primitive 'B', accessFlags := 0x411 }
/-- [B -/
def k23 : Class := { plain "[B" (some 0) with kind := .array 22 .byte, interfaces := #[21, 2], accessFlags := 1041 }

/-- the primitive char -/
def k24 : Class := { plain "char" none with kind := .primitive 'C', accessFlags := 0x411 }
/-- [C -/
def k25 : Class := { plain "[C" (some 0) with kind := .array 24 .char, interfaces := #[21, 2], accessFlags := 1041 }

/-- the primitive int -/
def k26 : Class := { plain "int" none with kind := .primitive 'I', accessFlags := 0x411 }
/-- [I -/
def k27 : Class := { plain "[I" (some 0) with kind := .array 26 .int, interfaces := #[21, 2], accessFlags := 1041 }

def heap : Heap := #[{ cls := 7, slots := #[.long 0, .int 1, .null, .int 0, .null, .int 0, .int 0], vm := .statics 7 },
  { cls := 11, slots := #[.ref 5], vm := .statics 11 },
  { cls := 17, slots := #[.null, .ref 4, .null], vm := .statics 17 },
  { cls := 19, slots := #[.null, .null, .null], vm := .statics 19 },
  { cls := 17, slots := #[.null, .null], vm := .none },
  { cls := 11, slots := #[.null], vm := .none }]
def classes : Array Class := #[k0, k1, k2, k3, k4, k5, k6, k7, k8, k9, k10, k11, k12, k13, k14, k15, k16, k17, k18, k19, k20, k21, k22, k23, k24, k25, k26, k27]
def interned : List (Array UInt16 × Addr) := []
def slotsUsed : Nat := 17
def theMethod : MethodId := ⟨1, 1⟩
def args0 : Array Value := #[.int 5, .int 5, .int 5]
def aboutOver (below : List Frame) : State where
  vm := { classes := classes, interned := interned.toArray }
  heap := heap
  slotsUsed := slotsUsed
  threads := #[{ frames := .invoking theMethod args0 :: below }]
def below0 : List Frame := [.native { method := ⟨0, 0⟩, args := #[] }]
def about1 : State := aboutOver below0
def p0 : Program := .bare "" "" ""
def e0 : Env := launch0.env 0 0 0
theorem w_frames : about1.frames = Frame.invoking theMethod args0 :: below0 := rfl
set_option maxRecDepth 65536 in
theorem w_args : argsFit about1.vm theMethod args0 = true := by decide +kernel
set_option maxRecDepth 65536 in
theorem w_heap : heapFits about1 = true := by decide +kernel
set_option maxRecDepth 65536 in
theorem w_runnable : about1.curStatus? = some .runnable := by decide +kernel
set_option maxRecDepth 65536 in
theorem w_alone : about1.alone = true := by decide +kernel
set_option maxRecDepth 65536 in
theorem w_named : about1.methodNamed? x = some theMethod := by decide +kernel
set_option maxRecDepth 65536 in
theorem w_hears : about1.hears theMethod below0 = true := by decide +kernel
set_option maxRecDepth 65536 in
theorem w_ripe : about1.ripe theMethod args0 below0 = true := by decide +kernel
theorem w_running : about1.status = .running := rfl
set_option maxRecDepth 65536 in
theorem w_room : about1.hasRoom e0.platform room_1 = true :=
  launch0.hasRoom_least _ room_1 (by decide +kernel) (by decide +kernel) (by decide +kernel) (by decide +kernel) (by decide +kernel) (by decide +kernel)
theorem allAtoms_all (ts : List Jvm.Cond) (a : Array Jvm.Value) (st : Jvm.State) : (allAtoms ts).before a st = ts.all (fun c => c.before a st) := by
  induction ts with
  | nil => rfl
  | cons c t ih =>
    show (Jvm.Cond.and c (allAtoms t)).before a st = _
    rw [Jvm.Cond.before_and, ih, List.all_cons]
def words1 : List Jvm.Cond := Jvm.Cond.code x code maxLocals ret :: tables_1
/-- a 'code' word, met by the world's own term for the bytes: nothing is compared byte by byte -/
theorem code_word {y : MethodName} {bytes : ByteArray} {mx : Nat} {rt : Option FieldType} {a : Array Value} {s : State} {m : MethodId} {meth : Method} {c : Code} (h1 : s.methodNamed? y = some m) (h2 : s.vm.method? m = some meth) (h3 : meth.code = some c) (h4 : c.code = bytes)
    (h5 : (c.maxLocals == mx && c.exceptionTable.isEmpty && decide (c.maxStack ≤ mostOperands) && decide (meth.sig.returnType = rt) && !meth.locks && decide (parseMethodDescriptor y.desc = some meth.sig)) = true) : (Jvm.Cond.code y bytes mx rt).before a s = true := by
  simp only [Bool.and_eq_true, beq_iff_eq, Bool.not_eq_true', decide_eq_true_eq] at h5
  obtain ⟨⟨⟨⟨⟨g1, g2⟩, g3⟩, g4⟩, g5⟩, g6⟩ := h5
  simp [Cond.before, Cond.holds, Cond.value, h1, h2, h3, h4, g1, g2, g3, g4, g5, g6]
def isCode : Jvm.Cond → Bool
  | .code _ _ _ _ => true
  | _ => false
theorem all_split {L : List Jvm.Cond} {P : Jvm.Cond → Bool} (h1 : L.all (fun c => isCode c || P c) = true) (h2 : ∀ c ∈ L.filter isCode, P c = true) : L.all P = true := by
  refine List.all_eq_true.mpr fun c hc => ?_
  have h := List.all_eq_true.mp h1 c hc
  rcases Bool.eq_false_or_eq_true (isCode c) with hi | hi
  · exact h2 c (List.mem_filter.mpr ⟨hc, hi⟩)
  · simpa [hi] using h
set_option maxRecDepth 65536 in
theorem w_c0 : (Jvm.Cond.code x code maxLocals ret).before args0 about1 = true := code_word (m := ⟨1, 1⟩) (meth := k1m1) (c := k1c1) (by decide +kernel) rfl rfl rfl (by decide +kernel)
set_option maxRecDepth 65536 in
theorem w_c1 : (Jvm.Cond.code ({ cls := "java/lang/String", name := "<init>", desc := "([C)V" } : Jvm.MethodName) jdk_42_method_3_code (2 : Nat) (Option.none : Option Jvm.ClassFile.FieldType)).before args0 about1 = true := code_word (m := ⟨7, 1⟩) (meth := k7m1) (c := k7c1) (by decide +kernel) rfl rfl rfl (by decide +kernel)
set_option maxRecDepth 65536 in
theorem w_c2 : (Jvm.Cond.code ({ cls := "java/lang/String", name := "<init>", desc := "([CIILjava/lang/Void;)V" } : Jvm.MethodName) jdk_42_method_149_code (6 : Nat) (Option.none : Option Jvm.ClassFile.FieldType)).before args0 about1 = true := code_word (m := ⟨7, 3⟩) (meth := k7m3) (c := k7c3) (by decide +kernel) rfl rfl rfl (by decide +kernel)
set_option maxRecDepth 65536 in
theorem w_c3 : (Jvm.Cond.code ({ cls := "java/lang/Object", name := "<init>", desc := "()V" } : Jvm.MethodName) object_method_1_code (1 : Nat) (Option.none : Option Jvm.ClassFile.FieldType)).before args0 about1 = true := code_word (m := ⟨0, 0⟩) (meth := k0m0) (c := k0c0) (by decide +kernel) rfl rfl rfl (by decide +kernel)
set_option maxRecDepth 65536 in
theorem w_c4 : (Jvm.Cond.code ({ cls := "java/lang/StringUTF16", name := "compress", desc := "([CII)[B" } : Jvm.MethodName) jdk_52_method_16_code (6 : Nat) (Option.some (Jvm.ClassFile.FieldType.array Jvm.ClassFile.FieldType.byte))).before args0 about1 = true := code_word (m := ⟨8, 2⟩) (meth := k8m2) (c := k8c2) (by decide +kernel) rfl rfl rfl (by decide +kernel)
set_option maxRecDepth 65536 in
theorem w_c5 : (Jvm.Cond.code ({ cls := "java/lang/StringUTF16", name := "compress", desc := "([CI[BII)I" } : Jvm.MethodName) jdk_52_method_21_code (7 : Nat) (Option.some Jvm.ClassFile.FieldType.int)).before args0 about1 = true := code_word (m := ⟨8, 3⟩) (meth := k8m3) (c := k8c3) (by decide +kernel) rfl rfl rfl (by decide +kernel)
set_option maxRecDepth 65536 in
theorem w_c6 : (Jvm.Cond.code ({ cls := "java/lang/StringUTF16", name := "coderFromArrayLen", desc := "([BI)B" } : Jvm.MethodName) jdk_52_method_15_code (2 : Nat) (Option.some Jvm.ClassFile.FieldType.byte)).before args0 about1 = true := code_word (m := ⟨8, 1⟩) (meth := k8m1) (c := k8c1) (by decide +kernel) rfl rfl rfl (by decide +kernel)
set_option maxRecDepth 65536 in
theorem w_c7 : (Jvm.Cond.code ({ cls := "com/example/miki_basin/mikibasin/Figure", name := "notApplicable", desc := "()Lcom/example/miki_basin/mikibasin/Figure;" } : Jvm.MethodName) prog_8_method_6_code (0 : Nat) (Option.some (Jvm.ClassFile.FieldType.object "com/example/miki_basin/mikibasin/Figure"))).before args0 about1 = true := code_word (m := ⟨10, 2⟩) (meth := k10m2) (c := k10c2) (by decide +kernel) rfl rfl rfl (by decide +kernel)
set_option maxRecDepth 65536 in
theorem w_c8 : (Jvm.Cond.code ({ cls := "com/example/miki_basin/mikibasin/Figure", name := "<init>", desc := "(Ljava/math/BigDecimal;Lcom/example/miki_basin/mikibasin/Rational;Lcom/example/miki_basin/mikibasin/Formula;)V" } : Jvm.MethodName) prog_8_method_1_code (4 : Nat) (Option.none : Option Jvm.ClassFile.FieldType)).before args0 about1 = true := code_word (m := ⟨10, 0⟩) (meth := k10m0) (c := k10c0) (by decide +kernel) rfl rfl rfl (by decide +kernel)
set_option maxRecDepth 65536 in
theorem w_c9 : (Jvm.Cond.code ({ cls := "java/util/Optional", name := "empty", desc := "()Ljava/util/Optional;" } : Jvm.MethodName) jdk_32_method_1_code (1 : Nat) (Option.some (Jvm.ClassFile.FieldType.object "java/util/Optional"))).before args0 about1 = true := code_word (m := ⟨11, 0⟩) (meth := k11m0) (c := k11c0) (by decide +kernel) rfl rfl rfl (by decide +kernel)
set_option maxRecDepth 65536 in
theorem w_c10 : (Jvm.Cond.code ({ cls := "java/util/Optional", name := "of", desc := "(Ljava/lang/Object;)Ljava/util/Optional;" } : Jvm.MethodName) jdk_32_method_3_code (1 : Nat) (Option.some (Jvm.ClassFile.FieldType.object "java/util/Optional"))).before args0 about1 = true := code_word (m := ⟨11, 2⟩) (meth := k11m2) (c := k11c2) (by decide +kernel) rfl rfl rfl (by decide +kernel)
set_option maxRecDepth 65536 in
theorem w_c11 : (Jvm.Cond.code ({ cls := "java/util/Objects", name := "requireNonNull", desc := "(Ljava/lang/Object;)Ljava/lang/Object;" } : Jvm.MethodName) jdk_31_method_10_code (1 : Nat) (Option.some (Jvm.ClassFile.FieldType.object "java/lang/Object"))).before args0 about1 = true := code_word (m := ⟨12, 1⟩) (meth := k12m1) (c := k12c1) (by decide +kernel) rfl rfl rfl (by decide +kernel)
set_option maxRecDepth 65536 in
theorem w_c12 : (Jvm.Cond.code ({ cls := "java/util/Optional", name := "<init>", desc := "(Ljava/lang/Object;)V" } : Jvm.MethodName) jdk_32_method_2_code (2 : Nat) (Option.none : Option Jvm.ClassFile.FieldType)).before args0 about1 = true := code_word (m := ⟨11, 1⟩) (meth := k11m1) (c := k11c1) (by decide +kernel) rfl rfl rfl (by decide +kernel)
set_option maxRecDepth 65536 in
theorem w_c13 : (Jvm.Cond.code ({ cls := "com/example/miki_basin/mikibasin/Copy$Held", name := "<init>", desc := "(Ljava/lang/String;Ljava/util/Optional;Ljava/lang/String;Ljava/util/Optional;)V" } : Jvm.MethodName) prog_4_method_1_code (5 : Nat) (Option.none : Option Jvm.ClassFile.FieldType)).before args0 about1 = true := code_word (m := ⟨14, 0⟩) (meth := k14m0) (c := k14c0) (by decide +kernel) rfl rfl rfl (by decide +kernel)
set_option maxRecDepth 65536 in
theorem w_c14 : (Jvm.Cond.code ({ cls := "java/lang/Record", name := "<init>", desc := "()V" } : Jvm.MethodName) jdk_30_method_1_code (1 : Nat) (Option.none : Option Jvm.ClassFile.FieldType)).before args0 about1 = true := code_word (m := ⟨13, 0⟩) (meth := k13m0) (c := k13c0) (by decide +kernel) rfl rfl rfl (by decide +kernel)
set_option maxRecDepth 65536 in
theorem w_c15 : (Jvm.Cond.code ({ cls := "com/example/miki_basin/mikibasin/Copy$Held", name := "pair", desc := "()Ljava/util/Optional;" } : Jvm.MethodName) prog_4_method_2_code (1 : Nat) (Option.some (Jvm.ClassFile.FieldType.object "java/util/Optional"))).before args0 about1 = true := code_word (m := ⟨14, 1⟩) (meth := k14m1) (c := k14c1) (by decide +kernel) rfl rfl rfl (by decide +kernel)
set_option maxRecDepth 65536 in
theorem w_c16 : (Jvm.Cond.code ({ cls := "java/util/Optional", name := "isEmpty", desc := "()Z" } : Jvm.MethodName) jdk_32_method_7_code (1 : Nat) (Option.some Jvm.ClassFile.FieldType.boolean)).before args0 about1 = true := code_word (m := ⟨11, 5⟩) (meth := k11m5) (c := k11c5) (by decide +kernel) rfl rfl rfl (by decide +kernel)
set_option maxRecDepth 65536 in
theorem w_c17 : (Jvm.Cond.code ({ cls := "java/util/Optional", name := "isPresent", desc := "()Z" } : Jvm.MethodName) jdk_32_method_6_code (1 : Nat) (Option.some Jvm.ClassFile.FieldType.boolean)).before args0 about1 = true := code_word (m := ⟨11, 4⟩) (meth := k11m4) (c := k11c4) (by decide +kernel) rfl rfl rfl (by decide +kernel)
set_option maxRecDepth 65536 in
theorem w_c18 : (Jvm.Cond.code ({ cls := "java/util/Optional", name := "get", desc := "()Ljava/lang/Object;" } : Jvm.MethodName) jdk_32_method_5_code (1 : Nat) (Option.some (Jvm.ClassFile.FieldType.object "java/lang/Object"))).before args0 about1 = true := code_word (m := ⟨11, 3⟩) (meth := k11m3) (c := k11c3) (by decide +kernel) rfl rfl rfl (by decide +kernel)
set_option maxRecDepth 65536 in
theorem w_c19 : (Jvm.Cond.code ({ cls := "com/example/miki_basin/mikibasin/Copy", name := "<init>", desc := "(Ljava/lang/String;Lcom/example/miki_basin/mikibasin/Figure;)V" } : Jvm.MethodName) prog_3_method_1_code (3 : Nat) (Option.none : Option Jvm.ClassFile.FieldType)).before args0 about1 = true := code_word (m := ⟨16, 0⟩) (meth := k16m0) (c := k16c0) (by decide +kernel) rfl rfl rfl (by decide +kernel)
set_option maxRecDepth 65536 in
theorem w_c20 : (Jvm.Cond.code ({ cls := "com/example/miki_basin/mikibasin/Copy$Pair", name := "<init>", desc := "(Lcom/example/miki_basin/mikibasin/Copy;Lcom/example/miki_basin/mikibasin/Copy;)V" } : Jvm.MethodName) prog_5_method_1_code (3 : Nat) (Option.none : Option Jvm.ClassFile.FieldType)).before args0 about1 = true := code_word (m := ⟨15, 0⟩) (meth := k15m0) (c := k15c0) (by decide +kernel) rfl rfl rfl (by decide +kernel)
set_option maxRecDepth 65536 in
theorem w_c21 : (Jvm.Cond.code ({ cls := "com/example/miki_basin/mikibasin/Copy$Pair", name := "copy", desc := "()Lcom/example/miki_basin/mikibasin/Copy;" } : Jvm.MethodName) prog_5_method_6_code (1 : Nat) (Option.some (Jvm.ClassFile.FieldType.object "com/example/miki_basin/mikibasin/Copy"))).before args0 about1 = true := code_word (m := ⟨15, 1⟩) (meth := k15m1) (c := k15c1) (by decide +kernel) rfl rfl rfl (by decide +kernel)
set_option maxRecDepth 65536 in
theorem w_c22 : (Jvm.Cond.code ({ cls := "com/example/miki_basin/mikibasin/Copy$Pair", name := "other", desc := "()Lcom/example/miki_basin/mikibasin/Copy;" } : Jvm.MethodName) prog_5_method_7_code (1 : Nat) (Option.some (Jvm.ClassFile.FieldType.object "com/example/miki_basin/mikibasin/Copy"))).before args0 about1 = true := code_word (m := ⟨15, 2⟩) (meth := k15m2) (c := k15c2) (by decide +kernel) rfl rfl rfl (by decide +kernel)
set_option maxRecDepth 65536 in
theorem w_c23 : (Jvm.Cond.code ({ cls := "com/example/miki_basin/mikibasin/Copy", name := "name", desc := "()Ljava/lang/String;" } : Jvm.MethodName) prog_3_method_6_code (1 : Nat) (Option.some (Jvm.ClassFile.FieldType.object "java/lang/String"))).before args0 about1 = true := code_word (m := ⟨16, 1⟩) (meth := k16m1) (c := k16c1) (by decide +kernel) rfl rfl rfl (by decide +kernel)
set_option maxRecDepth 65536 in
theorem w_c24 : (Jvm.Cond.code ({ cls := "java/lang/String", name := "equals", desc := "(Ljava/lang/Object;)Z" } : Jvm.MethodName) jdk_42_method_66_code (3 : Nat) (Option.some Jvm.ClassFile.FieldType.boolean)).before args0 about1 = true := code_word (m := ⟨7, 2⟩) (meth := k7m2) (c := k7c2) (by decide +kernel) rfl rfl rfl (by decide +kernel)
set_option maxRecDepth 65536 in
theorem w_c25 : (Jvm.Cond.code ({ cls := "com/example/miki_basin/mikibasin/Copy", name := "figure", desc := "()Lcom/example/miki_basin/mikibasin/Figure;" } : Jvm.MethodName) prog_3_method_7_code (1 : Nat) (Option.some (Jvm.ClassFile.FieldType.object "com/example/miki_basin/mikibasin/Figure"))).before args0 about1 = true := code_word (m := ⟨16, 2⟩) (meth := k16m2) (c := k16c2) (by decide +kernel) rfl rfl rfl (by decide +kernel)
set_option maxRecDepth 65536 in
theorem w_c26 : (Jvm.Cond.code ({ cls := "com/example/miki_basin/mikibasin/Figure", name := "blank", desc := "()Lcom/example/miki_basin/mikibasin/Figure;" } : Jvm.MethodName) prog_8_method_5_code (0 : Nat) (Option.some (Jvm.ClassFile.FieldType.object "com/example/miki_basin/mikibasin/Figure"))).before args0 about1 = true := code_word (m := ⟨10, 1⟩) (meth := k10m1) (c := k10c1) (by decide +kernel) rfl rfl rfl (by decide +kernel)
def codes1 : List Jvm.Cond := [Jvm.Cond.code x code maxLocals ret, Jvm.Cond.code ({ cls := "java/lang/String", name := "<init>", desc := "([C)V" } : Jvm.MethodName) jdk_42_method_3_code (2 : Nat) (Option.none : Option Jvm.ClassFile.FieldType), Jvm.Cond.code ({ cls := "java/lang/String", name := "<init>", desc := "([CIILjava/lang/Void;)V" } : Jvm.MethodName) jdk_42_method_149_code (6 : Nat) (Option.none : Option Jvm.ClassFile.FieldType), Jvm.Cond.code ({ cls := "java/lang/Object", name := "<init>", desc := "()V" } : Jvm.MethodName) object_method_1_code (1 : Nat) (Option.none : Option Jvm.ClassFile.FieldType), Jvm.Cond.code ({ cls := "java/lang/StringUTF16", name := "compress", desc := "([CII)[B" } : Jvm.MethodName) jdk_52_method_16_code (6 : Nat) (Option.some (Jvm.ClassFile.FieldType.array Jvm.ClassFile.FieldType.byte)), Jvm.Cond.code ({ cls := "java/lang/StringUTF16", name := "compress", desc := "([CI[BII)I" } : Jvm.MethodName) jdk_52_method_21_code (7 : Nat) (Option.some Jvm.ClassFile.FieldType.int), Jvm.Cond.code ({ cls := "java/lang/StringUTF16", name := "coderFromArrayLen", desc := "([BI)B" } : Jvm.MethodName) jdk_52_method_15_code (2 : Nat) (Option.some Jvm.ClassFile.FieldType.byte), Jvm.Cond.code ({ cls := "com/example/miki_basin/mikibasin/Figure", name := "notApplicable", desc := "()Lcom/example/miki_basin/mikibasin/Figure;" } : Jvm.MethodName) prog_8_method_6_code (0 : Nat) (Option.some (Jvm.ClassFile.FieldType.object "com/example/miki_basin/mikibasin/Figure")), Jvm.Cond.code ({ cls := "com/example/miki_basin/mikibasin/Figure", name := "<init>", desc := "(Ljava/math/BigDecimal;Lcom/example/miki_basin/mikibasin/Rational;Lcom/example/miki_basin/mikibasin/Formula;)V" } : Jvm.MethodName) prog_8_method_1_code (4 : Nat) (Option.none : Option Jvm.ClassFile.FieldType), Jvm.Cond.code ({ cls := "java/util/Optional", name := "empty", desc := "()Ljava/util/Optional;" } : Jvm.MethodName) jdk_32_method_1_code (1 : Nat) (Option.some (Jvm.ClassFile.FieldType.object "java/util/Optional")), Jvm.Cond.code ({ cls := "java/util/Optional", name := "of", desc := "(Ljava/lang/Object;)Ljava/util/Optional;" } : Jvm.MethodName) jdk_32_method_3_code (1 : Nat) (Option.some (Jvm.ClassFile.FieldType.object "java/util/Optional")), Jvm.Cond.code ({ cls := "java/util/Objects", name := "requireNonNull", desc := "(Ljava/lang/Object;)Ljava/lang/Object;" } : Jvm.MethodName) jdk_31_method_10_code (1 : Nat) (Option.some (Jvm.ClassFile.FieldType.object "java/lang/Object")), Jvm.Cond.code ({ cls := "java/util/Optional", name := "<init>", desc := "(Ljava/lang/Object;)V" } : Jvm.MethodName) jdk_32_method_2_code (2 : Nat) (Option.none : Option Jvm.ClassFile.FieldType), Jvm.Cond.code ({ cls := "com/example/miki_basin/mikibasin/Copy$Held", name := "<init>", desc := "(Ljava/lang/String;Ljava/util/Optional;Ljava/lang/String;Ljava/util/Optional;)V" } : Jvm.MethodName) prog_4_method_1_code (5 : Nat) (Option.none : Option Jvm.ClassFile.FieldType), Jvm.Cond.code ({ cls := "java/lang/Record", name := "<init>", desc := "()V" } : Jvm.MethodName) jdk_30_method_1_code (1 : Nat) (Option.none : Option Jvm.ClassFile.FieldType), Jvm.Cond.code ({ cls := "com/example/miki_basin/mikibasin/Copy$Held", name := "pair", desc := "()Ljava/util/Optional;" } : Jvm.MethodName) prog_4_method_2_code (1 : Nat) (Option.some (Jvm.ClassFile.FieldType.object "java/util/Optional")), Jvm.Cond.code ({ cls := "java/util/Optional", name := "isEmpty", desc := "()Z" } : Jvm.MethodName) jdk_32_method_7_code (1 : Nat) (Option.some Jvm.ClassFile.FieldType.boolean), Jvm.Cond.code ({ cls := "java/util/Optional", name := "isPresent", desc := "()Z" } : Jvm.MethodName) jdk_32_method_6_code (1 : Nat) (Option.some Jvm.ClassFile.FieldType.boolean), Jvm.Cond.code ({ cls := "java/util/Optional", name := "get", desc := "()Ljava/lang/Object;" } : Jvm.MethodName) jdk_32_method_5_code (1 : Nat) (Option.some (Jvm.ClassFile.FieldType.object "java/lang/Object")), Jvm.Cond.code ({ cls := "com/example/miki_basin/mikibasin/Copy", name := "<init>", desc := "(Ljava/lang/String;Lcom/example/miki_basin/mikibasin/Figure;)V" } : Jvm.MethodName) prog_3_method_1_code (3 : Nat) (Option.none : Option Jvm.ClassFile.FieldType), Jvm.Cond.code ({ cls := "com/example/miki_basin/mikibasin/Copy$Pair", name := "<init>", desc := "(Lcom/example/miki_basin/mikibasin/Copy;Lcom/example/miki_basin/mikibasin/Copy;)V" } : Jvm.MethodName) prog_5_method_1_code (3 : Nat) (Option.none : Option Jvm.ClassFile.FieldType), Jvm.Cond.code ({ cls := "com/example/miki_basin/mikibasin/Copy$Pair", name := "copy", desc := "()Lcom/example/miki_basin/mikibasin/Copy;" } : Jvm.MethodName) prog_5_method_6_code (1 : Nat) (Option.some (Jvm.ClassFile.FieldType.object "com/example/miki_basin/mikibasin/Copy")), Jvm.Cond.code ({ cls := "com/example/miki_basin/mikibasin/Copy$Pair", name := "other", desc := "()Lcom/example/miki_basin/mikibasin/Copy;" } : Jvm.MethodName) prog_5_method_7_code (1 : Nat) (Option.some (Jvm.ClassFile.FieldType.object "com/example/miki_basin/mikibasin/Copy")), Jvm.Cond.code ({ cls := "com/example/miki_basin/mikibasin/Copy", name := "name", desc := "()Ljava/lang/String;" } : Jvm.MethodName) prog_3_method_6_code (1 : Nat) (Option.some (Jvm.ClassFile.FieldType.object "java/lang/String")), Jvm.Cond.code ({ cls := "java/lang/String", name := "equals", desc := "(Ljava/lang/Object;)Z" } : Jvm.MethodName) jdk_42_method_66_code (3 : Nat) (Option.some Jvm.ClassFile.FieldType.boolean), Jvm.Cond.code ({ cls := "com/example/miki_basin/mikibasin/Copy", name := "figure", desc := "()Lcom/example/miki_basin/mikibasin/Figure;" } : Jvm.MethodName) prog_3_method_7_code (1 : Nat) (Option.some (Jvm.ClassFile.FieldType.object "com/example/miki_basin/mikibasin/Figure")), Jvm.Cond.code ({ cls := "com/example/miki_basin/mikibasin/Figure", name := "blank", desc := "()Lcom/example/miki_basin/mikibasin/Figure;" } : Jvm.MethodName) prog_8_method_5_code (0 : Nat) (Option.some (Jvm.ClassFile.FieldType.object "com/example/miki_basin/mikibasin/Figure"))]
set_option maxRecDepth 65536 in
theorem codes_eq : words1.filter isCode = codes1 := rfl
theorem w_codes : ∀ c ∈ words1.filter isCode, c.before args0 about1 = true := by
  rw [codes_eq]
  intro c hc
  simp only [codes1, List.mem_cons, List.not_mem_nil, or_false] at hc
  rcases hc with rfl | rfl | rfl | rfl | rfl | rfl | rfl | rfl | rfl | rfl | rfl | rfl | rfl | rfl | rfl | rfl | rfl | rfl | rfl | rfl | rfl | rfl | rfl | rfl | rfl | rfl | rfl
  · exact w_c0
  · exact w_c1
  · exact w_c2
  · exact w_c3
  · exact w_c4
  · exact w_c5
  · exact w_c6
  · exact w_c7
  · exact w_c8
  · exact w_c9
  · exact w_c10
  · exact w_c11
  · exact w_c12
  · exact w_c13
  · exact w_c14
  · exact w_c15
  · exact w_c16
  · exact w_c17
  · exact w_c18
  · exact w_c19
  · exact w_c20
  · exact w_c21
  · exact w_c22
  · exact w_c23
  · exact w_c24
  · exact w_c25
  · exact w_c26
set_option maxRecDepth 65536 in
theorem w_t1 : (words1.take 24).all (fun c => isCode c || c.before args0 about1) = true := by decide +kernel
set_option maxRecDepth 65536 in
theorem w_t2 : ((words1.drop 24).take 24).all (fun c => isCode c || c.before args0 about1) = true := by decide +kernel
set_option maxRecDepth 65536 in
theorem w_t3 : (((words1.drop 24).drop 24).take 24).all (fun c => isCode c || c.before args0 about1) = true := by decide +kernel
set_option maxRecDepth 65536 in
theorem w_t4 : ((((words1.drop 24).drop 24).drop 24).take 24).all (fun c => isCode c || c.before args0 about1) = true := by decide +kernel
set_option maxRecDepth 65536 in
theorem w_t5 : (((((words1.drop 24).drop 24).drop 24).drop 24).take 24).all (fun c => isCode c || c.before args0 about1) = true := by decide +kernel
set_option maxRecDepth 65536 in
theorem w_t6 : ((((((words1.drop 24).drop 24).drop 24).drop 24).drop 24).take 24).all (fun c => isCode c || c.before args0 about1) = true := by decide +kernel
set_option maxRecDepth 65536 in
theorem w_t7 : ((((((words1.drop 24).drop 24).drop 24).drop 24).drop 24).drop 24).all (fun c => isCode c || c.before args0 about1) = true := by decide +kernel
theorem w_tables : (allAtoms (Jvm.Cond.code x code maxLocals ret :: tables_1)).before args0 about1 = true := by
  rw [allAtoms_all]
  show words1.all (fun c => c.before args0 about1) = true
  refine all_split ?_ w_codes
  rw [← List.take_append_drop 24 words1, List.all_append, w_t1, ← List.take_append_drop 24 (words1.drop 24), List.all_append, w_t2, ← List.take_append_drop 24 ((words1.drop 24).drop 24), List.all_append, w_t3, ← List.take_append_drop 24 (((words1.drop 24).drop 24).drop 24), List.all_append, w_t4, ← List.take_append_drop 24 ((((words1.drop 24).drop 24).drop 24).drop 24), List.all_append, w_t5, ← List.take_append_drop 24 (((((words1.drop 24).drop 24).drop 24).drop 24).drop 24), List.all_append, w_t6, w_t7]
  rfl
set_option maxRecDepth 65536 in
theorem w_rest : rest_1_c.before args0 about1 = true := by decide +kernel
set_option maxRecDepth 65536 in
theorem w_case : (Jvm.Cond.and given_1 narrow_1).before args0 about1 = true := by decide +kernel
theorem w_applies : (headSpec (Jvm.Cond.code x code maxLocals ret :: tables_1) room_1).applies x e0.platform about1 = true :=
  (Spec.applies_iff w_frames).mpr ⟨w_running, w_runnable, w_alone, w_named, w_hears, w_ripe, w_room, w_tables⟩
theorem atStart : AtStart classFile x code maxLocals ret World_1 tables_1 room_1 Calls_1 rest_1 Pre_1 launch0 p0 e0 about1 theMethod args0 below0 :=
  ⟨lists_1, trivial, launch0.admits_env _ _ _, launch0.least_env, fairChoices_fair.cas, fairChoices_fair.clock, w_frames, w_args, w_heap, w_applies, trivial, w_rest, w_case⟩
end start1
theorem witness_1 : WitnessClaimed_1 := ⟨start1.p0, start1.e0, start1.about1, start1.theMethod, start1.args0, start1.below0, start1.atStart⟩
end Jvm.Pilot.@@N@@
